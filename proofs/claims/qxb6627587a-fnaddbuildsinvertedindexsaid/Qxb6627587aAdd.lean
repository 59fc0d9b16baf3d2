/-
  THE WALK of (*Index).Add (6).
-/
import Derived.Test.Qxb6627587aState
import Derived.Deep.RegionHeld3
import Derived.Deep.RegionLaw
namespace Go.Proofs.Qxb6627587a
open Go.RowKit

/-- the lists when the traits below t of sketch sk have been noted under number k -/
def added (sk : Nat → Nat) (k t : Nat) (M : Nat → List Nat) : Nat → List Nat := fun j => if j / 256 < t ∧ sk (j / 256) = j % 256 then M j ++ [k] else M j

theorem added_zero (sk : Nat → Nat) (k : Nat) (M : Nat → List Nat) : added sk k 0 M = M := by
  funext j; simp [added]
theorem own_form {w : World} {B s n : Nat} {e : TypeId} {v : Value} {xs : List Value} (h : w.ownsRow B e s v n xs) : ∃ a cap, v = .slice a n cap := by
  rcases h.2 with ⟨rfl, rfl⟩ | ⟨g, cap, cur, rfl, _⟩
  · exact ⟨_, _, rfl⟩
  · exact ⟨_, _, rfl⟩
theorem add_at0 (b o j : Nat) : (⟨b, o, none⟩ : Addr).add j = ⟨b, o + j, none⟩ := by
  unfold Addr.add; split <;> simp_all
theorem at26 {xb t : Nat} (ht : t < 32) (w : World) : (Instr.indexAt 26 (.pointer (some ⟨xb, 0, none⟩)) (.int .i64 (t : Int))).run Try.prog w = .ok (.pointer (some ⟨xb, t * 256, none⟩)) w := by
  rw [run_indexAt_array (P := Try.prog) (w := w) 26 ⟨xb, 0, none⟩ .i64 t (by kernel_rfl)]
  have hl : Try.prog.arrayLen 26 = 32 := by kernel_rfl
  have hz : (sizeOf (Try.prog.elem 26)).run Try.prog w = .ok 256 w := by kernel_rfl
  rw [hl, if_pos (by omega), hz]
  simp [add_at0]
theorem at25 {xb o v : Nat} {k : IntKind} (hv : v < 256) (w : World) : (Instr.indexAt 25 (.pointer (some ⟨xb, o, none⟩)) (.int k (v : Int))).run Try.prog w = .ok (.pointer (some ⟨xb, o + v, none⟩)) w := by
  rw [run_indexAt_array (P := Try.prog) (w := w) 25 ⟨xb, o, none⟩ k v (by kernel_rfl)]
  have hl : Try.prog.arrayLen 25 = 256 := by kernel_rfl
  have hz : (sizeOf (Try.prog.elem 25)).run Try.prog w = .ok 1 w := by kernel_rfl
  rw [hl, if_pos (by omega), hz]
  simp [Addr.add]
theorem size33 : (Try.prog.info? 33).map (·.size) = some 32 := by kernel_rfl
theorem load33 {w : World} {g : Nat} {cs : Array Value} (hg : w.heap[g]? = some (.cells cs 33 (0, 0))) (hs : cs.size = 32) : (loadVar 33 ⟨g, 0, none⟩).run Try.prog w = .ok (.agg cs) w :=
  run_loadVar_row w g 33 33 cs (0, 0) _ hg Try.underlying33 rfl (by rw [hs]; exact size33)

/-- 'x.with[t][v] = append(x.with[t][v], n)', as one step of a region that draws -/
theorem step_list {ops : Array Oper} {o : Oper} {a : Act} {w : World} {K : Act → World → Prop} {Q : Exit → Act → World → Prop} {E : Prop} (hgd : o.guard = none) (s x : Operand)
    (hop : o.op = Op.call { callee := Callee.builtin Builtin.append, args := #[s, x], argTypes := #[24, 24] })
    {B xb kg ks : Nat} {V : Nat → Value} {M : Nat → List Nat} {G S : Value} (h : IdxIs w B xb kg ks V M G S) (hBw : B ≤ w.heap.size) (j : Nat) (hj : j < 8192) (la : Option Addr) (n lc : Nat) (hV : V j = .slice la n lc) (hn : (M j).length = n) (hn4 : n ≤ 4096)
    (hs : a.eval s = .slice la n lc) (Bk c k : Nat) (hx : a.eval x = .slice (some ⟨Bk, 0, none⟩) 1 c) (hBk : w.heap[Bk]? = some (.cells #[.int .i64 (k : Int)] 3 (0, 0)))
    (hK : ∀ g cap w1, IdxIs (w1.setCell ⟨xb, j, none⟩ (.slice (some ⟨g, 0, none⟩) (n + 1) cap)) B xb kg ks (fun i => if i = j then .slice (some ⟨g, 0, none⟩) (n + 1) cap else V i) (fun i => if i = j then M j ++ [k] else M i) G S →
      w1.cell? ⟨xb, j, none⟩ = some (.slice la n lc) → w1.frozen? ⟨xb, j, none⟩ = false → Below B w w1 → K (a.put o.dst (.slice (some ⟨g, 0, none⟩) (n + 1) cap)) w1) :
    if Region.wanted o (yielded ops a.tmps) = true then Oper.wp Try.prog o a w K Q else E := by
  obtain ⟨i0, hi, hz0, hz1, hz2⟩ := info_parts Try.info3
  have hown := h.own j hj
  rw [hV, hn] at hown
  have hxne : (Value.slice la n lc).ownBlock ≠ some xb := by obtain ⟨c, hc, _⟩ := h.blk; exact own_ne hown hc (by decide)
  refine step_append_lies w hgd s x 24 hop B 3 i0 _ 1 8 Try.underlying24 hi hz0 hz1 hz2 rfl (by decide) _ n _ hs hown ⟨Bk, 0, none⟩ 1 c [.int .i64 (k : Int)] hx rfl (World.news_of_block hBk) ?_ (by decide) (by unfold maxLen; omega) (by omega) hBw w.heap.size rfl ?_
  · intro u hu
    simp at hu
    subst hu; rfl
  · intro g cap w1 ho hg hat hlt
    have hg' : w.grownBy w1 (V j).ownBlock := by rw [hV]; exact hg
    have hP := h.push hj hg' (n := k) (m := n + 1) (by rw [hn]) ho (by rw [hV]; exact hat)
    refine hK g cap w1 hP ?_ ?_ ?_
    · rw [hg.cell_far ⟨xb, j, none⟩ h.lt (fun e => hxne e.symm), h.cell hj, hV]
    · rw [hg.frozen_far ⟨xb, j, none⟩ h.lt (fun e => hxne e.symm)]; exact h.frozen j
    · exact (Below.refl B w).grown hg hBw (fun q hq => (hown.lt q hq).1)

/-- 'x.gone = append(x.gone, false)' -/
theorem wpList_gone {ops : Array Oper} {rest : List Oper} {o : Oper} {a : Act} {w : World} {Q : Exit → Act → World → Prop} (hgd : o.guard = none) (s x : Operand)
    (hop : o.op = Op.call { callee := Callee.builtin Builtin.append, args := #[s, x], argTypes := #[27, 27] })
    {B xb kg ks : Nat} {V : Nat → Value} {M : Nat → List Nat} {S : Value} (ga : Option Addr) (gc : Nat) (h : IdxIs w B xb kg ks V M (.slice ga kg gc) S) (hBw : B ≤ w.heap.size) (hn4 : kg ≤ 4096)
    (hs : a.eval s = .slice ga kg gc) (Bk c : Nat) (hx : a.eval x = .slice (some ⟨Bk, 0, none⟩) 1 c) (hBk : w.heap[Bk]? = some (.cells #[.bool false] 4 (0, 0)))
    (hK : ∀ g cap w1, IdxIs (w1.setCell ⟨xb, 8192, none⟩ (.slice (some ⟨g, 0, none⟩) (kg + 1) cap)) B xb (kg + 1) ks V M (.slice (some ⟨g, 0, none⟩) (kg + 1) cap) S →
      w1.cell? ⟨xb, 8192, none⟩ = some (.slice ga kg gc) → w1.cell? ⟨xb, 8193, none⟩ = some S → w1.frozen? ⟨xb, 8192, none⟩ = false → w1.frozen? ⟨xb, 8193, none⟩ = false → xb < w1.heap.size → Below B w w1 → wpList Try.prog ops Q rest (a.put o.dst (.slice (some ⟨g, 0, none⟩) (kg + 1) cap)) w1) :
    wpList Try.prog ops Q (o :: rest) a w := by
  obtain ⟨i0, hi, hz0, hz1, hz2⟩ := info_parts Try.info4
  have hown := h.gone
  have hxne : (Value.slice ga kg gc).ownBlock ≠ some xb := by obtain ⟨c, hc, _⟩ := h.blk; exact own_ne hown hc (by decide)
  refine wpList_append_lies w hgd s x 27 hop B 4 i0 _ 1 1 Try.underlying27 hi hz0 hz1 hz2 rfl (by decide) _ kg _ hs hown ⟨Bk, 0, none⟩ 1 c [.bool false] hx rfl (World.news_of_block hBk) ?_ (by decide) (by unfold maxLen; omega) (by omega) hBw w.heap.size rfl ?_
  · intro u hu
    simp at hu
    subst hu; rfl
  · intro g cap w1 ho hg hat hlt
    refine hK g cap w1 (h.pushG hg ho) ?_ ?_ ?_ ?_ ?_ ?_
    · rw [hg.cell_far ⟨xb, 8192, none⟩ h.lt (fun e => hxne e.symm), h.cellG]
    · rw [hg.cell_far ⟨xb, 8193, none⟩ h.lt (fun e => hxne e.symm), h.cellS]
    · rw [hg.frozen_far ⟨xb, 8192, none⟩ h.lt (fun e => hxne e.symm)]; exact h.frozen _
    · rw [hg.frozen_far ⟨xb, 8193, none⟩ h.lt (fun e => hxne e.symm)]; exact h.frozen _
    · exact Nat.lt_of_lt_of_le h.lt hg.size
    · exact (Below.refl B w).grown hg hBw (fun q hq => (hown.lt q hq).1)
/-- 'x.shares = append(x.shares, agreement{})' -/
theorem wpList_shares {ops : Array Oper} {rest : List Oper} {o : Oper} {a : Act} {w : World} {Q : Exit → Act → World → Prop} (hgd : o.guard = none) (s x : Operand)
    (hop : o.op = Op.call { callee := Callee.builtin Builtin.append, args := #[s, x], argTypes := #[28, 28] })
    {B xb kg ks : Nat} {V : Nat → Value} {M : Nat → List Nat} {G : Value} (ga : Option Addr) (gc : Nat) (h : IdxIs w B xb kg ks V M G (.slice ga ks gc)) (hBw : B ≤ w.heap.size) (hn4 : ks ≤ 4096)
    (hs : a.eval s = .slice ga ks gc) (Bk c : Nat) (hx : a.eval x = .slice (some ⟨Bk, 0, none⟩) 1 c) (hBk : w.heap[Bk]? = some (.cells #[.int .u32 0, .int .u32 0] 42 (0, 0)))
    (hK : ∀ g cap w1, IdxIs (w1.setCell ⟨xb, 8193, none⟩ (.slice (some ⟨g, 0, none⟩) (ks + 1) cap)) B xb kg (ks + 1) V M G (.slice (some ⟨g, 0, none⟩) (ks + 1) cap) →
      w1.cell? ⟨xb, 8193, none⟩ = some (.slice ga ks gc) → w1.frozen? ⟨xb, 8193, none⟩ = false → Below B w w1 → wpList Try.prog ops Q rest (a.put o.dst (.slice (some ⟨g, 0, none⟩) (ks + 1) cap)) w1) :
    wpList Try.prog ops Q (o :: rest) a w := by
  obtain ⟨i0, hi, hz0, hz1, hz2⟩ := info_parts Try.info42
  have hown := h.shares
  have hxne : (Value.slice ga ks gc).ownBlock ≠ some xb := by obtain ⟨c, hc, _⟩ := h.blk; exact own_ne hown hc (by decide)
  refine wpList_append_lies w hgd s x 28 hop B 42 i0 _ 2 8 Try.underlying28 hi hz0 hz1 hz2 rfl (by decide) _ ks _ hs hown ⟨Bk, 0, none⟩ 1 c [.int .u32 0, .int .u32 0] hx rfl (World.news_of_block hBk) ?_ (by decide) (by unfold maxLen; omega) (by omega) hBw w.heap.size rfl ?_
  · intro u hu
    simp at hu
    subst hu; rfl
  · intro g cap w1 ho hg hat hlt
    refine hK g cap w1 (h.pushS hg ho) ?_ ?_ ?_
    · rw [hg.cell_far ⟨xb, 8193, none⟩ h.lt (fun e => hxne e.symm), h.cellS]
    · rw [hg.frozen_far ⟨xb, 8193, none⟩ h.lt (fun e => hxne e.symm)]; exact h.frozen _
    · exact (Below.refl B w).grown hg hBw (fun q hq => (hown.lt q hq).1)

theorem heap_set_alloc (w : World) (a : Addr) (v : Value) (o : Obj) : ((w.setCell a v).alloc o).heap[w.heap.size]? = some o := by
  have h := heap_alloc_new (w.setCell a v) o
  rwa [World.size_setCell] at h

theorem added_len (sk : Nat → Nat) (k t : Nat) (M : Nat → List Nat) (j : Nat) (h : (M j).length ≤ k) : (added sk k t M j).length ≤ k + 1 := by
  unfold added; split
  · simp; omega
  · omega
theorem added_at (sk : Nat → Nat) (k t : Nat) (M : Nat → List Nat) (hs : sk t < 256) : added sk k t M (t * 256 + sk t) = M (t * 256 + sk t) := by
  unfold added
  rw [if_neg]
  omega
theorem added_succ (sk : Nat → Nat) (k t : Nat) (M : Nat → List Nat) (hs : sk t < 256) :
    (fun i => if i = t * 256 + sk t then M (t * 256 + sk t) ++ [k] else added sk k t M i) = added sk k (t + 1) M := by
  funext i
  by_cases e : i = t * 256 + sk t
  · rw [if_pos e]
    unfold added
    have h1 : i / 256 = t := by omega
    have h2 : i % 256 = sk t := by omega
    rw [if_pos ⟨by omega, by rw [h1, h2]⟩, ← e]
  · rw [if_neg e]
    unfold added
    by_cases h1 : i / 256 = t
    · have h2 : ¬ (sk (i / 256) = i % 256) := by
        rw [h1]; intro h3; omega
      rw [if_neg (fun h => h2 h.2), if_neg (fun h => h2 h.2)]
    · by_cases h4 : i / 256 < t ∧ sk (i / 256) = i % 256
      · rw [if_pos h4, if_pos ⟨by omega, h4.2⟩]
      · rw [if_neg h4, if_neg (fun h => h4 ⟨by omega, h.2⟩)]

set_option maxHeartbeats 1000000 in
theorem add_walk (B xb k : Nat) (V : Nat → Value) (M : Nat → List Nat) (G S : Value) (sk : Nat → Nat) (cs : Array Value) (w : World) (h : IdxIs w B xb k k V M G S) (hB : B ≤ w.heap.size) (hk : k ≤ 4096) (hs : ∀ t, t < 32 → sk t < 256)
    (hM : ∀ j, j < 8192 → (M j).length ≤ k) (hcs : cs.size = 32) (hc : ∀ t, t < 32 → cs[t]? = some (.int .u8 (sk t : Int))) :
    Calls Try.prog 6 #[.pointer (some ⟨xb, 0, none⟩), .agg cs] w fun e w' => e = .returned (.int .i64 k) ∧ (∃ V' G' S', IdxIs w' B xb (k + 1) (k + 1) V' (added sk k 32 M) G' S') ∧ Below B w w' := by
  have hb0 : Below w.heap.size w (w.alloc (.cells cs 33)) := (Below.refl _ _).alloc (Nat.le_refl _) _
  have hI := h.below hb0
  have hb1 : Below B w (w.alloc (.cells cs 33)) := hb0.mono hB
  obtain ⟨ga, gc, rfl⟩ := own_form h.gone
  have hcG := h.cellG
  have hlt := h.lt
  have hsz : (Try.prog.info? 33).map (·.size) = some cs.size := by rw [hcs]; exact size33
  have HC : Hid (∀ t, t < 32 → cs[t]? = some (.int .u8 (sk t : Int))) := hc
  clear h hb0 hcs hc
  go_enter Try.func6, Try.ntmps6
  go_wp2_with (refine wpList_load_row rfl 33 (.tmp 3) rfl w.heap.size rfl 33 cs (0, 0) _ (heap_alloc_new w _) Try.underlying33 rfl hsz ?_)
  go_loopw [14] (fun i wr => ∃ t : Nat, t ≤ 32 ∧ i = .int .i64 t ∧ (∃ V' : Nat → Value, IdxIs wr B xb k k V' (added sk k t M) (.slice ga k gc) S) ∧ Below B w wr) (fun i _ => 32 - (intOf i).toNat)
  case atStart => exact ⟨0, Nat.zero_le _, rfl, ⟨V, by rw [added_zero]; exact hI⟩, hb1⟩
  case round =>
    clear hI hb1 hcG hlt
    obtain ⟨t, ht, rfl, ⟨U, hU⟩, hbel⟩ := hrel
    by_cases htn : t < 32
    · have hix := idx33 htn (HC.out t htn)
      have hst := hs t htn
      have hj : t * 256 + sk t < 8192 := by omega
      have hMj := hM _ hj
      obtain ⟨la, lc, hV⟩ := own_form (hU.own _ hj)
      rw [added_at sk k t M hst] at hV
      obtain ⟨n, hn⟩ : ∃ n, (M (t * 256 + sk t)).length = n := ⟨_, rfl⟩
      rw [hn] at hV hMj
      have hc1 := hU.cell hj
      rw [hV] at hc1
      have hws := hbel.size
      have hbd : Below wr.heap.size wr (wr.alloc (.cells #[.int .i64 (k : Int)] 3)).drew := ((Below.refl _ _).alloc (Nat.le_refl _) _).drew
      have hUd := hU.below hbd
      have hsd : B ≤ (wr.alloc (.cells #[.int .i64 (k : Int)] 3)).drew.heap.size := by have := hbd.size; omega
      have hcd : (wr.alloc (.cells #[.int .i64 (k : Int)] 3)).cell? ⟨xb, t * 256 + sk t, none⟩ = some (.slice la n lc) := by
        rw [← hV]; exact hUd.cell hj
      have hgd : (wr.alloc (.cells #[.int .i64 (k : Int)] 3)).drew.heap[wr.heap.size]? = some (.cells #[.int .i64 (k : Int)] 3 (0, 0)) := heap_alloc_new wr _
      have hx1 : ∀ w', (Instr.indexAt 26 (.pointer (some ⟨xb, 0, none⟩)) (.int .i64 (t : Int))).run Try.prog w' = .ok (.pointer (some ⟨xb, t * 256, none⟩)) w' := fun w' => at26 htn w'
      have hx2 : ∀ w', (Instr.indexAt 25 (.pointer (some ⟨xb, t * 256, none⟩)) (.int .u8 (sk t : Int))).run Try.prog w' = .ok (.pointer (some ⟨xb, t * 256 + sk t, none⟩)) w' := fun w' => at25 hst w'
      clear hM hs
      go_wp2
      go_region_law (refine step_list rfl (.tmp 28) (.tmp 30) rfl hUd hsd _ hj la n lc hV (by rw [added_at sk k t M hst]; exact hn) (by omega) (by simp [Act.eval]) wr.heap.size 1 k (by simp [Act.eval]) hgd ?_; intro g cap w1 hU1 hc1 hf1 hb1)
      all_goals
        rw [added_at sk k t M hst, added_succ sk k t M hst] at hU1
        have hb2 : Below B w (w1.setCell ⟨xb, t * 256 + sk t, none⟩ (.slice (some ⟨g, 0, none⟩) (n + 1) cap)) := ((hbel.trans (hbd.mono (by omega))).trans hb1).setCell hU.base _
        clear hcd hgd hUd hsd hbd hc1 hf1 hb1 hU hix hx1 hx2 hV
        generalize w1.setCell ⟨xb, t * 256 + sk t, none⟩ (.slice (some ⟨g, 0, none⟩) (n + 1) cap) = W2 at *
        go_wp2
        go_roundw
        case rel => exact ⟨t + 1, by omega, by go_num, ⟨_, hU1⟩, hb2⟩
        case measure => simp [intOf]; omega
    · have e : t = 32 := by omega
      subst e
      have hws := hbel.size
      have hlt := hU.lt
      have hcG := hU.cellG
      obtain ⟨sa, sc, rfl⟩ := own_form hU.shares
      have hbd : Below wr.heap.size wr (wr.alloc (.cells #[.bool false] 4)) := (Below.refl _ _).alloc (Nat.le_refl _) _
      have hUd := hU.below hbd
      have hsd : B ≤ (wr.alloc (.cells #[.bool false] 4)).heap.size := by have := hbd.size; omega
      have hbB := hbel.trans (hbd.mono (by omega))
      have hgd := heap_alloc_new wr (.cells #[.bool false] 4)
      have hbase := hU.base
      clear hU hbd hM hs
      go_wp2_with (first
        | (refine wpList_gone rfl (.tmp 41) (.tmp 42) rfl ga gc hUd hsd hk rfl wr.heap.size 1 rfl hgd ?_; intro g cap w1 hU1 hc1 hc2 hf1 hf2 hlt1 hb1; clear hUd hgd)
        | (refine wpList_shares rfl (.tmp 50) (.tmp 52) rfl sa sc (hU1.below ((Below.refl _ _).alloc (Nat.le_refl _) _)) (by have := hb1.size; simp; omega) hk rfl w1.heap.size 1 rfl (heap_set_alloc _ _ _ _) ?_; intro g2 cap2 w2 hU2 hc3 hf3 hb3))
      have hb4 : Below B w w2 := ((hbB.trans hb1).setCell (p := ⟨xb, 8192, none⟩) hbase _ |>.alloc (by have := hb1.size; simp; omega) _).trans hb3
      go_ret
      exact ⟨rfl, ⟨_, _, _, hU2⟩, hb4.setCell hbase _⟩
end Go.Proofs.Qxb6627587a
