/-
  THE WALK of FnHolderSitesInsertOneAtAnyPlace (4).
-/
import Derived.Test.Qxb6627500aInsPlain
namespace Go.Proofs.Qxb6627500a
open Go.RowKit

theorem Try.info34 : (Try.prog.info? 34).map (fun i => (i.zero, i.size, i.bytes)) = some (some (.agg #[.string ByteArray.empty, .string ByteArray.empty]), 2, 32) := by kernel_rfl

/-- the parameter's own box -/
def Box (w : World) (B : Nat) (p0 p1 : ByteArray) : Prop := B < w.heap.size ∧ w.cell? ⟨B, 0, none⟩ = some (.string p0) ∧ w.cell? ⟨B, 1, none⟩ = some (.string p1)
theorem Box.below {w w' : World} {B C : Nat} {p0 p1 : ByteArray} (h : Box w B p0 p1) (hb : Below C w w') (hC : w.heap.size ≤ C) : Box w' B p0 p1 := by
  obtain ⟨h1, h2, h3⟩ := h
  exact ⟨Nat.lt_of_lt_of_le h1 hb.size, (hb.cell (p := ⟨B, 0, none⟩) (by show B < C; omega)).trans h2, (hb.cell (p := ⟨B, 1, none⟩) (by show B < C; omega)).trans h3⟩
theorem box_new (w : World) (p0 p1 : ByteArray) : Box (w.alloc (.cells #[.string p0, .string p1] 34)) w.heap.size p0 p1 := by
  refine ⟨by simp, ?_, ?_⟩ <;> simp [World.cell?_alloc_new]
theorem heap_one (w : World) (o : Obj) : (w.alloc o).heap[w.heap.size]? = some o := by
  show (w.heap.push o)[w.heap.size]? = some o
  simp

/-- an element of a slice of strings, the index spelt as the walk spells it. -/
theorem IsStrs.elem' {w : World} {a : Option Addr} {n : Nat} {F : Nat → ByteArray} (h : IsStrs w a n F) {k : Nat} (hk : k < n) (cap : Nat) {x : Int} (hx : x = (k : Int)) {s : ByteArray} (hs : F k = s) :
    ∃ b off, b < w.heap.size ∧ w.cell? ⟨b, off, none⟩ = some (.string s) ∧ ∀ w', (Instr.indexAt 25 (.slice a n cap) (.int .i64 x)).run Try.prog w' = .ok (.pointer (some ⟨b, off, none⟩)) w' := by
  subst hx hs
  exact h.elem hk cap

set_option maxRecDepth 10000 in
set_option maxHeartbeats 4000000 in
theorem ins_walk (wt hd p0 p1 : ByteArray) (a : Option Addr) (n cap : Nat) (N S : Nat → ByteArray) (q : Int) (w : World) (hs : wt.size ≤ maxLen)
    (hp : IsPairs w a n N S) (hn : n * 32 ≤ 140737488351232) (hncap : n ≤ cap) :
    Calls Try.prog 4 #[.string wt, .string hd, .slice a n cap, .int .i64 q, .agg #[.string p0, .string p1]] w fun e w' => e = .returned (.bool true) ∧ Below w.heap.size w w' := by
  have hb0 : Below w.heap.size w (w.alloc (.cells #[.string p0, .string p1] 34)) := (Below.refl _ _).alloc (Nat.le_refl _) _
  have hx0 := box_new w p0 p1
  have C13 := zz13 wt hd a n cap N S q p0 p1 (w.alloc (.cells #[.string p0, .string p1] 34)) (hp.below hb0 (Nat.le_refl _)) (by omega)
  go_enter Try.func4, Try.ntmps4
  go_wp2_with fail
  refine C13.mono ?_
  rintro e w1 ⟨⟨b0, rfl⟩, hb1⟩
  obtain ⟨hx0, hx1, hx2⟩ := hx0.below hb1 (Nat.le_refl _)
  have hb := hb0.trans (hb1.mono (by simp))
  clear C13 hb0 hb1
  cases b0
  · go_wp2
    go_ret
    exact ⟨rfl, hb⟩
  by_cases h1 : 1048576 < (wt.size : Int)
  · go_wp2
    go_ret
    exact ⟨rfl, hb⟩
  by_cases h2 : 1048576 < (hd.size : Int)
  · go_wp2
    go_ret
    exact ⟨rfl, hb⟩
  by_cases h3 : 1048576 < (p0.size : Int)
  · go_wp2
    go_ret
    exact ⟨rfl, hb⟩
  by_cases h3' : 1048576 < (p1.size : Int)
  · go_wp2
    go_ret
    exact ⟨rfl, hb⟩
  by_cases h4 : 1048576 < (wt.size : Int) + hd.size + p0.size + p1.size
  · go_wp2
    go_ret
    exact ⟨rfl, hb⟩
  have hpb := hp.below hb (Nat.le_refl _)
  go_wp2_with fail
  refine (add_any _ a n cap N S _ hpb (by omega)).mono ?_
  rintro e w2 ⟨⟨r1, rfl⟩, hb2⟩
  obtain ⟨hx0, hx1, hx2⟩ := Box.below (C := w1.heap.size) ⟨hx0, hx1, hx2⟩ hb2 (Nat.le_refl _)
  have hb02 := hb.trans (hb2.mono hb.size)
  clear hb hb2 hpb
  by_cases h5 : 1048576 < r1
  · go_wp2
    go_ret
    exact ⟨rfl, hb02⟩
  by_cases h7 : q < 0
  · go_wp2
    go_ret
    exact ⟨rfl, hb02⟩
  by_cases h8 : (n : Int) < q
  · go_wp2
    go_ret
    exact ⟨rfl, hb02⟩
  obtain ⟨c, rfl⟩ : ∃ c : Nat, q = c := ⟨q.toNat, by omega⟩
  have hcn : c ≤ n := by omega
  obtain ⟨i0, hi, hz0, hz1, hz2⟩ := info_parts Try.info34
  go_wp2_with (at_make; refine wpList_make_own _ rfl _ _ 22 rfl w2.heap.size 34 i0 _ 2 Try.underlying22 hi hz0 hz1 .i64 .i64 _ (n + 1) rfl rfl (by omega) (by rw [hz2]; omega) (by unfold maxLen; omega) (Nat.le_refl _) ?_; intro w3 hown3 hg3)
  clear h1 h2 h3 h3' h4 h5 h7 h8
  have hb3 : Below w2.heap.size w2 w3 := (Below.refl _ _).grown hg3 (Nat.le_refl _) (fun _ h => by cases h)
  clear hg3
  have hp2 := hp.below hb02 (Nat.le_refl _)
  go_loopw [12, 13] (fun v i wr => ∃ k : Nat, k ≤ c ∧ i = .int .i64 k ∧ wr.ownsRow w2.heap.size 34 2 v k (pcells N S k) ∧ Below w2.heap.size w2 wr) (fun _ i _ => c - (intOf i).toNat)
  case atStart => exact ⟨0, Nat.zero_le _, rfl, hown3, hb3⟩
  case round =>
    clear hown3 hb3
    obtain ⟨k, hk, rfl, hown, hbel⟩ := hrel
    have hws := hbel.size
    by_cases hkn : k < c
    · obtain ⟨be, oe, hlte, hce, hce', hix⟩ := hp2.elem (show k < n by omega) cap
      have hce2 := (hbel.cell (p := ⟨be, oe, none⟩) hlte).trans hce
      have hce3 := (hbel.cell (p := ⟨be, oe + 1, none⟩) hlte).trans hce'
      go_wp2_with (at_builtin; refine wpList_append_own _ rfl _ _ 22 rfl w2.heap.size 34 i0 _ 2 32 Try.underlying22 hi hz0 hz1 hz2 rfl (by decide) _ _ _ rfl (hown.alloc _) ⟨wr.heap.size, 0, none⟩ 1 1 [.string (N k), .string (S k)] rfl rfl ?c1 ?c2 ?c3 ?c4 ?c5 ?_)
      case c1 => exact World.news_of_block (w := wr.alloc _) (cs := #[.string (N k), .string (S k)]) (t := 34) (fr := (0, 0)) (heap_one wr _)
      case c2 => intro u hu; simp at hu; rcases hu with rfl | rfl <;> rfl
      case c3 => unfold maxLen; omega
      case c4 => omega
      case c5 => simp; omega
      · intro v' w1 hown' hgrow _
        have hb1 := below_one hbel hws hown hgrow
        rw [← pcells_succ] at hown'
        clear hgrow hown hix hce hce2 hce' hce3
        go_wp2
        go_roundw
        case rel => exact ⟨k + 1, by omega, by go_num, hown', hb1⟩
        case measure => simp [intOf]; omega
    · obtain rfl : k = c := by omega
      have hy1 := (hbel.cell (p := ⟨w.heap.size, 0, none⟩) hx0).trans hx1
      have hy2 := (hbel.cell (p := ⟨w.heap.size, 1, none⟩) hx0).trans hx2
      go_wp2_with (at_builtin; refine wpList_append_own _ rfl _ _ 22 rfl w2.heap.size 34 i0 _ 2 32 Try.underlying22 hi hz0 hz1 hz2 rfl (by decide) _ _ _ rfl (hown.alloc _) ⟨wr.heap.size, 0, none⟩ 1 1 [.string p0, .string p1] rfl rfl ?e1 ?e2 ?e3 ?e4 ?e5 ?_)
      case e1 => exact World.news_of_block (w := wr.alloc _) (cs := #[.string p0, .string p1]) (t := 34) (fr := (0, 0)) (heap_one wr _)
      case e2 => intro u hu; simp at hu; rcases hu with rfl | rfl <;> rfl
      case e3 => unfold maxLen; omega
      case e4 => omega
      case e5 => simp; omega
      · intro v4 w4 hown4 hgrow4 _
        have hb4 := below_one hbel hws hown hgrow4
        have hownI : w4.ownsRow w2.heap.size 34 2 v4 (k + 1) (pcells (put N p0 k) (put S p1 k) (k + 1)) := by
          rw [pcells_succ, put_at, put_at, pcells_congr (N' := N) (S' := S) (fun i hi => ⟨put_lo hi, put_lo hi⟩)]; exact hown4
        clear hown4 hgrow4 hown hbel hws hy1 hy2 hk hkn
        go_wp2
        go_loopw [12, 14] (fun v i wr => ∃ j : Nat, k ≤ j ∧ j ≤ n ∧ i = .int .i64 j ∧ wr.ownsRow w2.heap.size 34 2 v (j + 1) (pcells (put N p0 k) (put S p1 k) (j + 1)) ∧ Below w2.heap.size w2 wr) (fun _ i _ => n - (intOf i).toNat)
        case atStart => exact ⟨k, Nat.le_refl _, hcn, rfl, hownI, hb4⟩
        case round =>
          clear hownI hb4
          obtain ⟨j, hkj, hjn, rfl, hown, hbel⟩ := hrel
          have hws := hbel.size
          by_cases hj : j < n
          · obtain ⟨be, oe, hlte, hce, hce', hix⟩ := hp2.elem hj cap
            have hce2 := (hbel.cell (p := ⟨be, oe, none⟩) hlte).trans hce
            have hce3 := (hbel.cell (p := ⟨be, oe + 1, none⟩) hlte).trans hce'
            go_wp2_with (at_builtin; refine wpList_append_own _ rfl _ _ 22 rfl w2.heap.size 34 i0 _ 2 32 Try.underlying22 hi hz0 hz1 hz2 rfl (by decide) _ _ _ rfl (hown.alloc _) ⟨_, 0, none⟩ 1 1 [.string (N j), .string (S j)] rfl rfl ?f1 ?f2 ?f3 ?f4 ?f5 ?_)
            case f1 => exact World.news_of_block (cs := #[.string (N j), .string (S j)]) (t := 34) (fr := (0, 0)) (heap_one _ _)
            case f2 => intro u hu; simp at hu; rcases hu with rfl | rfl <;> rfl
            case f3 => unfold maxLen; omega
            case f4 => omega
            case f5 => simp; omega
            · intro v' w1 hown' hgrow _
              have hb1 := below_one hbel hws hown hgrow
              have hown2 : w1.ownsRow w2.heap.size 34 2 v' (j + 1 + 1) (pcells (put N p0 k) (put S p1 k) (j + 1 + 1)) := by
                rw [pcells_succ _ _ (j + 1), put_hi hkj, put_hi hkj]; exact hown'
              clear hown' hgrow hown hix hce hce2 hce' hce3
              go_wp2
              go_roundw
              case rel => exact ⟨j + 1, by omega, by omega, by go_num, hown2, hb1⟩
              case measure => simp [intOf]; omega
          · obtain rfl : j = n := by omega
            obtain ⟨a4, c4, hv4, hp4⟩ := pairs_of_owns hown
            subst hv4
            have hbx := hb02.trans (hbel.mono hb02.size)
            have hX : Box _ w.heap.size p0 p1 := Box.below ⟨hx0, hx1, hx2⟩ hbel (Nat.le_refl _)
            have hpx := hp2.below hbel (Nat.le_refl _)
            clear hown hbel hws hj hjn hkj hx0 hx1 hx2 hb02 hp2
            go_wp2_with fail
            refine (siteof wt a j cap N S _ hs hpx (by omega)).mono ?_
            rintro e w5 ⟨⟨B5, rfl, hS5⟩, hb5⟩
            go_wp2_with fail
            refine (holder B5 wt hd j N S w5 hS5 (by omega)).mono ?_
            rintro e w6 ⟨⟨a6, c6, m6, F6, rfl, hs6, e6⟩, hb6⟩
            have hb56 := hb5.trans (hb6.mono hb5.size)
            have hb06 := hbx.trans (hb56.mono hbx.size)
            have hp6 := hp4.below hb56 (Nat.le_refl _)
            have hX6 := hX.below hb56 (Nat.le_refl _)
            clear hS5 hb5 hb6 hb56 hbx hp4 hX hpx
            go_wp2_with fail
            refine (siteof wt a4 (j + 1) c4 (put N p0 k) (put S p1 k) w6 hs hp6 (by omega)).mono ?_
            rintro e w7 ⟨⟨B7, rfl, hS7⟩, hb7⟩
            go_wp2_with fail
            refine (holder B7 wt hd (j + 1) (put N p0 k) (put S p1 k) w7 hS7 (by omega)).mono ?_
            rintro e w8 ⟨⟨a8, c8, m8, F8, rfl, hs8, e8⟩, hb8⟩
            have hb78 := hb7.trans (hb8.mono hb7.size)
            have hb08 := hb06.trans (hb78.mono hb06.size)
            have hs68 := hs6.below hb78 (Nat.le_refl _)
            obtain ⟨hx0, hx1, hx2⟩ := hX6.below hb78 (Nat.le_refl _)
            have hp8 := hp.below hb08 (Nat.le_refl _)
            obtain rfl : m6 = cnt N hd j := len_of e6
            have hlej := cnt_le N hd j
            clear hS7 hb7 hb8 hb78 hb06 hs6 hX6 hp6
            go_wp2_with fail
            refine (count_any a j cap N S hd w8 hp8 (by omega)).mono ?_
            rintro e w9 ⟨rfl, rfl⟩
            cases hh : (p0.toList == hd.toList)
            · obtain ⟨rfl, hF⟩ := put_miss hcn hh e6 e8
              have hs8' := hs8.congr rfl hF
              clear hF e6 e8 hs8
              go_wp2_with fail
              refine (same_true a8 a6 _ c8 c6 F6 _ hs8' hs68 (by omega)).mono ?_
              rintro e w10 ⟨rfl, hb10⟩
              have hb0z := hb08.trans (hb10.mono hb08.size)
              go_wp2
              go_ret
              exact ⟨rfl, hb0z⟩
            · obtain ⟨rfl, hle, hF1, hF2, hF3⟩ := put_hit hcn hh e6 e8
              obtain ⟨af, hf1, hf2⟩ := slice_to a j cap k hcn hncap
              have hpf := hf2 _ _ _ hp8
              clear e6 e8
              go_wp2_with fail
              refine (count_any af k cap N S hd _ hpf (by omega)).mono ?_
              rintro e w10 ⟨rfl, rfl⟩
              have HF1 : Hid (∀ i, i < cnt N hd k → F8 i = F6 i) := hF1
              have HF2 : Hid (F8 (cnt N hd k) = p1) := hF2
              have HF3 : Hid (∀ i, cnt N hd k ≤ i → i < cnt N hd j → F8 (i + 1) = F6 i) := hF3
              have hlt0 : w.heap.size < w10.heap.size := hx0
              clear hF1 hF2 hF3 hf1 hf2 hpf hp8 hx1 hp hx0
              generalize cnt N hd k = K at *
              generalize cnt N hd j = M at *
              go_wp2
              go_loopw [18] (fun i wr => ∃ t : Nat, t ≤ K ∧ i = .int .i64 t ∧ Below w10.heap.size w10 wr) (fun i _ => K - (intOf i).toNat)
              case atStart => exact ⟨0, Nat.zero_le _, rfl, Below.refl _ _⟩
              case round =>
                obtain ⟨t, ht, rfl, hbel⟩ := hrel
                by_cases htk : t < K
                · obtain ⟨b1, o1, hl1, hc1, hi1⟩ := hs8.elem' (show t < M + 1 by omega) c8 (x := (t : Int)) rfl (HF1.out t htk)
                  obtain ⟨b2, o2, hl2, hc2, hi2⟩ := hs68.elem' (show t < M by omega) c6 (x := (t : Int)) rfl rfl
                  have hd1 := (hbel.cell (p := ⟨b1, o1, none⟩) hl1).trans hc1
                  have hd2 := (hbel.cell (p := ⟨b2, o2, none⟩) hl2).trans hc2
                  clear hc1 hc2
                  go_wp2
                  go_quiet (fail)
                  go_wp2
                  go_roundw
                  case rel => exact ⟨t + 1, by omega, by go_num, below_drewN hbel _⟩
                  case measure => simp [intOf]; omega
                · obtain rfl : t = K := by omega
                  obtain ⟨b1, o1, hl1, hc1, hi1⟩ := hs8.elem' (show t < M + 1 by omega) c8 (x := (t : Int)) rfl HF2.out
                  have hd1 := (hbel.cell (p := ⟨b1, o1, none⟩) hl1).trans hc1
                  have hd2 := (hbel.cell (p := ⟨w.heap.size, 1, none⟩) hlt0).trans hx2
                  clear hc1
                  go_wp2
                  go_quiet (fail)
                  clear hd1 hd2 hi1 hl1
                  go_wp2
                  go_loopw [19] (fun i wr => ∃ s : Nat, t ≤ s ∧ s ≤ M ∧ i = .int .i64 s ∧ Below w10.heap.size w10 wr) (fun i _ => M - (intOf i).toNat)
                  case atStart => exact ⟨t, Nat.le_refl _, hle, rfl, below_drewN hbel _⟩
                  case round =>
                    clear hbel
                    obtain ⟨s, hts, hsM, rfl, hbel⟩ := hrel
                    by_cases hsm : s < M
                    · obtain ⟨b1, o1, hl1, hc1, hi1⟩ := hs8.elem' (show s + 1 < M + 1 by omega) c8 (x := (s : Int) + 1) (by simp) (HF3.out s hts hsm)
                      obtain ⟨b2, o2, hl2, hc2, hi2⟩ := hs68.elem' (show s < M by omega) c6 (x := (s : Int)) rfl rfl
                      have hd1 := (hbel.cell (p := ⟨b1, o1, none⟩) hl1).trans hc1
                      have hd2 := (hbel.cell (p := ⟨b2, o2, none⟩) hl2).trans hc2
                      clear hc1 hc2
                      go_wp2
                      go_quiet (fail)
                      go_wp2
                      go_roundw
                      case rel => exact ⟨s + 1, by omega, by omega, by go_num, below_drewN hbel _⟩
                      case measure => simp [intOf]; omega
                    · have hb0z := hb08.trans (hbel.mono hb08.size)
                      go_wp2
                      go_ret
                      exact ⟨rfl, hb0z⟩
end Go.Proofs.Qxb6627500a
