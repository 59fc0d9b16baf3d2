/-
  THE WALK of take (12).
-/
import Derived.Test.Qxb6627542aHigh
namespace Go.Proofs.Qxb6627542a
open Go.RowKit Plain

/-- a member put behind the others -/
theorem HeapIs.push {w : World} {gb cap : Nat} {X : Array M} (h : HeapIs w gb cap X) (m : M) (hroom : X.size < cap) :
    HeapIs ((w.setCell ⟨gb, X.size * 2, none⟩ (.int .u64 m.1)).setCell ⟨gb, X.size * 2 + 1, none⟩ (.int .i64 m.2)) gb cap (X.push m) := by
  obtain ⟨cur, hb, h1, h2, hc⟩ := h
  refine ⟨_, Joins.block_setCell (Joins.block_setCell hb _) _, by simp; omega, by simpa using h2, fun j hj => ?_⟩
  simp only [Array.size_push] at hj
  by_cases e : j = X.size
  · subst e
    rw [g_push_eq]
    constructor
    · rw [Array.getElem?_setIfInBounds, if_neg (by omega), Array.getElem?_setIfInBounds, if_pos rfl, if_pos (by omega)]
    · rw [Array.getElem?_setIfInBounds, if_pos rfl, if_pos (by simp; omega)]
  · rw [g_push_lt (by omega)]
    obtain ⟨c1, c2⟩ := hc j (by omega)
    constructor
    · rw [Array.getElem?_setIfInBounds, if_neg (by omega), Array.getElem?_setIfInBounds, if_neg (by omega)]; exact c1
    · rw [Array.getElem?_setIfInBounds, if_neg (by omega), Array.getElem?_setIfInBounds, if_neg (by omega)]; exact c2

/-- 'h.heap = append(h.heap, m)' WHERE THERE IS ROOM, as one step of a region that draws. -/
theorem step_push {ops : Array Oper} {o : Oper} {a : Act} {w : World} {K : Act → World → Prop} {Q : Exit → Act → World → Prop} {E : Prop} (hgd : o.guard = none) (s x : Operand)
    (hop : o.op = Op.call { callee := Callee.builtin Builtin.append, args := #[s, x], argTypes := #[36, 36] })
    (hb gb k : Nat) (X : Array M) (m : M) (hX : HighIs w hb gb k X) (hroom : X.size < k) (hs : a.eval s = .slice (some ⟨gb, 0, none⟩) X.size k)
    (B c : Nat) (hx : a.eval x = .slice (some ⟨B, 0, none⟩) 1 c) (hB : w.heap[B]? = some (.cells #[.int .u64 m.1, .int .i64 m.2] 32 (0, 0)))
    (hK : ∀ w', HeapIs w' gb k (X.push m) → w'.heap[hb]? = some (.cells #[.slice (some ⟨gb, 0, none⟩) X.size k] 38 (0, 0)) → w'.cell? ⟨hb, 0, none⟩ = some (.slice (some ⟨gb, 0, none⟩) X.size k) → w'.frozen? ⟨hb, 0, none⟩ = false → w.grownBy w' (some gb) →
      K (a.put o.dst (.slice (some ⟨gb, 0, none⟩) (X.size + 1) k)) w') :
    if Region.wanted o (yielded ops a.tmps) = true then Oper.wp Try.prog o a w K Q else E := by
  obtain ⟨i0, hi, hz0, hz1, hz2⟩ := info_parts Try.info32
  obtain ⟨cur, hgb, _, hcs, _⟩ := hX.2
  have hne := hX.ne
  refine step_append_room hgd s x 36 hop 32 i0 2 Try.underlying36 hi hz1 gb 0 X.size k hs ⟨B, 0, none⟩ 1 c [.int .u64 m.1, .int .i64 m.2] hx rfl (World.news_of_block hB) ?_ (by omega) ?_ ?_
  · intro u hu
    simp at hu
    rcases hu with rfl | rfl <;> rfl
  · intro j hj
    simp at hj
    constructor
    · rw [Joins.cell_of_block hgb]
      rw [Array.getElem?_eq_getElem (by omega)]; rfl
    · exact Joins.unfrozen_of_block hgb _
  · have hP := hX.2.push m hroom
    have hg : w.grownBy ((w.setCell ⟨gb, X.size * 2, none⟩ (.int .u64 m.1)).setCell ⟨gb, X.size * 2 + 1, none⟩ (.int .i64 m.2)) (some gb) := grown_set (grown_set (World.grownBy.refl _ _))
    have hh := (hg.block hb hX.lt (by simpa using hne)).trans hX.1
    have e : w.setCells gb (0 + X.size * 2) [.int .u64 m.1, .int .i64 m.2] = (w.setCell ⟨gb, X.size * 2, none⟩ (.int .u64 m.1)).setCell ⟨gb, X.size * 2 + 1, none⟩ (.int .i64 m.2) := by
      rw [Nat.zero_add]; rfl
    rw [e]
    exact hK _ hP hh (by rw [Joins.cell_of_block hh]; rfl) (Joins.unfrozen_of_block hh 0) hg

theorem heap_drewN (w : World) (q : Nat) (o : Obj) : ((w.drewN q).alloc o).heap[w.heap.size]? = some o := by
  show ((w.drewN q).heap.push o)[w.heap.size]? = some o
  rw [show (w.drewN q).heap = w.heap from World.heap_drewN _ _]
  simp

theorem siftup_at (gb cap : Nat) (X : Array M) (n i : Nat) (z : Int) (w : World) (hX : HeapIs w gb cap X) (hcap : cap ≤ 4096) (hi : i < X.size) (hU : Up X i) (hn : X.size = n) (hz : z = (i : Int)) :
    Calls Try.prog 15 #[.slice (some ⟨gb, 0, none⟩) n cap, .int .i64 z, .func (.func 14) #[] #[]] w fun e w' => e = .returned (.tuple #[]) ∧ (∃ Y : Array M, HeapIs w' gb cap Y ∧ Heap Y ∧ Y.Perm X) ∧ w.grownBy w' (some gb) := by
  subst hn hz
  exact siftup gb cap X i w hX hcap hi hU

/-- h.heap stored anew -/
theorem high_store {w : World} {hb gb k : Nat} {X : Array M} {m : M} (hX : HeapIs w gb k (X.push m)) (hh : w.heap[hb]? = some (.cells #[.slice (some ⟨gb, 0, none⟩) X.size k] 38 (0, 0))) :
    HighIs (w.setCell ⟨hb, 0, none⟩ (.slice (some ⟨gb, 0, none⟩) (X.size + 1) k)) hb gb k (X.push m) := by
  have hne : hb ≠ gb := by
    intro e
    subst e
    obtain ⟨cur, h2, _⟩ := hX
    rw [hh] at h2
    simp at h2
  refine ⟨?_, hX.block (Below.heap_setCell _ _ _ _ (fun e => hne e.symm))⟩
  rw [Joins.block_setCell hh]
  simp

/-- what take leaves: the heap X', in order -/
def TakeLeft (w : World) (hb gb k : Nat) (Z : Array M) : Prop := ∃ Y : Array M, HighIs w hb gb k Y ∧ Heap Y ∧ Y.Perm Z
theorem take_left {w w' : World} {hb gb k : Nat} {Z Y : Array M} (h : HighIs w hb gb k Z) (hg : w.grownBy w' (some gb)) (hY : HeapIs w' gb k Y) (hH : Heap Y) (hp : Y.Perm Z) : TakeLeft w' hb gb k Z := by
  refine ⟨Y, ⟨?_, hY⟩, hH, hp⟩
  rw [hg.block hb h.lt (by simpa using h.ne), h.1, hp.size_eq]
theorem below_grown {B gb : Nat} {a w w' : World} (h : Below B a w) (hg : w.grownBy w' (some gb)) (h1 : B ≤ w.heap.size) (h2 : B ≤ gb) : Below B a w' :=
  h.grown hg h1 (fun j hj => by cases hj; exact h2)

set_option maxHeartbeats 1000000 in
theorem take_room (B hb gb k : Nat) (X : Array M) (m : M) (w : World) (h : HighIs w hb gb k X) (hH : Heap X) (hk : k ≤ 4096) (hroom : X.size < k) (hB1 : B ≤ hb) (hB2 : B ≤ gb) :
    Calls Try.prog 12 #[.pointer (some ⟨hb, 0, none⟩), .agg #[.int .u64 m.1, .int .i64 m.2]] w fun e w' => e = .returned (.tuple #[]) ∧ TakeLeft w' hb gb k (X.push m) ∧ Below B w w' := by
  have hb1 := below_box w m
  have hlt := h.lt
  have hW := h.below hb1
  have hc := hW.cell
  obtain ⟨m1, m2⟩ := box_cells w m
  have hd : decide ((X.size : Int) < (k : Int)) = true := by simp; omega
  have hU := Up.push hH m
  have hwr : IntKind.i64.wrap (X.size : Int) = (X.size : Int) := by rw [IntKind.wrap_i64]; omega
  have hbs := hb1.size
  obtain ⟨W, hw⟩ : ∃ W, w.alloc (mbox m) = W := ⟨_, rfl⟩
  rw [hw] at hb1 hc m1 m2 hW hbs
  have hWd : ∀ q, HighIs ((W.drewN q).alloc (.cells #[.int .u64 m.1, .int .i64 m.2] 32)) hb gb k X := fun q => hW.below ((below_drewN (Below.refl _ _) q).alloc (by rw [World.heap_drewN]; exact Nat.le_refl _) _)
  have hBd : ∀ q, Below B w ((W.drewN q).alloc (.cells #[.int .u64 m.1, .int .i64 m.2] 32)) := fun q => (below_drewN (hb1.mono (by omega)) q).alloc (by rw [World.heap_drewN]; omega) _
  have hcd : ∀ q, ((W.drewN q).alloc (.cells #[.int .u64 m.1, .int .i64 m.2] 32)).cell? ⟨hb, 0, none⟩ = some (.slice (some ⟨gb, 0, none⟩) X.size k) := fun q => (hWd q).cell
  have HW : Hid (w.alloc (.cells #[.int .u64 m.1, .int .i64 m.2] 32) = W) := hw
  clear hw
  go_enter Try.func12, Try.ntmps12
  go_wp2
  rw [HW.out]
  go_quiet (fail)
  go_wp2
  go_region_law (refine step_push rfl (.tmp 19) (.tmp 21) rfl hb gb k X m (hWd _) hroom (by simp [Act.eval]) W.heap.size 1 (by simp [Act.eval]) (heap_drewN _ _ _) ?_; intro w3 hX3 hh3 hc3 hf3 hg3)
  all_goals
    have hb3 : Below B w w3 := below_grown (hBd _) hg3 (by have := (hBd 0).size; simp; omega) hB2
    have hs3 : w.heap.size ≤ w3.heap.size := hb3.size
    have hS := high_store hX3 hh3
    have hb4 : Below B w (w3.setCell ⟨hb, 0, none⟩ (.slice (some ⟨gb, 0, none⟩) (X.size + 1) k)) := hb3.setCell hB1 _
    have hs4 : (w3.setCell ⟨hb, 0, none⟩ (.slice (some ⟨gb, 0, none⟩) (X.size + 1) k)).heap.size = w3.heap.size := by simp
    clear hWd hBd hcd hg3 hX3 hh3 hc3 hf3 hc m1 m2 hW
    generalize w3.setCell ⟨hb, 0, none⟩ (.slice (some ⟨gb, 0, none⟩) (X.size + 1) k) = W4 at *
    have hc4 := hS.cell
    rw [Array.size_push] at hc4
    go_wp2
    go_region_held3 (fun w' => w'.cell? ⟨hb, 0, none⟩ = some (.slice (some ⟨gb, 0, none⟩) (X.size + 1) k)) (first | assumption | go_keep)
      (first
        | (go_at_call 15; refine (siftup_at gb k (X.push m) (X.size + 1) X.size _ _ (by exact hS.2.block rfl) hk (by simp) hU (by simp) (by first | with_reducible rfl | assumption)).mono ?_; rintro e w5 ⟨rfl, ⟨Y, hY, hYH, hYp⟩, hg5⟩; have hc5 := (hg5.cell_far ⟨hb, 0, none⟩ (by simpa using hS.lt) (by simpa using hS.ne)).trans hc4))
    have HL : TakeLeft w5 hb gb k (X.push m) := take_left (w := W4.drew) hS hg5 hY hYH hYp
    have hb5 : Below B w w5 := below_grown (w := W4.drew) hb4.drew hg5 (by show B ≤ W4.heap.size; omega) hB2
    clear hY hYH hYp hg5 hc5 hS
    go_wp2
    exact bodyPost_ret (v := .tuple #[]) (by simp [results, Try.results12, go_sem]) rfl ⟨rfl, HL, hb5⟩
end Go.Proofs.Qxb6627542a
