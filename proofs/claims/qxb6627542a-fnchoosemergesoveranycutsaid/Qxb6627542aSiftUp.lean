/-
  THE HEAP IN MEMORY; THE WALK of siftUp (15).
-/
import Derived.Test.Qxb6627542aRank
import Derived.Lib.SmallJoins
namespace Go.Proofs.Qxb6627542a
open Go.RowKit Plain

/-- block gb is a row of room for cap members, of which the first are X. -/
def HeapIs (w : World) (gb cap : Nat) (X : Array M) : Prop :=
  ∃ cur : Array Value, w.heap[gb]? = some (.cells cur 32 (0, 0)) ∧ X.size ≤ cap ∧ cur.size = cap * 2 ∧
    ∀ j, j < X.size → cur[j * 2]? = some (.int .u64 (g X j).1) ∧ cur[j * 2 + 1]? = some (.int .i64 (g X j).2)

theorem HeapIs.lt {w : World} {gb cap : Nat} {X : Array M} (h : HeapIs w gb cap X) : gb < w.heap.size := by
  obtain ⟨cur, hb, _⟩ := h
  rcases Nat.lt_or_ge gb w.heap.size with h1 | h1
  · exact h1
  · rw [Array.getElem?_eq_none h1] at hb; cases hb
theorem HeapIs.cells {w : World} {gb cap : Nat} {X : Array M} (h : HeapIs w gb cap X) {j : Nat} (hj : j < X.size) :
    w.cell? ⟨gb, j * 2, none⟩ = some (.int .u64 (g X j).1) ∧ w.cell? ⟨gb, j * 2 + 1, none⟩ = some (.int .i64 (g X j).2) := by
  obtain ⟨cur, hb, _, _, hc⟩ := h
  rw [Joins.cell_of_block hb, Joins.cell_of_block hb]
  exact hc j hj
theorem HeapIs.free {w : World} {gb cap : Nat} {X : Array M} (h : HeapIs w gb cap X) (i : Nat) : w.frozen? ⟨gb, i, none⟩ = false := by
  obtain ⟨cur, hb, _⟩ := h
  exact Joins.unfrozen_of_block hb i
theorem HeapIs.block {w w' : World} {gb cap : Nat} {X : Array M} (h : HeapIs w gb cap X) (e : w'.heap[gb]? = w.heap[gb]?) : HeapIs w' gb cap X := by
  obtain ⟨cur, hb, r⟩ := h
  exact ⟨cur, e.trans hb, r⟩
theorem HeapIs.alloc {w : World} {gb cap : Nat} {X : Array M} (h : HeapIs w gb cap X) (o : Obj) : HeapIs (w.alloc o) gb cap X :=
  h.block (by show (w.heap.push o)[gb]? = _; rw [Array.getElem?_push, if_neg (by have := h.lt; omega)])
/-- a member stored at place i -/
theorem HeapIs.store {w : World} {gb cap : Nat} {X Y : Array M} {i : Nat} {m : M} (h : HeapIs w gb cap X) (hs : Y.size = X.size) (hi : i < X.size) (hY : ∀ j, j < X.size → g Y j = if j = i then m else g X j) :
    HeapIs ((w.setCell ⟨gb, i * 2, none⟩ (.int .u64 m.1)).setCell ⟨gb, i * 2 + 1, none⟩ (.int .i64 m.2)) gb cap Y := by
  obtain ⟨cur, hb, h1, h2, hc⟩ := h
  refine ⟨_, Joins.block_setCell (Joins.block_setCell hb _) _, by omega, by simpa using h2, fun j hj => ?_⟩
  rw [hs] at hj
  rw [hY j hj]
  by_cases e : j = i
  · subst e
    rw [if_pos rfl]
    constructor
    · rw [Array.getElem?_setIfInBounds, if_neg (by omega), Array.getElem?_setIfInBounds, if_pos rfl, if_pos (by omega)]
    · rw [Array.getElem?_setIfInBounds, if_pos rfl, if_pos (by simp; omega)]
  · rw [if_neg e]
    obtain ⟨c1, c2⟩ := hc j hj
    constructor
    · rw [Array.getElem?_setIfInBounds, if_neg (by omega), Array.getElem?_setIfInBounds, if_neg (by omega)]; exact c1
    · rw [Array.getElem?_setIfInBounds, if_neg (by omega), Array.getElem?_setIfInBounds, if_neg (by omega)]; exact c2

theorem g_setI {X : Array M} {i : Nat} {m : M} (hi : i < X.size) (k : Nat) (hk : k < X.size) : g (X.setIfInBounds i m) k = if k = i then m else g X k := by
  rw [g_eq (by simpa using hk), Array.getElem_setIfInBounds (by simpa using hk), g_eq hk]
  by_cases e : k = i
  · subst e; simp
  · rw [if_neg e, if_neg (fun h => e h.symm)]
/-- two members exchanged -/
theorem HeapIs.swap {w : World} {gb cap : Nat} {X : Array M} {i p : Nat} (h : HeapIs w gb cap X) (hi : i < X.size) (hp : p < X.size) :
    HeapIs ((((w.setCell ⟨gb, i * 2, none⟩ (.int .u64 (g X p).1)).setCell ⟨gb, i * 2 + 1, none⟩ (.int .i64 (g X p).2)).setCell ⟨gb, p * 2, none⟩ (.int .u64 (g X i).1)).setCell ⟨gb, p * 2 + 1, none⟩ (.int .i64 (g X i).2)) gb cap (X.swap i p hi hp) := by
  have h1 := h.store (Y := X.setIfInBounds i (g X p)) (m := g X p) (by simp) hi (fun j hj => g_setI hi j hj)
  refine h1.store (by simp) (by simpa using hp) (fun j hj => ?_)
  have hj' : j < X.size := by simpa using hj
  rw [g_swap, g_setI hi j hj']
  by_cases e1 : j = i
  · subst e1
    by_cases e2 : j = p
    · subst e2; simp
    · rw [if_pos rfl, if_neg e2, if_pos rfl]
  · rw [if_neg e1, if_neg e1]
theorem grown_set {w w' : World} {gb i : Nat} {v : Value} (h : w.grownBy w' (some gb)) : w.grownBy (w'.setCell ⟨gb, i, none⟩ v) (some gb) :=
  ⟨h.os, h.tape, h.output, by rw [World.size_setCell]; exact h.size, fun k hk hne => by
    rw [← h.block k hk hne]
    exact Below.heap_setCell _ _ _ _ (fun e => hne (by rw [e]))⟩
theorem grown_drew {w w' : World} {row : Option Nat} (h : w.grownBy w' row) : w.grownBy w'.drew row := ⟨h.os, h.tape, h.output, h.size, h.block⟩
theorem grown_two (w : World) (o1 o2 : Obj) (row : Option Nat) : w.grownBy ((w.alloc o1).alloc o2).drew row :=
  ⟨rfl, rfl, rfl, by show w.heap.size ≤ ((w.heap.push o1).push o2).size; simp; omega, fun k hk _ => by
    show ((w.heap.push o1).push o2)[k]? = w.heap[k]?
    rw [Array.getElem?_push, if_neg (by simp; omega), Array.getElem?_push, if_neg (by omega)]⟩

set_option maxHeartbeats 1000000 in
theorem siftup (gb cap : Nat) (X : Array M) (i : Nat) (w : World) (hX : HeapIs w gb cap X) (hcap : cap ≤ 4096) (hi : i < X.size) (hU : Up X i) :
    Calls Try.prog 15 #[.slice (some ⟨gb, 0, none⟩) X.size cap, .int .i64 i, .func (.func 14) #[] #[]] w fun e w' => e = .returned (.tuple #[]) ∧ (∃ Y : Array M, HeapIs w' gb cap Y ∧ Heap Y ∧ Y.Perm X) ∧ w.grownBy w' (some gb) := by
  have hXc : X.size ≤ cap := by obtain ⟨_, _, h, _⟩ := hX; exact h
  go_enter Try.func15, Try.ntmps15
  go_wp2
  go_loopw [1] (fun x wr => ∃ (Y : Array M) (j : Nat), x = .int .i64 j ∧ Y.size = X.size ∧ j < X.size ∧ HeapIs wr gb cap Y ∧ Up Y j ∧ Y.Perm X ∧ w.grownBy wr (some gb)) (fun x _ => (intOf x).toNat)
  case atStart => exact ⟨X, i, rfl, rfl, hi, hX, hU, Array.Perm.refl _, World.grownBy.refl _ _⟩
  case round =>
    obtain ⟨Y, j, rfl, hsz, hj, hY, hup, hperm, hgrow⟩ := hrel
    by_cases hj0 : j = 0
    · subst hj0
      have hheap := hup.done (.inl rfl)
      go_wp2
      go_end0
      exact ⟨rfl, ⟨Y, hY, hheap, hperm⟩, hgrow⟩
    · obtain ⟨p, hp⟩ : ∃ p, p = (j - 1) / 2 := ⟨_, rfl⟩
      have hpj : p < j := by omega
      have hdiv : ((j : Int) - 1) / 2 = (p : Int) := by omega
      obtain ⟨c1, c2⟩ := hY.cells (show j < Y.size by omega)
      obtain ⟨d1, d2⟩ := hY.cells (show p < Y.size by omega)
      have HP : Hid ((j - 1) / 2 = p) := hp.symm
      have HX : Hid (Y.size = X.size) := hsz
      have hpX : p < X.size := by omega
      clear hp hsz
      have hY2 : HeapIs ((wr.alloc (mbox (g Y j))).alloc (mbox (g Y p))).drew gb cap Y := (hY.alloc _).alloc _
      have hgrow2 : w.grownBy ((wr.alloc (mbox (g Y j))).alloc (mbox (g Y p))).drew (some gb) := hgrow.trans (grown_two _ _ _ _)
      cases hlt : ltB (g Y j) (g Y p)
      · have hheap := hup.done (.inr (by rw [HP.out]; exact (ltB_false _ _).1 hlt))
        go_wp2
        rw [hdiv]
        go_region_held3 (fun w' => w'.cell? ⟨gb, j * 2, none⟩ = some (.int .u64 (g Y j).1) ∧ w'.cell? ⟨gb, j * 2 + 1, none⟩ = some (.int .i64 (g Y j).2) ∧ w'.cell? ⟨gb, p * 2, none⟩ = some (.int .u64 (g Y p).1) ∧ w'.cell? ⟨gb, p * 2 + 1, none⟩ = some (.int .i64 (g Y p).2)) (go_keep)
          (first
            | (go_at_call 14; refine (below_any (g Y j) (g Y p) _).mono ?_; rintro e w' ⟨rfl, rfl⟩))
        go_wp2
        exact bodyPost_ret (v := .tuple #[]) (by simp [results, Try.results15, go_sem]) rfl ⟨rfl, ⟨Y, hY2, hheap, hperm⟩, hgrow2⟩
      · go_wp2
        rw [hdiv]
        go_region_held3 (fun w' => w'.cell? ⟨gb, j * 2, none⟩ = some (.int .u64 (g Y j).1) ∧ w'.cell? ⟨gb, j * 2 + 1, none⟩ = some (.int .i64 (g Y j).2) ∧ w'.cell? ⟨gb, p * 2, none⟩ = some (.int .u64 (g Y p).1) ∧ w'.cell? ⟨gb, p * 2 + 1, none⟩ = some (.int .i64 (g Y p).2)) (go_keep)
          (first
            | (go_at_call 14; refine (below_any (g Y j) (g Y p) _).mono ?_; rintro e w' ⟨rfl, rfl⟩))
        generalize ((wr.alloc (mbox (g Y j))).alloc (mbox (g Y p))).drew = W2 at *
        clear c1 c2 d1 d2 hY hgrow
        obtain ⟨c1, c2⟩ := hY2.cells (show j < Y.size by have := HX.out; omega)
        obtain ⟨d1, d2⟩ := hY2.cells (show p < Y.size by have := HX.out; omega)
        have f1 := hY2.free (j * 2)
        have f2 := hY2.free (j * 2 + 1)
        have f3 := hY2.free (p * 2)
        have f4 := hY2.free (p * 2 + 1)
        go_wp2
        go_region
        go_wp2
        go_roundw
        case rel =>
          have hYs : Y.size = X.size := HX.out
          exact ⟨Y.swap j p (by omega) (by omega), p, rfl, by simpa using hYs, hpX, hY2.swap (by omega) (by omega), hup.swap (by omega) (by omega) (by omega) HP.out ((ltB_iff _ _).1 hlt), (Array.swap_perm _ _).trans hperm, grown_drew (grown_set (grown_set (grown_set (grown_set hgrow2))))⟩
        case measure => simp [intOf]; omega
end Go.Proofs.Qxb6627542a
