/-
  THE WALK of indexes (13), by slices.Sort's contract.
-/
import Derived.Test.Qxb6627542aTakeFull
import Derived.Test.Qxb6627542aShelf
import Derived.Deep.OwnRows
namespace Go.Proofs.Qxb6627542a
open Go.RowKit Plain

/-- A SLICE OF INTS (n of them: G i). -/
def IsInts (w : World) (a : Option Addr) (n : Nat) (G : Nat → Int) : Prop :=
  n = 0 ∨ ∃ b off, a = some ⟨b, off, none⟩ ∧ b < w.heap.size ∧ ∀ i, i < n → w.cell? ⟨b, off + i, none⟩ = some (.int .i64 (G i))
theorem IsInts.below {w w' : World} {a : Option Addr} {n : Nat} {G : Nat → Int} (h : IsInts w a n G) (hb : Below w.heap.size w w') : IsInts w' a n G := by
  rcases h with h | ⟨b, off, ha, hlt, hc⟩
  · exact .inl h
  · exact .inr ⟨b, off, ha, Nat.lt_of_lt_of_le hlt hb.size, fun i hi => (hb.cell (p := ⟨b, off + i, none⟩) hlt).trans (hc i hi)⟩
/-- it returns a slice of the numbers l -/
def RetInts (e : Ending) (w : World) (l : List Int) : Prop := ∃ a cap m G, e = .returned (.slice a m cap) ∧ IsInts w a m G ∧ Hid (l = (List.range m).map G)

theorem range_getD (l : List Int) : l = (List.range l.length).map (fun i => l.getD i 0) := by
  apply List.ext_getElem?
  intro i
  by_cases h : i < l.length
  · rw [List.getElem?_map, List.getElem?_range h, List.getElem?_eq_getElem h]
    simp [List.getD_eq_getElem?_getD, List.getElem?_eq_getElem h]
  · rw [List.getElem?_eq_none (by omega), List.getElem?_eq_none (by simp; omega)]

theorem Try.info3 : (Try.prog.info? 3).map (fun i => (i.zero, i.size, i.bytes)) = some (some (.int .i64 0), 1, 8) := by kernel_rfl

/-- a row of ints of the call's own, as the sort wants it. -/
theorem holds_row {w : World} {b n : Nat} {zs : List Int} (h : w.rowIs b 3 n (fun i => .int .i64 (zs.getD i 0))) (hn : zs.length = n) : Sort.Holds (Value.int .i64) w b 0 zs.toArray := by
  intro j hj
  simp only [List.size_toArray] at hj
  refine ⟨?_, h.frozen _⟩
  rw [Nat.zero_add, h.cell (by omega)]
  simp [List.getD_eq_getElem?_getD, hj]

/-- behind the sort: the row holds the sorted numbers; all below B is as it was. -/
theorem sorted_ret {w w' : World} {b n q : Nat} {zs l : List Int} {os : Array Obj} (h : w.rowIs b 3 n (fun i => .int .i64 (zs.getD i 0))) (hn : zs.length = n) (hl : l.length = n)
    (hw : w' = Sort.grow (Sort.putRow (Value.int .i64) (Sort.ahead w q) b 0 l.toArray) os) : RetInts (.returned (.slice (some ⟨b, 0, none⟩) n n)) w' l := by
  have hlt := h.lt
  have hsz : (Sort.putRow (Value.int .i64) (Sort.ahead w q) b 0 l.toArray).heap.size = w.heap.size := by rw [Sort.size_putRow]; rfl
  refine ⟨some ⟨b, 0, none⟩, n, n, fun i => l.getD i 0, rfl, .inr ⟨b, 0, rfl, ?_, fun i hi => ?_⟩, by rw [← hl]; exact range_getD l⟩
  · rw [hw]
    show b < (_ ++ os).size
    rw [Array.size_append, hsz]; omega
  · have hH : Sort.Holds (Value.int .i64) (Sort.ahead w q) b 0 zs.toArray := fun j hj => holds_row h hn j hj
    have hc := Sort.cell?_putRow (Value.int .i64) (Sort.ahead w q) b 0 zs.toArray l.toArray hH (by simp; omega) i (by simp; omega)
    have hc2 : w'.cell? ⟨b, 0 + i, none⟩ = (Sort.putRow (Value.int .i64) (Sort.ahead w q) b 0 l.toArray).cell? ⟨b, 0 + i, none⟩ := by
      rw [hw]
      apply World.cell?_of_block
      show (_ ++ os)[b]? = _
      rw [Array.getElem?_append, if_pos (by rw [hsz]; exact hlt)]
    rw [hc2, hc]
    simp [List.getD_eq_getElem?_getD, show i < l.length by omega]
theorem sorted_below {B : Nat} {w w' : World} {b q : Nat} {l : List Int} {os : Array Obj} (hB : B ≤ b)
    (hw : w' = Sort.grow (Sort.putRow (Value.int .i64) (Sort.ahead w q) b 0 l.toArray) os) (hBw : B ≤ w.heap.size) : Below B w w' := by
  have hsz : (Sort.putRow (Value.int .i64) (Sort.ahead w q) b 0 l.toArray).heap.size = w.heap.size := by rw [Sort.size_putRow]; rfl
  subst hw
  refine ⟨rfl, rfl, rfl, ?_, fun k hk => ?_⟩
  · show w.heap.size ≤ (_ ++ os).size
    rw [Array.size_append, hsz]; omega
  · show (_ ++ os)[k]? = _
    rw [Array.getElem?_append, if_pos (by rw [hsz]; omega)]
    show (w.heap.modify b _)[k]? = w.heap[k]?
    rw [Array.getElem?_modify, if_neg (by omega)]

/-- slices.Sort on a row of ints of the call's own. -/
theorem sort_row (b n : Nat) (zs : List Int) (w : World) (h : w.rowIs b 3 n (fun i => .int .i64 (zs.getD i 0))) (hn : zs.length = n) (hsz : n ≤ 4096) :
    Calls Try.prog 17 #[.slice (some ⟨b, 0, none⟩) n n] w fun e w' => e = .returned (.tuple #[]) ∧ RetInts (.returned (.slice (some ⟨b, 0, none⟩) n n)) w' (zs.mergeSort fun x y => decide (x ≤ y)) ∧ ∀ B, B ≤ b → B ≤ w.heap.size → Below B w w' := by
  have hc := Try.slices_Sort_int b 0 n zs w (holds_row h hn) h.lt (by omega)
  rw [hn] at hc
  refine hc.mono ?_
  rintro e w' ⟨rfl, q, os, hw⟩
  exact ⟨rfl, sorted_ret h hn (by rw [List.length_mergeSort]; exact hn) hw, fun B hB hBw => sorted_below hB hw hBw⟩

theorem snds_at (X : Array M) (j : Nat) (hj : j < X.size) : (X.toList.map (·.2)).getD j 0 = (g X j).2 := by
  rw [g_eq hj, List.getD_eq_getElem?_getD, List.getElem?_map]
  simp [hj]

set_option maxHeartbeats 1000000 in
theorem indexes_any (hb gb k : Nat) (X : Array M) (w : World) (h : HighIs w hb gb k X) (hk : k ≤ 4096) (h0 : 0 < X.size) :
    Calls Try.prog 13 #[.pointer (some ⟨hb, 0, none⟩)] w fun e w' => RetInts e w' ((X.toList.map (·.2)).mergeSort fun x y => decide (x ≤ y)) ∧ Below w.heap.size w w' := by
  have hc := h.cell
  have hXk : X.size ≤ k := by obtain ⟨_, _, _, h1, _⟩ := h; exact h1
  have hmk := run_make_row' (P := Try.prog) 25 3 (.int .i64 0) 8 Try.underlying25 Try.info3 rfl .i64 .i64 X.size (by omega) (by omega)
  have hb0 : ∀ o, Below w.heap.size w (w.alloc o) := fun o => (Below.refl _ _).alloc (Nat.le_refl _) _
  have hc1 : ∀ o, (w.alloc o).cell? ⟨hb, 0, none⟩ = some (.slice (some ⟨gb, 0, none⟩) X.size k) := fun o => (h.below (hb0 o)).cell
  go_enter Try.func13, Try.ntmps13
  go_wp2
  have hr0 : (w.alloc (.cells (madeCells #[.int .i64 0] X.size) 3)).rowIs w.heap.size 3 X.size (fun j => .int .i64 (if j < 0 then (g X j).2 else 0)) := (World.rowIs_made w (.int .i64 0) X.size 3).congr (fun i _ => by simp)
  have hbb := hb0 (.cells (madeCells #[.int .i64 0] X.size) 3)
  clear hmk hc hc1 hb0
  go_loopw [17] (fun i wr => ∃ t : Nat, t ≤ X.size ∧ i = .int .i64 t ∧ wr.rowIs w.heap.size 3 X.size (fun j => .int .i64 (if j < t then (g X j).2 else 0)) ∧ Below w.heap.size w wr) (fun i _ => X.size - (intOf i).toNat)
  case atStart => exact ⟨0, Nat.zero_le _, rfl, hr0, hbb⟩
  case round =>
    clear hr0 hbb
    obtain ⟨t, ht, rfl, hrow, hbel⟩ := hrel
    by_cases htn : t < X.size
    · obtain ⟨c1, c2⟩ := (h.below hbel).2.cells htn
      have hcell := hrow.cell htn
      have hfr := hrow.frozen t
      have hlt := hrow.lt
      obtain ⟨v3, hv3⟩ : ∃ v3, wr.cell? ⟨w.heap.size, t, none⟩ = some (.int .i64 v3) := ⟨_, hcell⟩
      clear hcell
      go_wp2
      go_roundw
      case rel =>
        refine ⟨t + 1, by omega, by go_num, ((hrow.set t _).alloc _).congr (fun j hj => ?_), (hbel.setCell (Nat.le_refl _) _).alloc (by rw [World.size_setCell]; exact hbel.size) _⟩
        by_cases e : j = t
        · subst e; rw [if_pos rfl, if_pos (by omega)]
        · rw [if_neg e]
          by_cases e2 : j < t
          · rw [if_pos e2, if_pos (by omega)]
          · rw [if_neg e2, if_neg (by omega)]
      case measure => simp [intOf]; omega
    · have hrow2 : wr.rowIs w.heap.size 3 X.size (fun i => .int .i64 ((X.toList.map (·.2)).getD i 0)) := hrow.congr (fun j hj => by rw [snds_at X j hj, if_pos (by omega)])
      have CS := sort_row w.heap.size X.size (X.toList.map (·.2)) wr hrow2 (by simp) (by omega)
      clear hrow hrow2
      go_wp2_with fail
      refine CS.mono ?_
      rintro e w2 ⟨rfl, HR, hB⟩
      have hb2 := hbel.trans (hB w.heap.size (Nat.le_refl _) hbel.size)
      clear hB CS
      go_wp2
      go_ret
      exact ⟨HR, hb2⟩
end Go.Proofs.Qxb6627542a
