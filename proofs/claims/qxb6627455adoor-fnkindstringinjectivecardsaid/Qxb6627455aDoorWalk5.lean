/-
  THE WALK of (tree.Kind).String (5), by strconv.Itoa's contract.
-/
import Derived.Test.Qxb6627455aDoorLow
import Derived.Test.Qxb6627455aDoorShelf
namespace Go.Proofs.Qxb6627455aDoor
open Go.RowKit

theorem below_grow (w : World) (k : Nat) (os : Array Obj) : Below w.heap.size w (Sort.grow (w.drewN k) os) :=
  ⟨rfl, rfl, rfl, by show w.heap.size ≤ (w.heap ++ os).size; rw [Array.size_append]; omega, fun j hj => by show (w.heap ++ os)[j]? = w.heap[j]?; simp [Array.getElem?_append, hj]⟩
theorem tab_below {w w' : World} (h : Lib.TabIs Tryd.prog w "internal/strconv.uint64pow10" .u64 Lib.pow10Tab) (hb : Below w.heap.size w w') : Lib.TabIs Tryd.prog w' "internal/strconv.uint64pow10" .u64 Lib.pow10Tab := by
  unfold Lib.TabIs World.var? at *
  cases hg : Tryd.prog.globalNamed "internal/strconv.uint64pow10" with
  | none => simp [hg] at h
  | some g =>
    simp only [hg, Option.bind_some] at h ⊢
    have hlt : g < w.heap.size := by
      rcases Nat.lt_or_ge g w.heap.size with h1 | h1
      · exact h1
      · rw [Array.getElem?_eq_none h1] at h; simp at h
    rw [hb.block g hlt]; exact h
theorem small_str (l : List UInt8) : (⟨l.toArray⟩ : ByteArray).data.toList = l := by simp

theorem cat_eq (n : Nat) (h : 10 ≤ n) (h2 : n < 256) : (⟨#[75, 105, 110, 100, 40]⟩ : ByteArray) ++ (⟨(Lib.itoa (n : Int)).toArray⟩ : ByteArray) ++ (⟨#[41]⟩ : ByteArray) = ⟨(Plain.kindStr n).toArray⟩ := by
  rw [Plain.itoa_dec3 n (by omega), Plain.kindStr_big n h]
  apply ByteArray.ext
  simp [ByteArray.data_append]
theorem ret_str {a b : ByteArray} (h : a = b) : Ending.returned (.string a) = .returned (.string b) := by rw [h]

set_option maxHeartbeats 400000 in
theorem string_named (n : Nat) (hn : n < 10) (w : World) :
    Calls Tryd.prog 5 #[.int .u8 n] w fun e w' => e = .returned (.string ⟨(Plain.kindStr n).toArray⟩) ∧ Below w.heap.size w w' := by
  match n, hn with
  | 0, _ | 1, _ | 2, _ | 3, _ | 4, _ | 5, _ | 6, _ | 7, _ | 8, _ | 9, _ =>
    go_enter Tryd.func5, Tryd.ntmps5
    go_wp2
    go_ret
    exact ⟨rfl, Below.refl _ _⟩

set_option maxHeartbeats 400000 in
theorem string_num (n : Nat) (hn : 10 ≤ n) (hn2 : n < 256) (w : World) (htab : Lib.TabIs Tryd.prog w "internal/strconv.uint64pow10" .u64 Lib.pow10Tab) :
    Calls Tryd.prog 5 #[.int .u8 n] w fun e w' => e = .returned (.string ⟨(Plain.kindStr n).toArray⟩) ∧ Below w.heap.size w w' := by
  have HC := Lib.hid (cat_eq n hn hn2)
  have hit := Tryd.strconv_Itoa (n : Int) (by omega) (by omega) w htab
  have hlen : (Lib.itoa (n : Int)).length ≤ 3 := by
    rw [Plain.itoa_dec3 n (by omega)]; unfold Plain.dec3; split
    · simp
    · split <;> simp
  have hsz : (⟨(Lib.itoa (n : Int)).toArray⟩ : ByteArray).size ≤ 3 := by simpa [ByteArray.size] using hlen
  generalize (⟨(Lib.itoa (n : Int)).toArray⟩ : ByteArray) = s at *
  go_enter Tryd.func5, Tryd.ntmps5
  go_wp2_with (go_at_call 8; refine hit.mono ?_; rintro e w' ⟨rfl, k, os, rfl⟩)
  go_ret
  exact ⟨ret_str HC.out, below_grow _ _ _⟩
end Go.Proofs.Qxb6627455aDoor
