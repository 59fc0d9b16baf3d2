/-
  THE WALKS of ZZGone (7), ZZSharesLen (8), ZZShare (9), ZZWith (10), zzBytes (5).
-/
import Derived.Test.Qxb6627587aAdd
namespace Go.Proofs.Qxb6627587a
open Go.RowKit

theorem gone_walk (xb : Nat) (v : Value) (w : World) (h : w.cell? ⟨xb, 8192, none⟩ = some v) :
    Calls Try.prog 7 #[.pointer (some ⟨xb, 0, none⟩)] w fun e w' => e = .returned v ∧ w' = w := by
  go_enter Try.func7, Try.ntmps7
  go_wp2
  go_ret
  exact ⟨rfl, rfl⟩
theorem len_walk (xb n c : Nat) (a : Option Addr) (w : World) (h : w.cell? ⟨xb, 8193, none⟩ = some (.slice a n c)) :
    Calls Try.prog 8 #[.pointer (some ⟨xb, 0, none⟩)] w fun e w' => e = .returned (.int .i64 n) ∧ w' = w := by
  go_enter Try.func8, Try.ntmps8
  go_wp2
  go_ret
  exact ⟨rfl, rfl⟩
theorem with_walk (xb t v : Nat) (x : Value) (w : World) (ht : t < 32) (hv : v < 256) (h : w.cell? ⟨xb, t * 256 + v, none⟩ = some x) :
    Calls Try.prog 10 #[.pointer (some ⟨xb, 0, none⟩), .int .i64 t, .int .i64 v] w fun e w' => e = .returned x ∧ w' = w := by
  have hx1 : ∀ w', (Instr.indexAt 26 (.pointer (some ⟨xb, 0, none⟩)) (.int .i64 (t : Int))).run Try.prog w' = .ok (.pointer (some ⟨xb, t * 256, none⟩)) w' := fun w' => at26 ht w'
  have hx2 : ∀ w', (Instr.indexAt 25 (.pointer (some ⟨xb, t * 256, none⟩)) (.int .i64 (v : Int))).run Try.prog w' = .ok (.pointer (some ⟨xb, t * 256 + v, none⟩)) w' := fun w' => at25 hv w'
  go_enter Try.func10, Try.ntmps10
  go_wp2
  go_ret
  exact ⟨rfl, rfl⟩

/-- it returns some bool -/
def SomeBool (e : Ending) : Prop := ∃ b : Bool, e = .returned (.bool b)

set_option maxHeartbeats 400000 in
theorem bytes_walk (a : Option Addr) (n cap : Nat) (w : World) :
    Calls Try.prog 5 #[.slice a n cap] w fun e w' => SomeBool e ∧ w' = w := by
  by_cases hbig : 1048576 < (n : Int)
  · go_enter Try.func5, Try.ntmps5
    go_wp2
    go_ret
    exact ⟨⟨_, rfl⟩, rfl⟩
  · go_enter Try.func5, Try.ntmps5
    go_wp2
    go_loop [3, 4] (fun x i => ∃ (k : Nat) (r : Int), k ≤ n ∧ i = .int .i64 k ∧ x = .int .i64 r ∧ 0 ≤ r ∧ r ≤ 1048576) (fun _ i => n - (intOf i).toNat)
    case atStart => exact ⟨0, n, Nat.zero_le _, rfl, rfl, by omega, by omega⟩
    case round =>
      obtain ⟨k, r, hk, rfl, rfl, hr0, hr1⟩ := hrel
      by_cases hkn : k < n
      · by_cases hr2 : 1048576 < r + 32
        · go_wp2
          go_ret
          exact ⟨⟨_, rfl⟩, rfl⟩
        · go_wp2
          go_round
          case rel => exact ⟨k + 1, r + 32, by omega, by go_num, rfl, by omega, by omega⟩
          case measure => simp [intOf]; omega
      · go_wp2
        go_ret
        exact ⟨⟨_, rfl⟩, rfl⟩

theorem share_cells {w : World} {B k i : Nat} {v : Value} (h : w.ownsRow B 42 2 v k (List.replicate (k * 2) (.int .u32 0))) (hi : i < k) :
    ∃ g cap, v = .slice (some ⟨g, 0, none⟩) k cap ∧ g < w.heap.size ∧ w.cell? ⟨g, i * 2, none⟩ = some (.int .u32 0) ∧ w.cell? ⟨g, i * 2 + 1, none⟩ = some (.int .u32 0) := by
  obtain ⟨g, cap, rfl, _, hlt⟩ := h.form (by omega)
  have hc := h.cells (g := g) rfl
  refine ⟨g, cap, rfl, hlt, ?_, ?_⟩
  · have := hc (i * 2) (.int .u32 0) (by simp [List.getElem?_replicate]; omega)
    rwa [add_at0, Nat.zero_add] at this
  · have := hc (i * 2 + 1) (.int .u32 0) (by simp [List.getElem?_replicate]; omega)
    rwa [add_at0, Nat.zero_add] at this

set_option maxHeartbeats 400000 in
theorem share_walk (xb g k cap i : Nat) (w : World) (hi : i < k) (hx : w.cell? ⟨xb, 8193, none⟩ = some (.slice (some ⟨g, 0, none⟩) k cap)) (hxl : xb < w.heap.size) (hgl : g < w.heap.size)
    (h0 : w.cell? ⟨g, i * 2, none⟩ = some (.int .u32 0)) (h1 : w.cell? ⟨g, i * 2 + 1, none⟩ = some (.int .u32 0)) :
    Calls Try.prog 9 #[.pointer (some ⟨xb, 0, none⟩), .int .i64 i] w fun e w' => e = .returned (.agg #[.int .u32 0, .int .u32 0]) ∧ Below w.heap.size w w' := by
  go_enter Try.func9, Try.ntmps9
  go_wp2
  refine bodyPost_ret_by (v := .agg #[.int .u32 0, .int .u32 0]) ?_ rfl ?_
  · exact results_cell_row (p := 4) (ty := 38) rfl _ _ w.heap.size 38 _ (0, 0) _ rfl (heap_alloc_new _ _) Try.underlying38 rfl (by kernel_rfl)
  · exact ⟨rfl, (Below.refl _ _).alloc (Nat.le_refl _) _⟩
end Go.Proofs.Qxb6627587a
