/-
  THE WALKS of the functions that only read: addProcBytes (6), countNamed (12), sameStrings (11).
-/
import Derived.Test.Qxb6627500aRows
import Derived.WalkKit
import Derived.WalkSpells
import Derived.WalkLawsBesides
import Derived.Deep.QuietTactic
import Derived.BigQuiet
namespace Go.Proofs.Qxb6627500a
open Go.RowKit

/-- A SLICE OF PAIRS OF STRINGS (n of them: N i, S i). -/
def IsPairs (w : World) (a : Option Addr) (n : Nat) (N S : Nat → ByteArray) : Prop :=
  n = 0 ∨ ∃ b off, a = some ⟨b, off, none⟩ ∧ b < w.heap.size ∧ ∀ i, i < n → w.cell? ⟨b, off + i * 2, none⟩ = some (.string (N i)) ∧ w.cell? ⟨b, off + i * 2 + 1, none⟩ = some (.string (S i))
/-- A SLICE OF STRINGS (n of them: F i). -/
def IsStrs (w : World) (a : Option Addr) (n : Nat) (F : Nat → ByteArray) : Prop :=
  n = 0 ∨ ∃ b off, a = some ⟨b, off, none⟩ ∧ b < w.heap.size ∧ ∀ i, i < n → w.cell? ⟨b, off + i, none⟩ = some (.string (F i))

theorem IsPairs.below {w w' : World} {a : Option Addr} {n : Nat} {N S : Nat → ByteArray} {B : Nat} (h : IsPairs w a n N S) (hb : Below B w w') (hB : w.heap.size ≤ B) : IsPairs w' a n N S := by
  rcases h with h | ⟨b, off, ha, hlt, hc⟩
  · exact .inl h
  · refine .inr ⟨b, off, ha, Nat.lt_of_lt_of_le hlt hb.size, fun i hi => ?_⟩
    obtain ⟨h1, h2⟩ := hc i hi
    exact ⟨(hb.cell (p := ⟨b, off + i * 2, none⟩) (by show b < B; omega)).trans h1, (hb.cell (p := ⟨b, off + i * 2 + 1, none⟩) (by show b < B; omega)).trans h2⟩
theorem IsStrs.below {w w' : World} {a : Option Addr} {n : Nat} {F : Nat → ByteArray} {B : Nat} (h : IsStrs w a n F) (hb : Below B w w') (hB : w.heap.size ≤ B) : IsStrs w' a n F := by
  rcases h with h | ⟨b, off, ha, hlt, hc⟩
  · exact .inl h
  · refine .inr ⟨b, off, ha, Nat.lt_of_lt_of_le hlt hb.size, fun i hi => ?_⟩
    exact (hb.cell (p := ⟨b, off + i, none⟩) (by show b < B; omega)).trans (hc i hi)

theorem ret_int {k : IntKind} {a b : Int} (h : a = b) : Ending.returned (.int k a) = .returned (.int k b) := by rw [h]

/-- it returns some bool, some int. -/
def SomeBool (e : Ending) : Prop := ∃ b : Bool, e = .returned (.bool b)
def SomeInt (e : Ending) : Prop := ∃ r : Int, e = .returned (.int .i64 r)

/-! ### addProcBytes -/
set_option maxHeartbeats 400000 in
theorem add_any (t : Int) (a : Option Addr) (n cap : Nat) (N S : Nat → ByteArray) (w : World) (hp : IsPairs w a n N S) (hn : n ≤ 4398046511104) :
    Calls Try.prog 6 #[.int .i64 t, .slice a n cap] w fun e w' => SomeInt e ∧ Below w.heap.size w w' := by
  rcases hp with h0 | ⟨b, off, rfl, hlt, hc⟩
  all_goals
    go_enter Try.func6, Try.ntmps6
    go_wp2
    go_loopw [0, 5] (fun x i wr => ∃ (k : Nat) (r : Int), k ≤ n ∧ i = .int .i64 k ∧ x = .int .i64 r ∧ Below w.heap.size w wr) (fun _ i _ => n - (intOf i).toNat)
    case atStart => exact ⟨0, t, Nat.zero_le _, rfl, rfl, Below.refl _ _⟩
    case round =>
      obtain ⟨k, r, hk, rfl, rfl, hbel⟩ := hrel
      by_cases hkn : k < n
      · first
        | (exfalso; omega)
        | (have h1 := (hbel.cell (p := ⟨b, off + k * 2, none⟩) (by assumption)).trans (hc k hkn).1
           have h2 := (hbel.cell (p := ⟨b, off + k * 2 + 1, none⟩) (by assumption)).trans (hc k hkn).2
           clear hc
           by_cases hbig : 1048576 < r
           · go_wp2
             go_ret
             exact ⟨⟨_, rfl⟩, hbel⟩
           · go_wp2
             go_quiet (fail)
             go_wp2
             go_roundw
             case rel => exact ⟨k + 1, _, by omega, by go_num, rfl, below_drewN hbel _⟩
             case measure => simp [intOf]; omega)
      · go_wp2
        go_ret
        exact ⟨⟨_, rfl⟩, hbel⟩

/-! ### countNamed -/
/-- is entry i named so? -/
def hit (N : Nat → ByteArray) (h : ByteArray) (i : Nat) : Bool := (N i).toList == h.toList
/-- how many of the first k are. -/
def cnt (N : Nat → ByteArray) (h : ByteArray) (k : Nat) : Nat := ((List.range k).filter (hit N h)).length
theorem cnt_succ (N : Nat → ByteArray) (h : ByteArray) (k : Nat) : cnt N h (k + 1) = cnt N h k + if hit N h k then 1 else 0 := by
  unfold cnt
  rw [List.range_succ, List.filter_append, List.length_append]
  congr 1
  cases hk : hit N h k <;> simp [hk]
theorem cnt_le (N : Nat → ByteArray) (h : ByteArray) (k : Nat) : cnt N h k ≤ k := by
  have := List.length_filter_le (hit N h) (List.range k)
  simpa [cnt] using this

set_option maxHeartbeats 400000 in
theorem count_any (a : Option Addr) (n cap : Nat) (N S : Nat → ByteArray) (h : ByteArray) (w : World) (hp : IsPairs w a n N S) (hn : n ≤ 4398046511104) :
    Calls Try.prog 12 #[.slice a n cap, .string h] w fun e w' => e = .returned (.int .i64 (cnt N h n)) ∧ w' = w := by
  rcases hp with h0 | ⟨b, off, rfl, hlt, hc⟩
  all_goals
    go_enter Try.func12, Try.ntmps12
    go_wp2
    go_loop [5, 6] (fun x i => ∃ k : Nat, k ≤ n ∧ i = .int .i64 k ∧ x = .int .i64 (cnt N h k)) (fun _ i => n - (intOf i).toNat)
    case atStart => exact ⟨0, Nat.zero_le _, rfl, rfl⟩
    case round =>
      obtain ⟨k, hk, rfl, rfl⟩ := hrel
      have hcl := cnt_le N h k
      by_cases hkn : k < n
      · first
        | (exfalso; omega)
        | (have h1 := (hc k hkn).1
           clear hc
           have HS : Hid (cnt N h (k + 1) = cnt N h k + if hit N h k then 1 else 0) := cnt_succ N h k
           cases hh : ((N k).toList == h.toList)
           · have HH : Hid (hit N h k = false) := hh
             go_wp2
             go_round
             case rel => exact ⟨k + 1, by omega, by go_num, by rw [HS.out, HH.out]; rfl⟩
             case measure => simp [intOf]; omega
           · have HH : Hid (hit N h k = true) := hh
             go_wp2
             go_round
             case rel => exact ⟨k + 1, by omega, by go_num, by rw [HS.out, HH.out]; rfl⟩
             case measure => simp [intOf]; omega)
      · have HE : Hid (k = n) := by show _ = _; omega
        go_wp2
        go_ret
        exact ⟨ret_int (congrArg (fun x : Nat => ((cnt N h x : Nat) : Int)) (by have := HE.out; omega)), rfl⟩

/-! ### sameStrings, at two slices that hold the same -/
set_option maxHeartbeats 400000 in
theorem same_true (a a' : Option Addr) (n cap cap' : Nat) (F : Nat → ByteArray) (w : World) (hp : IsStrs w a n F) (hp' : IsStrs w a' n F) (hn : n ≤ 8796093022208) :
    Calls Try.prog 11 #[.slice a n cap, .slice a' n cap'] w fun e w' => e = .returned (.bool true) ∧ Below w.heap.size w w' := by
  by_cases hz : n = 0
  · subst hz
    go_enter Try.func11, Try.ntmps11
    go_wp2
    go_loopw [5] (fun i wr => i = .int .i64 0 ∧ wr = w) (fun _ _ => 0)
    case atStart => exact ⟨rfl, rfl⟩
    case round =>
      obtain ⟨rfl, rfl⟩ := hrel
      go_wp2
      go_ret
      exact ⟨rfl, Below.refl _ _⟩
  · rcases hp with h0 | ⟨b, off, rfl, hlt, hc⟩
    · exact absurd h0 hz
    rcases hp' with h0 | ⟨b', off', rfl, hlt', hc'⟩
    · exact absurd h0 hz
    go_enter Try.func11, Try.ntmps11
    go_wp2
    go_loopw [5] (fun i wr => ∃ k : Nat, k ≤ n ∧ i = .int .i64 k ∧ Below w.heap.size w wr) (fun i _ => n - (intOf i).toNat)
    case atStart => exact ⟨0, Nat.zero_le _, rfl, Below.refl _ _⟩
    case round =>
      obtain ⟨k, hk, rfl, hbel⟩ := hrel
      by_cases hkn : k < n
      · have h1 := (hbel.cell (p := ⟨b, off + k, none⟩) (by assumption)).trans (hc k hkn)
        have h2 := (hbel.cell (p := ⟨b', off' + k, none⟩) (by assumption)).trans (hc' k hkn)
        clear hc hc'
        go_wp2
        go_quiet (fail)
        go_wp2
        go_roundw
        case rel => exact ⟨k + 1, by omega, by go_num, below_drewN hbel _⟩
        case measure => simp [intOf]; omega
      · go_wp2
        go_ret
        exact ⟨rfl, hbel⟩
end Go.Proofs.Qxb6627500a
