/-
  THE WALKS of rank (10), ZZrank (7), below (14).
-/
import Derived.Test.Qxb6627542aRows
import Derived.Test.Qxb6627542aTops
import Derived.WalkKit
import Derived.WalkSpells
import Derived.WalkLawsBesides
import Derived.Deep.QuietTactic
import Derived.BigQuiet
import Derived.Deep.RegionHeld3
import Derived.Deep.AppendLies
namespace Go.Proofs.Qxb6627542a
open Go.RowKit Plain

/-- the three steps of the mixing, in the walk's own words -/
def mix1 (x : Int) : Int := IntKind.u64.wrap (bits BinOp.xor IntKind.u64 x (x / 1073741824) * 13787848793156543929)
def mix2 (x : Int) : Int := IntKind.u64.wrap (bits BinOp.xor IntKind.u64 x (x / 134217728) * 10723151780598845931)
def mix3 (x : Int) : Int := bits BinOp.xor IntKind.u64 x (x / 2147483648)
def rk (s k : Int) : Int := mix3 (mix2 (mix1 (bits BinOp.xor IntKind.u64 s k)))
set_option maxHeartbeats 400000 in
theorem rank_any (s k : Int) (w : World) :
    Calls Try.prog 10 #[.int .u64 s, .int .u64 k] w fun e w' => e = .returned (.int .u64 (rk s k)) ∧ w' = w := by
  go_enter Try.func10, Try.ntmps10
  go_wp2
  go_ret
  exact ⟨rfl, rfl⟩
set_option maxHeartbeats 400000 in
theorem zzrank_any (s k : Int) (w : World) :
    Calls Try.prog 7 #[.int .u64 s, .int .u64 k] w fun e w' => e = .returned (.int .u64 (rk s k)) ∧ w' = w := by
  go_enter Try.func7, Try.ntmps7
  go_wp2_with (go_at_call 10; refine (rank_any _ _ _).mono ?_; rintro e w' ⟨rfl, rfl⟩)
  go_ret
  exact ⟨rfl, rfl⟩

/-- a member as a value -/
def mv (m : M) : Value := .agg #[.int .u64 m.1, .int .i64 m.2]
/-- a member's own box -/
def mbox (m : M) : Obj := .cells #[.int .u64 m.1, .int .i64 m.2] 32

set_option maxHeartbeats 400000 in
theorem below_any (a b : M) (w : World) :
    Calls Try.prog 14 #[.agg #[.int .u64 a.1, .int .i64 a.2], .agg #[.int .u64 b.1, .int .i64 b.2]] w fun e w' => e = .returned (.bool (ltB a b)) ∧ w' = (w.alloc (mbox a)).alloc (mbox b) := by
  obtain ⟨a1, a2⟩ := a
  obtain ⟨b1, b2⟩ := b
  by_cases h1 : a1 < b1
  · have hl : ltB (a1, a2) (b1, b2) = true := by simp [ltB, h1]
    rw [hl]
    go_enter Try.func14, Try.ntmps14
    go_wp2
    go_ret
    exact ⟨rfl, rfl⟩
  · by_cases h2 : a1 = b1
    · subst h2
      have hl : ltB (a1, a2) (a1, b2) = decide (b2 < a2) := by simp [ltB]
      rw [hl]
      go_enter Try.func14, Try.ntmps14
      go_wp2
      go_ret
      exact ⟨rfl, rfl⟩
    · have h3 : (a1 == b1) = false := by simpa using h2
      have hl : ltB (a1, a2) (b1, b2) = false := by simp [ltB, h1, h2]
      rw [hl]
      go_enter Try.func14, Try.ntmps14
      go_wp2
      go_ret
      exact ⟨rfl, rfl⟩
end Go.Proofs.Qxb6627542a
