/-
  CLOSED FACTS and small laws: the types' sizes and zeros; an index into an array value; the load of an array in the midst of a block.
-/
import Derived.Test.Qxb6627587aRows
import Derived.WalkKit
import Derived.WalkSpells
import Derived.WalkLawsBesides
import Derived.Deep.QuietTactic
import Derived.BigQuiet
import Derived.Deep.AppendLies
import Derived.Lib.SmallJoins
namespace Go.Proofs.Qxb6627587a
open Go.RowKit

theorem Try.info3 : (Try.prog.info? 3).map (fun i => (i.zero, i.size, i.bytes)) = some (some (.int .i64 0), 1, 8) := by kernel_rfl
theorem Try.info4 : (Try.prog.info? 4).map (fun i => (i.zero, i.size, i.bytes)) = some (some (.bool false), 1, 1) := by kernel_rfl
theorem Try.info42 : (Try.prog.info? 42).map (fun i => (i.zero, i.size, i.bytes)) = some (some (.agg #[.int .u32 0, .int .u32 0]), 2, 8) := by kernel_rfl

/-! ### the zero of the Index: 8194 nil slices -/
def nils (n : Nat) : List Value := List.replicate n (.slice none 0 0)
theorem nils_append {A B : List Value} {a b : Nat} (ha : A = nils a) (hb : B = nils b) : A.append B = nils (a + b) := by
  subst ha hb
  show nils a ++ nils b = _
  simp [nils]
theorem nils_of {A : List Value} {a b : Nat} (h : A = nils a) (e : a = b) : A = nils b := e ▸ h
theorem nils_leaf {A : List Value} (h : A = nils A.length) : A = nils A.length := h
theorem nils_get {n j : Nat} (h : j < n) : (nils n)[j]? = some (.slice none 0 0) := by
  simp [nils, h]
set_option maxRecDepth 30000 in
theorem zero30 : ∃ l : List Value, Try.t30.zero = some (.agg l.toArray) ∧ l = nils 8194 := by
  refine ⟨_, rfl, ?_⟩
  apply nils_of
  · repeat' with_reducible apply nils_append
    all_goals (apply nils_leaf; kernel_rfl)
  · kernel_rfl

theorem idx33 {cs : Array Value} {t : Nat} {x : Value} (ht : t < 32) (h : cs[t]? = some x) (w : World) :
    (Instr.index 33 (.agg cs) (.int .i64 (t : Int))).run Try.prog w = .ok x w := by
  have h0 : (t : Int) < 32 := by omega
  simp only [Instr.index, asIntOf, run_underlying Try.underlying33, Sem.run_bind, Sem.run_pure, Result.andThen_ok]
  rw [if_pos ⟨by omega, h0⟩]
  simp [part, h]
end Go.Proofs.Qxb6627587a
