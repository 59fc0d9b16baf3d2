/-
  WHAT A []Proc THAT CAME IN IS GOOD FOR: from the form's reading to 'IsPairs'; its reach.
-/
import Derived.Test.Qxb6627500aReads
import Derived.ProofKit
import Derived.OpenShut
import Derived.ShutString
import Derived.ChangeOld
import Derived.SizedLaws
import Derived.Deep.SlicePairs
namespace Go.Proofs.Qxb6627500a
open Go.ChangeShapes Go.WideShapes Go.ChangeAt Go.RowKit

theorem own : ownKnob Try.prog.godebug = none := by kernel_rfl
theorem laidOut : laidOutB Try.prog = true := by kernel_rfl
theorem cells34 : Try.prog.cellsOf 34 = 2 := by kernel_rfl
theorem cells9 : Try.prog.cellsOf 9 = 1 := by kernel_rfl
theorem bytes34 : Try.prog.bytesOf 34 = 32 := by kernel_rfl

/-- the string that a value is -/
def strOf : Value → ByteArray
  | .string s => s
  | _ => ByteArray.empty

theorem open_procs {H : Type} {enc : TypeId × Value → H} {W : World} {a : Option Addr} {len cap : Nat} {d : DataW H} {p : List MemPlace} (h : DataW.Trod enc Try.prog W 0 (fun _ => true) true 22 (.slice a len cap) d p) :
    ∃ N S, IsPairs W a len N S ∧ len ≤ cap ∧ ((d = .nil ∧ cap = 0) ∨ ∃ elems spare, d = .slice elems spare ∧ elems.length + spare.length = cap) := by
  obtain ⟨fuel, hf⟩ := h
  rcases Deep.open_slice_pairs Try.underlying22 Try.underlying34 cells34 rfl rfl cells9 cells9 hf with ⟨hcs, hx⟩ | ⟨x, l, c, m, n, V0, V1, D0, D1, P0, P1, hcs, _, hl, hm, hmm, hx, hcell⟩
  · simp [Value.cells] at hcs
    obtain ⟨rfl, rfl, rfl⟩ := hcs
    simp at hx
    exact ⟨fun _ => ByteArray.empty, fun _ => ByteArray.empty, .inl rfl, Nat.le_refl _, .inl ⟨hx.1, rfl⟩⟩
  · simp [Value.cells] at hcs
    obtain ⟨rfl, rfl, rfl⟩ := hcs
    simp only [if_true] at hmm
    subst hmm
    refine ⟨fun i => strOf (V0 i), fun i => strOf (V1 i), ?_, hl, .inr ⟨_, _, (Prod.mk.inj hx).1, by simp; omega⟩⟩
    by_cases h0 : len = 0
    · exact .inl h0
    · obtain ⟨b, off, spot⟩ := x
      have hspot : spot = none := by simpa [Addr.add] using World.cell?_spot (hcell 0 (by omega)).1
      subst hspot
      refine .inr ⟨b, off, rfl, ?_, fun i hi => ?_⟩
      · have h1 := (hcell 0 (by omega)).1
        rcases Nat.lt_or_ge b W.heap.size with hlt | hge
        · exact hlt
        · rw [Go.WideShapes.add_plain] at h1
          simp [World.cell?, Array.getElem?_eq_none hge] at h1
      · obtain ⟨h1, h2, h3, h4⟩ := hcell i (by omega)
        obtain ⟨s0, e0, _, _⟩ := DataW.trod_string Try.underlying9 h3
        obtain ⟨s1, e1, _, _⟩ := DataW.trod_string Try.underlying9 h4
        simp only [List.cons.injEq, and_true] at e0 e1
        rw [Go.WideShapes.add_plain] at h1 h2
        have f0 : strOf (V0 i) = s0 := by rw [e0]; rfl
        have f1 : strOf (V1 i) = s1 := by rw [e1]; rfl
        refine ⟨by show _ = some (Value.string (strOf (V0 i))); rw [h1, f0, e0], ?_⟩
        show W.cell? ⟨b, off + i * 2 + 1, none⟩ = some (Value.string (strOf (V1 i)))
        rw [Nat.add_assoc, h2, f1, e1]
end Go.Proofs.Qxb6627500a
