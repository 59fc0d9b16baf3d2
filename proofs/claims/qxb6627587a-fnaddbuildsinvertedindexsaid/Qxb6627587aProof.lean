/-
  THE ROW of FnAddBuildsInvertedIndex (3).
-/
import Derived.Test.Qxb6627587aLaw
import Derived.ProofKit
import Derived.OpenShut
import Derived.ShutString
import Derived.ChangeOld
import Derived.Deep.Slices
namespace Go.Proofs.Qxb6627587a
open Go.ChangeShapes Go.WideShapes Go.ChangeAt Go.RowKit

theorem own : ownKnob Try.prog.godebug = none := by kernel_rfl
theorem laidOut : laidOutB Try.prog = true := by kernel_rfl
theorem cells32 : Try.prog.cellsOf 32 = 32 := by kernel_rfl
theorem cells5 : Try.prog.cellsOf 5 = 1 := by kernel_rfl

/-- the byte that a value is -/
def byteOf : Value → Nat
  | .int _ n => n.toNat
  | _ => 0

theorem wf_u8 {k : Int} (h : (Lit.int .u8 k).wf = true) : 0 ≤ k ∧ k < 256 := by
  have h1 : (decide (IntKind.u8.min ≤ k) && decide (k ≤ IntKind.u8.max)) = true := h
  have e1 : IntKind.u8.min = 0 := by kernel_rfl
  have e2 : IntKind.u8.max = 255 := by kernel_rfl
  rw [e1, e2] at h1
  simp at h1
  omega

theorem open_sk {H : Type} {enc : TypeId × Value → H} {W : World} {a : Option Addr} {len cap : Nat} {d : DataW H} {p : List MemPlace} (h : DataW.Trod enc Try.prog W 0 (fun _ => true) true 22 (.slice a len cap) d p) :
    ∃ S, IsSk W a len S ∧ ∀ i, i < len → ∀ t, t < 32 → S i t < 256 := by
  obtain ⟨fuel, hf⟩ := h
  rcases Deep.open_slice Try.underlying22 hf with ⟨hcs, _⟩ | ⟨x, l, c, m, n, D, Pl, hcs, _, hl, _, hmm, _, hx⟩
  · simp [Value.cells] at hcs
    obtain ⟨rfl, rfl, rfl⟩ := hcs
    exact ⟨fun _ _ => 0, .inl rfl, fun i hi => by omega⟩
  · simp [Value.cells] at hcs
    obtain ⟨rfl, rfl, rfl⟩ := hcs
    simp only [if_true] at hmm
    subst hmm
    have each : ∀ i, i < len → ∀ t, t < 32 → ∃ k : Int, W.cell? (x.add (i * 32 + t)) = some (.int .u8 k) ∧ (Lit.int .u8 k).wf = true := by
      intro i hi t ht
      obtain ⟨cs', h1, h2⟩ := hx i (by omega)
      rw [cells32] at h1
      obtain ⟨_, hlen, hcell⟩ := World.cells?_some h1
      obtain ⟨xs, k, _, _, _, hxl, hf⟩ := DataW.trod_array Try.underlying32 h2
      have g := hf t ht
      rw [cells5, List.getElem?_eq_getElem (by omega)] at g
      obtain ⟨z, hz, _, hwf⟩ := DataW.trod_int Try.underlying5 g
      refine ⟨z, ?_, hwf⟩
      have e := hcell t ht
      rw [Deep.add_add] at e
      rw [e]
      have hz2 : ((cs'.drop (t * 1)).take 1)[0]? = some (Value.int .u8 z) := by rw [hz]; rfl
      simpa using hz2
    refine ⟨fun i t => byteOf ((W.cell? (x.add (i * 32 + t))).getD undef), ?_, fun i hi t ht => ?_⟩
    · by_cases h0 : len = 0
      · exact .inl h0
      · obtain ⟨b, off, spot⟩ := x
        obtain ⟨k0, hk0, _⟩ := each 0 (by omega) 0 (by omega)
        have hspot : spot = none := by simpa [Addr.add] using World.cell?_spot hk0
        subst hspot
        refine .inr ⟨b, off, rfl, ?_, fun i hi t ht => ?_⟩
        · rcases Nat.lt_or_ge b W.heap.size with hlt | hge
          · exact hlt
          · rw [add_at0] at hk0
            simp [World.cell?, Array.getElem?_eq_none hge] at hk0
        · obtain ⟨k, hk, hwf⟩ := each i hi t ht
          show _ = some (Value.int .u8 ((byteOf ((W.cell? ((⟨b, off, none⟩ : Addr).add (i * 32 + t))).getD undef) : Nat) : Int))
          rw [hk]
          rw [add_at0, ← Nat.add_assoc] at hk
          rw [hk]
          simp [byteOf, Int.toNat_of_nonneg (wf_u8 hwf).1]
    · obtain ⟨k, hk, hwf⟩ := each i hi t ht
      show byteOf ((W.cell? (x.add (i * 32 + t))).getD undef) < 256
      have hw := wf_u8 hwf
      rw [hk]
      simp [byteOf]
      omega

set_option maxRecDepth 100000 in
theorem lifted (os : Os) (started : os.Started) (H : Type) (enc : TypeId × Value → H) :
    ReturnsInHanded {} Try.checked os 3 .any (Rows.fnAddBuildsInvertedIndexSpec.pre6 enc Try.prog Try.f3 Rows.fnAddBuildsInvertedIndexRow.domain false) (Rows.fnAddBuildsInvertedIndexSpec.post enc Try.prog Try.f3 false true false false) := by
  refine returnsInHanded_of_change (C := Try.checked) own started (by kernel_rfl) Try.func3
    (ChangeSpec.witness6 (enc := enc) (C := Try.checked) false ⟨#[], #[.slice none 0 0], []⟩ 8 (by kernel_rfl) (by kernel_rfl) (by kernel_rfl) (by kernel_rfl)) ?_
  intro W base args ds gs before hval0 hW _ _
  have hval : ∀ (j : Nat) t v, Try.f3.params[j]? = some t → args[j]? = some v → Value.okWide Try.prog W .any base t v := hval0
  have hW' := hW
  obtain ⟨p, q, hA0, hV, rfl, hfz, hnd⟩ := hW
  have hA : DataW.TrodAll enc Try.prog W 0 (fun _ => true) true Try.f3.params.toList args.toList ds p := hA0
  rw [Try.params3] at hA hval
  obtain ⟨v0, vs0, d0, ds0, p0, q0, hargs, rfl, rfl, h0, r0⟩ := trodAll_cons hA
  obtain ⟨rfl, rfl, rfl⟩ := trodAll_nil r0
  obtain rfl : args = #[v0] := by cases args; simp_all
  obtain ⟨rfl, rfl⟩ := trodVars_none hV
  obtain ⟨a0, len0, cap0, rfl⟩ := okWide_slice Try.underlying22 (hval 0 22 v0 rfl rfl)
  have k0 := h0
  have lt0 : ∀ x ∈ p0, x.block < W.heap.size := by obtain ⟨m, hm⟩ := k0; exact DataW.trod_lt m _ _ _ hm
  obtain ⟨S, hS1, hS2⟩ := open_sk h0
  clear hA0 hval0
  refine (law_walk a0 len0 cap0 S W hS1 hS2).mono fun e W' ⟨he, bel⟩ => ?_
  subst he
  exact ⟨_, rfl, _, _, _, [], _, [], hW', trodAll_mk1 (shut_bool Try.underlying4 _), (trodAll_cons_mk (Below.trod laidOut (by kernel_rfl) (of_decide_eq_true (by kernel_rfl)) k0 bel lt0) trodAll_mk0), rfl, bel.frame _, fun h => by cases h⟩

/-- ████ THE STATEMENT ████ -/
theorem index_proved : Rows.FnAddBuildsInvertedIndexSaid :=
  OpenClaim.holds_of_wide 3 Try.f3 rfl rfl rfl rfl rfl rfl rfl ⟨rfl, rfl, rfl, rfl, rfl⟩ rfl rfl rfl rfl rfl (by kernel_rfl) Try.func3 (by kernel_rfl)
    (of_decide_eq_true (by kernel_rfl)) (by unfold Func.isWrapper; first | (rw [if_pos (by decide +kernel)]; kernel_rfl) | (rw [if_neg (by decide +kernel)]; exact ⟨rfl, rfl⟩))
    (fun os started H enc _ => lifted os started H enc)
end Go.Proofs.Qxb6627587a
