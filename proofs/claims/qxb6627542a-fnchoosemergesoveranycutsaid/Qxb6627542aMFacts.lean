/-
  THE PLAIN FACTS on which FnChooseMergesOverAnyCut leans.
-/
import Derived.Test.Qxb6627542aPre
namespace Go.Proofs.Qxb6627542a
open Plain

theorem range_nat (l : List Nat) : (List.range l.length).map (fun i => l.getD i 0) = l := by
  apply List.ext_getElem?
  intro i
  by_cases h : i < l.length
  · rw [List.getElem?_map, List.getElem?_range h, List.getElem?_eq_getElem h]
    simp [List.getD_eq_getElem?_getD, List.getElem?_eq_getElem h]
  · rw [List.getElem?_eq_none (by simp; omega), List.getElem?_eq_none (by omega)]

/-- what an answer holds -/
theorem ans_at {s : Int} {K : Nat → Int} {n : Nat} {k : Int} {m : Nat} {G : Nat → Int} (e : answer s K n k = (List.range m).map G) :
    m = (tops (ranks s K) n k).length ∧ ∀ i, i < m → G i = (((tops (ranks s K) n k).getD i 0 : Nat) : Int) := by
  have hl : m = (tops (ranks s K) n k).length := by
    have := congrArg List.length e
    simpa [answer] using this.symm
  refine ⟨hl, fun i hi => ?_⟩
  have := congrArg (·[i]?) e
  have hi2 : i < (tops (ranks s K) n k).length := by omega
  simp only [answer, List.getElem?_map, List.getElem?_range hi, List.getElem?_eq_getElem hi2, Option.map_some, Option.some.injEq] at this
  rw [← this, List.getD_eq_getElem?_getD, List.getElem?_eq_getElem hi2]; rfl
theorem tops_lt (r : Nat → Int) (n : Nat) (k : Int) (i : Nat) (hi : i < (tops r n k).length) : (tops r n k).getD i 0 < n := by
  rw [List.getD_eq_getElem?_getD, List.getElem?_eq_getElem hi]
  have := List.getElem_mem hi
  exact List.mem_range.1 (List.mem_filter.1 this).1
theorem tops_mono (r : Nat → Int) (n : Nat) (k : Int) (i j : Nat) (hij : i < j) (hj : j < (tops r n k).length) : (tops r n k).getD i 0 < (tops r n k).getD j 0 := by
  have hpw : (tops r n k).Pairwise (· < ·) := List.Pairwise.filter _ List.pairwise_lt_range
  have := List.pairwise_iff_getElem.1 hpw i j (by omega) hj hij
  rw [List.getD_eq_getElem?_getD, List.getElem?_eq_getElem (by omega), List.getD_eq_getElem?_getD, List.getElem?_eq_getElem hj]
  exact this
theorem tops_len_le (r : Nat → Int) (n : Nat) (k : Int) : (tops r n k).length ≤ n := by
  have := List.length_filter_le (inB r n k) (List.range n)
  simpa [tops] using this
theorem tops_len (r : Nat → Int) (n : Nat) (k : Int) : ((tops r n k).length : Int) = if k < 0 then 0 else if (n : Int) < k then (n : Int) else k := by
  by_cases h0 : k ≤ 0
  · rw [tops_none r n k h0]
    simp only [List.length_nil]
    split
    · rfl
    · rw [if_neg (by omega)]; omega
  · rw [if_neg (by omega)]
    by_cases h1 : (n : Int) ≤ k
    · rw [tops_all r n k h1, List.length_range]
      split
      · rfl
      · omega
    · rw [if_neg (by omega)]
      obtain ⟨kk, rfl⟩ : ∃ kk : Nat, k = kk := ⟨k.toNat, by omega⟩
      rw [tops_length r n kk (by omega)]

/-- EVERYTHING THAT THE LAW ASKS -/
structure MF (s : Int) (K : Nat → Int) (n c : Nat) (k : Int) (mW : Nat) (GW : Nat → Int) (mL : Nat) (GL : Nat → Int) (mR : Nat) (GR : Nat → Int) (f : Nat → Nat) : Prop where
  fit : mL + mR ≤ n
  left : ∀ i, i < mL → 0 ≤ GL i ∧ GL i < (c : Int)
  right : ∀ i, i < mR → 0 ≤ GR i ∧ GR i < (n : Int) - (c : Int)
  fl : ∀ q, q < mL → GL q = (f q : Int)
  fr : ∀ q, q < mR → (c : Int) + GR q = (f (mL + q) : Int)
  flt : ∀ q, q < mL + mR → f q < n
  want : (mW : Int) = if k < 0 then 0 else if (n : Int) < k then (n : Int) else k
  asc : ∀ p, p + 1 < mW → GW p < GW (p + 1)
  merged : ∀ mM GM, answer s (fun q => K (f q)) (mL + mR) k = (List.range mM).map GM → mM = mW ∧ ∀ p, p < mW → ∃ t : Nat, GM p = (t : Int) ∧ t < mL + mR ∧ (f t : Int) = GW p

theorem merge_facts {s : Int} {K : Nat → Int} {n c : Nat} (hc : c ≤ n) {k : Int} {mW mL mR : Nat} {GW GL GR : Nat → Int}
    (eW : answer s K n k = (List.range mW).map GW) (eL : answer s K c k = (List.range mL).map GL) (eR : answer s (fun i => K (c + i)) (n - c) k = (List.range mR).map GR) :
    ∃ f, MF s K n c k mW GW mL GL mR GR f := by
  obtain ⟨lW, aW⟩ := ans_at eW
  obtain ⟨lL, aL⟩ := ans_at eL
  obtain ⟨lR, aR⟩ := ans_at eR
  have hr' : ranks s (fun i => K (c + i)) = fun i => ranks s K (c + i) := rfl
  rw [hr'] at lR aR
  have hidx := parts (ranks s K) n c hc k
  have hpin := parts_in (ranks s K) n c hc k
  generalize hrr : ranks s K = r at *
  have hA := tops_len_le r c k
  have hB := tops_len_le (fun i => r (c + i)) (n - c) k
  have hlen : (tops r c k ++ (tops (fun i => r (c + i)) (n - c) k).map (c + ·)).length = mL + mR := by simp; omega
  have hgl : ∀ q, q < mL → (tops r c k ++ (tops (fun i => r (c + i)) (n - c) k).map (c + ·)).getD q 0 = (tops r c k).getD q 0 := by
    intro q hq
    rw [List.getD_eq_getElem?_getD, List.getElem?_append_left (by omega), ← List.getD_eq_getElem?_getD]
  have hgr : ∀ q, q < mR → (tops r c k ++ (tops (fun i => r (c + i)) (n - c) k).map (c + ·)).getD (mL + q) 0 = c + (tops (fun i => r (c + i)) (n - c) k).getD q 0 := by
    intro q hq
    rw [List.getD_eq_getElem?_getD, List.getElem?_append_right (by omega), show mL + q - (tops r c k).length = q by omega, List.getElem?_map, List.getD_eq_getElem?_getD, List.getElem?_eq_getElem (by omega)]
    rfl
  refine ⟨fun q => (tops r c k ++ (tops (fun i => r (c + i)) (n - c) k).map (c + ·)).getD q 0, ?_, ?_, ?_, ?_, ?_, ?_, ?_, ?_, ?_⟩
  · omega
  · intro i hi
    have := tops_lt r c k i (by omega)
    rw [aL i hi]; omega
  · intro i hi
    have := tops_lt (fun i => r (c + i)) (n - c) k i (by omega)
    rw [aR i hi]; omega
  · intro q hq
    rw [aL q hq, hgl q hq]
  · intro q hq
    rw [aR q hq, hgr q hq]; simp
  · intro q hq
    by_cases h : q < mL
    · rw [hgl q h]
      have := tops_lt r c k q (by omega)
      omega
    · obtain ⟨q', rfl⟩ : ∃ q', q = mL + q' := ⟨q - mL, by omega⟩
      rw [hgr q' (by omega)]
      have := tops_lt (fun i => r (c + i)) (n - c) k q' (by omega)
      omega
  · rw [lW]; exact tops_len r n k
  · intro p hp
    rw [aW p (by omega), aW (p + 1) hp]
    have := tops_mono r n k p (p + 1) (by omega) (by omega)
    omega
  · intro mM GM eM
    generalize hix : (tops r c k ++ (tops (fun i => r (c + i)) (n - c) k).map (c + ·)) = idx at *
    obtain ⟨lM, aM⟩ := ans_at eM
    have hm := merge (r := r) (n := n) (k := k) hidx hpin (s := ranks s (fun q => K (idx.getD q 0))) (f := fun q => idx.getD q 0) (range_nat idx) (fun q _ => by rw [← hrr]; rfl)
    rw [hlen] at hm
    have hmm : mM = mW := by
      have := congrArg List.length hm
      rw [List.length_map] at this; omega
    refine ⟨hmm, fun p hp => ?_⟩
    refine ⟨(tops (ranks s (fun q => K (idx.getD q 0))) (mL + mR) k).getD p 0, aM p (by omega), tops_lt _ _ _ p (by omega), ?_⟩
    rw [aW p hp]
    have := congrArg (·.getD p 0) hm
    rw [← this, List.getD_eq_getElem?_getD (l := List.map _ _), List.getElem?_map]
    have hp2 : p < (tops (ranks s (fun q => K (idx.getD q 0))) (mL + mR) k).length := by omega
    rw [List.getElem?_eq_getElem hp2, List.getD_eq_getElem?_getD (l := tops _ _ _), List.getElem?_eq_getElem hp2]
    rfl
end Go.Proofs.Qxb6627542a
