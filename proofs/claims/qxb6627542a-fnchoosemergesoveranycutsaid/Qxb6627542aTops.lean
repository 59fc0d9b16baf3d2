/-
  THE PLAIN LAWS: what Choose answers ('tops'), and that it merges over any cut.
-/
import Derived.Test.Qxb6627542aPlain
namespace Go.Proofs.Qxb6627542a.Plain

/-- member i of the ranks r -/
def mem (r : Nat → Int) (i : Nat) : M := (r i, (i : Int))
/-- the first n members -/
def ms (r : Nat → Int) (n : Nat) : List M := (List.range n).map (mem r)
theorem ms_length (r : Nat → Int) (n : Nat) : (ms r n).length = n := by simp [ms]
theorem ms_succ (r : Nat → Int) (n : Nat) : ms r (n + 1) = ms r n ++ [mem r n] := by simp [ms, List.range_succ]
theorem ms_mem {r : Nat → Int} {n i : Nat} (h : i < n) : mem r i ∈ ms r n := List.mem_map.2 ⟨i, List.mem_range.2 h, rfl⟩

/-- how many of the first j rank above member i -/
def up (r : Nat → Int) (i j : Nat) : Nat := (List.range j).countP fun x => ltB (mem r i) (mem r x)
theorem up_succ (r : Nat → Int) (i j : Nat) : up r i (j + 1) = up r i j + if ltB (mem r i) (mem r j) then 1 else 0 := by
  unfold up
  rw [List.range_succ, List.countP_append]
  congr 1
  cases h : ltB (mem r i) (mem r j) <;> simp [h]
theorem up_le (r : Nat → Int) (i j : Nat) : up r i j ≤ j := by
  have := List.countP_le_length (p := fun x => ltB (mem r i) (mem r x)) (l := List.range j)
  simpa [up] using this
theorem above_up (r : Nat → Int) (n i : Nat) : above (ms r n) (mem r i) = up r i n := by
  unfold above ms up
  rw [List.countP_map]; rfl
theorem up_lt (r : Nat → Int) (n i : Nat) (h : i < n) : up r i n < n := by
  rw [← above_up]
  have := countP_lt (p := fun x => ltB (mem r i) x) (ms_mem (r := r) h) ((ltB_false _ _).2 (lt_irrefl _))
  rw [ms_length] at this; exact this

/-- does member i stand among the k highest of n? -/
def inB (r : Nat → Int) (n : Nat) (k : Int) (i : Nat) : Bool := decide ((up r i n : Int) < k)
/-- WHAT Choose ANSWERS -/
def tops (r : Nat → Int) (n : Nat) (k : Int) : List Nat := (List.range n).filter (inB r n k)

theorem filter_all {p : Nat → Bool} {l : List Nat} (h : ∀ i ∈ l, p i = true) : l.filter p = l := List.filter_eq_self.2 h
theorem tops_all (r : Nat → Int) (n : Nat) (k : Int) (h : (n : Int) ≤ k) : tops r n k = List.range n :=
  filter_all fun i hi => by
    have := up_lt r n i (List.mem_range.1 hi)
    simp only [inB, decide_eq_true_eq]; omega
theorem tops_none (r : Nat → Int) (n : Nat) (k : Int) (h : k ≤ 0) : tops r n k = [] :=
  List.filter_eq_nil_iff.2 fun i _ => by simp only [inB, decide_eq_true_eq]; omega

theorem Top.perm_filter {H L l : List M} {k : Nat} (h : Top H L l) (hk : H.length = k) : H.Perm (l.filter fun m => decide (above l m < k)) := by
  have e := h.perm.filter (fun m => decide (above l m < k))
  rw [List.filter_append] at e
  have e1 : H.filter (fun m => decide (above l m < k)) = H := List.filter_eq_self.2 fun m hm => by
    simp only [decide_eq_true_eq]; exact (h.mem_iff hk (h.perm.mem_iff.1 (List.mem_append_left _ hm))).1 hm
  have e2 : L.filter (fun m => decide (above l m < k)) = [] := List.filter_eq_nil_iff.2 fun m hm => by
    simp only [decide_eq_true_eq]
    intro hlt
    have hH := (h.mem_iff hk (h.perm.mem_iff.1 (List.mem_append_right _ hm))).2 hlt
    exact lt_irrefl m (h.upper m hH m hm)
  rw [e1, e2, List.append_nil] at e
  exact e

theorem filter_ms (r : Nat → Int) (n k : Nat) : ((ms r n).filter fun m => decide (above (ms r n) m < k)) = (tops r n k).map (mem r) := by
  unfold tops
  rw [show ms r n = (List.range n).map (mem r) from rfl, List.filter_map]
  congr 1
  apply List.filter_congr
  intro i _
  have := above_up r n i
  simp only [Function.comp, inB]
  rw [show above ((List.range n).map (mem r)) (mem r i) = up r i n from this]
  simp

/-- the indexes of the k highest, sorted. -/
theorem sort_tops {r : Nat → Int} {n k : Nat} {H L : List M} (h : Top H L (ms r n)) (hk : H.length = k) :
    (H.map (·.2)).mergeSort (fun x y => decide (x ≤ y)) = (tops r n k).map (fun i : Nat => (i : Int)) := by
  have p1 : (H.map (·.2)).Perm ((tops r n k).map fun i : Nat => (i : Int)) := by
    have := (h.perm_filter hk).map (·.2)
    rw [filter_ms, List.map_map] at this
    exact this
  have p2 := (List.mergeSort_perm (H.map (·.2)) (fun x y => decide (x ≤ y))).trans p1
  have s1 := List.pairwise_mergeSort (le := fun x y : Int => decide (x ≤ y)) (by intro a b c; simp; omega) (by intro a b; simp; omega) (H.map (·.2))
  refine List.Perm.eq_of_pairwise (le := fun x y => x ≤ y) (fun a b _ _ h1 h2 => by omega) (s1.imp (by simp)) ?_ p2
  refine List.Pairwise.map _ (R := fun a b : Nat => a < b) (fun a b hab => by omega) ?_
  exact List.Pairwise.filter _ List.pairwise_lt_range

/-- there is such a parting -/
theorem exists_top (r : Nat → Int) (n k : Nat) (h : k ≤ n) : ∃ H L, Top H L (ms r n) ∧ H.length = k := by
  let s := (ms r n).mergeSort (fun a b => !ltB a b)
  have hp : s.Perm (ms r n) := List.mergeSort_perm _ _
  have hs : s.Pairwise fun a b => (!ltB a b) = true := List.pairwise_mergeSort (le := fun a b : M => !ltB a b)
    (by intro a b c h1 h2
        simp only [Bool.not_eq_true', ltB_false] at *
        exact nlt_trans h2 h1)
    (by intro a b
        cases hc : ltB a b with
        | false => rfl
        | true =>
          have := lt_asymm ((ltB_iff _ _).1 hc)
          rw [(ltB_false _ _).2 this]; rfl) _
  have hd : s.Pairwise fun a b => a.2 ≠ b.2 := by
    refine (hp.pairwise_iff (fun {a b} h => Ne.symm h)).2 ?_
    refine List.Pairwise.map _ (R := fun a b : Nat => a < b) (fun a b hab => by simp only [mem]; omega) List.pairwise_lt_range
  refine ⟨s.take k, s.drop k, ⟨by rw [List.take_append_drop]; exact hp, fun x hx y hy => ?_⟩, ?_⟩
  · have e1 := hs
    have e2 := hd
    rw [← List.take_append_drop k s] at e1 e2
    have a1 := (List.pairwise_append.1 e1).2.2 x hx y hy
    have a2 := (List.pairwise_append.1 e2).2.2 x hx y hy
    simp only [Bool.not_eq_true', ltB_false] at a1
    rcases lt_total a2 with h1 | h1
    · exact absurd h1 a1
    · exact h1
  · rw [List.length_take, hp.length_eq, ms_length]; omega

theorem tops_length (r : Nat → Int) (n k : Nat) (h : k ≤ n) : (tops r n k).length = k := by
  obtain ⟨H, L, hT, hk⟩ := exists_top r n k h
  have := (hT.perm_filter hk).length_eq
  rw [filter_ms, List.length_map] at this
  omega

/-! ### Merging -/
/-- those of n that p lets by, p letting by all of the k highest -/
theorem merge {r : Nat → Int} {n : Nat} {k : Int} {p : Nat → Bool} {idx : List Nat} (hidx : idx = (List.range n).filter p) (hp : ∀ i, i < n → inB r n k i = true → p i = true) {s : Nat → Int} {f : Nat → Nat}
    (hf : (List.range idx.length).map f = idx) (hs : ∀ q, q < idx.length → s q = r (f q)) : (tops s idx.length k).map f = tops r n k := by
  have hlt : ∀ q, q < idx.length → f q < n := by
    intro q hq
    have : f q ∈ idx := by rw [← hf]; exact List.mem_map.2 ⟨q, List.mem_range.2 hq, rfl⟩
    rw [hidx] at this
    exact List.mem_range.1 (List.mem_filter.1 this).1
  have hmono : ∀ q q', q < idx.length → q' < idx.length → q' < q → f q' < f q := by
    have hpw : idx.Pairwise (· < ·) := by rw [hidx]; exact List.Pairwise.filter _ List.pairwise_lt_range
    rw [← hf] at hpw
    intro q q' hq hq' hlt
    have := List.pairwise_iff_getElem.1 hpw q' q (by simpa using hq') (by simpa using hq) hlt
    simpa using this
  -- the same order
  have hord : ∀ q q', q < idx.length → q' < idx.length → ltB (mem s q) (mem s q') = ltB (mem r (f q)) (mem r (f q')) := by
    intro q q' hq hq'
    have e : ((q' : Int) < q) ↔ ((f q' : Int) < f q) := by
      constructor
      · intro h; have := hmono q q' hq hq' (by omega); omega
      · intro h
        rcases Nat.lt_trichotomy q' q with h1 | h1 | h1
        · omega
        · subst h1; omega
        · have := hmono q' q hq' hq h1; omega
    rw [Bool.eq_iff_iff, ltB_iff, ltB_iff]
    simp only [lt, mem, hs q hq, hs q' hq', e]
  -- how many stand above, among those
  have hup : ∀ q, q < idx.length → up s q idx.length = idx.countP fun j => ltB (mem r (f q)) (mem r j) := by
    intro q hq
    have e : idx.countP (fun j => ltB (mem r (f q)) (mem r j)) = (List.range idx.length).countP ((fun j => ltB (mem r (f q)) (mem r j)) ∘ f) := by
      rw [← List.countP_map, hf]
    rw [e]
    unfold up
    exact List.countP_congr fun q' hq' => by rw [hord q q' hq (List.mem_range.1 hq')]; rfl
  have hle : ∀ q, q < idx.length → up s q idx.length ≤ up r (f q) n := by
    intro q hq
    rw [hup q hq, hidx, List.countP_filter]
    unfold up
    exact List.countP_mono_left fun j _ h => (Bool.and_eq_true _ _ ▸ h).1
  have hin : ∀ q, q < idx.length → inB s idx.length k q = inB r n k (f q) := by
    intro q hq
    rw [Bool.eq_iff_iff]
    constructor
    · intro h1
      simp only [inB, decide_eq_true_eq] at h1 ⊢
      by_cases h2 : (up r (f q) n : Int) < k
      · exact h2
      · exfalso
        have hk0 : 0 < k := by omega
        obtain ⟨kk, rfl⟩ : ∃ kk : Nat, k = kk := ⟨k.toNat, by omega⟩
        have hn := up_lt r n (f q) (hlt q hq)
        obtain ⟨H, L, hT, hH⟩ := exists_top r n kk (by omega)
        have hmL : mem r (f q) ∈ L := by
          rcases List.mem_append.1 (hT.perm.mem_iff.2 (ms_mem (r := r) (hlt q hq))) with hm | hm
          · have := (hT.mem_iff hH (ms_mem (r := r) (hlt q hq))).1 hm
            rw [above_up] at this; omega
          · exact hm
        have hc : kk ≤ idx.countP fun j => ltB (mem r (f q)) (mem r j) := by
          rw [← tops_length r n kk (by omega), hidx, List.countP_filter]
          unfold tops
          rw [← List.countP_eq_length_filter]
          refine List.countP_mono_left fun j hj h => ?_
          have hjn := List.mem_range.1 hj
          have hjH : mem r j ∈ H := (hT.mem_iff hH (ms_mem (r := r) hjn)).2 (by rw [above_up]; simp only [inB, decide_eq_true_eq] at h; omega)
          rw [Bool.and_eq_true]
          exact ⟨(ltB_iff _ _).2 (hT.upper _ hjH _ hmL), hp j hjn h⟩
        rw [← hup q hq] at hc
        omega
    · intro h1
      have := hle q hq
      simp only [inB, decide_eq_true_eq] at h1 ⊢
      omega
  unfold tops
  rw [show (List.range idx.length).filter (inB s idx.length k) = (List.range idx.length).filter (inB r n k ∘ f) from List.filter_congr fun q hq => hin q (List.mem_range.1 hq), ← List.filter_map, hf, hidx, List.filter_filter]
  apply List.filter_congr
  intro i hi
  cases h : inB r n k i with
  | false => simp
  | true => rw [hp i (List.mem_range.1 hi) h]; rfl

/-- the two parts' choices, as one filter -/
theorem parts (r : Nat → Int) (n c : Nat) (hc : c ≤ n) (k : Int) :
    tops r c k ++ (tops (fun i => r (c + i)) (n - c) k).map (c + ·) = (List.range n).filter fun i => if i < c then inB r c k i else inB (fun i => r (c + i)) (n - c) k (i - c) := by
  have e : List.range n = List.range c ++ (List.range (n - c)).map (c + ·) := by
    rw [← List.range_add, show c + (n - c) = n by omega]
  rw [e, List.filter_append]
  congr 1
  · exact List.filter_congr fun i hi => by rw [if_pos (List.mem_range.1 hi)]
  · rw [List.filter_map]
    congr 1
    exact List.filter_congr fun i _ => by
      simp only [Function.comp]
      rw [if_neg (by omega), show c + i - c = i by omega]

/-- one of the k highest of all is one of the k highest of its part -/
theorem parts_in (r : Nat → Int) (n c : Nat) (hc : c ≤ n) (k : Int) (i : Nat) (_hi : i < n) (h : inB r n k i = true) : (if i < c then inB r c k i else inB (fun i => r (c + i)) (n - c) k (i - c)) = true := by
  have e : List.range n = List.range c ++ (List.range (n - c)).map (c + ·) := by
    rw [← List.range_add, show c + (n - c) = n by omega]
  have hu : up r i n = up r i c + (List.range (n - c)).countP ((fun x => ltB (mem r i) (mem r x)) ∘ (c + ·)) := by
    unfold up; rw [e, List.countP_append, List.countP_map]
  simp only [inB, decide_eq_true_eq] at h
  by_cases hic : i < c
  · rw [if_pos hic]
    simp only [inB, decide_eq_true_eq]; omega
  · rw [if_neg hic]
    have : up (fun i => r (c + i)) (i - c) (n - c) = (List.range (n - c)).countP ((fun x => ltB (mem r i) (mem r x)) ∘ (c + ·)) := by
      unfold up
      refine List.countP_congr fun x _ => ?_
      have e1 : c + (i - c) = i := by omega
      have e2 : ((x : Int) < ((i - c : Nat) : Int)) ↔ (((c + x : Nat) : Int) < (i : Int)) := by omega
      simp only [Function.comp]
      rw [ltB_iff, ltB_iff]
      simp only [lt, mem, e1, e2]
    simp only [inB, decide_eq_true_eq]; omega
end Go.Proofs.Qxb6627542a.Plain
