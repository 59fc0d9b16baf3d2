/-
  THE PLAIN INVARIANT of Choose's loop.
-/
import Derived.Test.Qxb6627542aTops
namespace Go.Proofs.Qxb6627542a.Plain

/-- of the first t members the heap X holds the highest, k at most. -/
structure Inv (r : Nat → Int) (t k : Nat) (X : Array M) : Prop where
  heap : Heap X
  size : X.size = min t k
  top : ∃ L, Top X.toList L (ms r t) ∧ (X.size < k → L = [])

theorem Inv.start (r : Nat → Int) (k : Nat) : Inv r 0 k #[] := by
  refine ⟨fun j _ h => by simp at h, by simp, [], ⟨by simp [ms], fun x hx => by simp at hx⟩, fun _ => rfl⟩

theorem ms_diff (r : Nat → Int) (t : Nat) : (ms r t).Pairwise fun a b => a.2 ≠ b.2 :=
  List.Pairwise.map _ (R := fun a b : Nat => a < b) (fun a b hab => by simp only [mem]; omega) List.pairwise_lt_range

theorem Inv.room {r : Nat → Int} {t k : Nat} {X Y : Array M} (h : Inv r t k X) (hroom : X.size < k) (hY : Heap Y) (hp : Y.Perm (X.push (mem r t))) : Inv r (t + 1) k Y := by
  obtain ⟨L, hT, hL⟩ := h.top
  obtain rfl := hL hroom
  have hs := h.size
  have hys : Y.size = X.size + 1 := by rw [hp.size_eq, Array.size_push]
  refine ⟨hY, by omega, [], ?_, fun _ => rfl⟩
  rw [ms_succ]
  refine hT.take ?_
  have h1 := hp.toList
  rw [Array.toList_push] at h1
  exact h1.trans (List.perm_append_singleton _ _)

theorem root_split {X : Array M} (h0 : 0 < X.size) : ∃ H0, X.toList = g X 0 :: H0 ∧ ∀ m, (X.set 0 m).toList = m :: H0 := by
  obtain ⟨l⟩ := X
  cases l with
  | nil => simp at h0
  | cons x l => exact ⟨l, by simp [g], fun m => by simp⟩

theorem Inv.low {r : Nat → Int} {t k : Nat} {X : Array M} (h : Inv r t k X) : ∀ x ∈ X.toList, ¬ lt x (g X 0) := by
  intro x hx
  obtain ⟨j, hj, rfl⟩ := List.getElem_of_mem hx
  have hj' : j < X.size := by simpa using hj
  have := h.heap.root j hj'
  rw [g_eq hj'] at this
  simpa using this

theorem Inv.full {r : Nat → Int} {t k : Nat} {X Y : Array M} (h : Inv r t k X) (h0 : 0 < X.size) (hfull : X.size = k) (hlt : ltB (g X 0) (mem r t) = true) (hY : Heap Y) (hp : Y.Perm (X.set 0 (mem r t))) : Inv r (t + 1) k Y := by
  obtain ⟨L, hT, hL⟩ := h.top
  obtain ⟨H0, hX, hset⟩ := root_split h0
  have hs := h.size
  have hys : Y.size = X.size := by rw [hp.size_eq, Array.size_set]
  have hd : (X.toList ++ L).Pairwise fun a b => a.2 ≠ b.2 := (hT.perm.pairwise_iff (fun {a b} h => Ne.symm h)).2 (ms_diff r t)
  have hd2 := (List.pairwise_append.1 hd).1
  rw [hX] at hd2
  refine ⟨hY, by omega, g X 0 :: L, ?_, fun hh => by omega⟩
  rw [ms_succ]
  refine hT.replace (r := g X 0) (H0 := H0) (by rw [hX]) h.low (fun x hx => ?_) ((ltB_iff _ _).1 hlt) ?_
  · exact Ne.symm ((List.pairwise_cons.1 hd2).1 x hx)
  · have := hp.toList
    rw [hset] at this; exact this

theorem Inv.pass {r : Nat → Int} {t k : Nat} {X : Array M} (h : Inv r t k X) (h0 : 0 < X.size) (hfull : X.size = k) (hlt : ltB (g X 0) (mem r t) = false) : Inv r (t + 1) k X := by
  obtain ⟨L, hT, hL⟩ := h.top
  obtain ⟨H0, hX, _⟩ := root_split h0
  have hs := h.size
  refine ⟨h.heap, by omega, mem r t :: L, ?_, fun hh => by omega⟩
  rw [ms_succ]
  refine hT.pass (r := g X 0) h.low ?_ ((ltB_false _ _).1 hlt)
  have hm : g X 0 ∈ ms r t := hT.perm.mem_iff.1 (List.mem_append_left _ (by rw [hX]; exact List.mem_cons_self))
  obtain ⟨j, hj, hjm⟩ := List.mem_map.1 hm
  have := List.mem_range.1 hj
  rw [← hjm]
  simp only [mem]; omega

theorem Inv.result {r : Nat → Int} {n k : Nat} {X : Array M} (h : Inv r n k X) (hkn : k ≤ n) : (X.toList.map (·.2)).mergeSort (fun x y => decide (x ≤ y)) = (tops r n k).map (fun i : Nat => (i : Int)) := by
  obtain ⟨L, hT, _⟩ := h.top
  exact sort_tops hT (by have := h.size; simp; omega)
end Go.Proofs.Qxb6627542a.Plain
