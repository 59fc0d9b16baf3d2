/-
  PLAIN LAWS for the inserted list.
-/
import Derived.Test.Qxb6627500aCut
namespace Go.Proofs.Qxb6627500a
open Go.RowKit

/-- G with x put in at place c -/
def put (G : Nat → ByteArray) (x : ByteArray) (c i : Nat) : ByteArray := if i < c then G i else if i = c then x else G (i - 1)
theorem put_lo {G : Nat → ByteArray} {x : ByteArray} {c i : Nat} (h : i < c) : put G x c i = G i := by simp [put, h]
theorem put_at {G : Nat → ByteArray} {x : ByteArray} {c : Nat} : put G x c c = x := by simp [put]
theorem put_hi {G : Nat → ByteArray} {x : ByteArray} {c i : Nat} (h : c ≤ i) : put G x c (i + 1) = G i := by
  unfold put; rw [if_neg (by omega), if_neg (by omega)]; rfl

theorem pcells_congr {N S N' S' : Nat → ByteArray} {k : Nat} (h : ∀ i, i < k → N i = N' i ∧ S i = S' i) : pcells N S k = pcells N' S' k := by
  induction k with
  | zero => rfl
  | succ k ih => rw [pcells_succ, pcells_succ, ih (fun i hi => h i (by omega)), (h k (by omega)).1, (h k (by omega)).2]

theorem sites_congr {N S N' S' : Nat → ByteArray} {h : ByteArray} {k : Nat} (e : ∀ i, i < k → N i = N' i ∧ S i = S' i) : sites N S h k = sites N' S' h k := by
  induction k with
  | zero => rfl
  | succ k ih =>
    have ek := e k (by omega)
    have ih' := ih (fun i hi => e i (by omega))
    have hh : hit N h k = hit N' h k := by unfold hit; rw [ek.1]
    cases hc : hit N' h k with
    | true => rw [sites_hit _ _ _ _ (hh.trans hc), sites_hit _ _ _ _ hc, ih', ek.2]
    | false => rw [sites_miss _ _ _ _ (hh.trans hc), sites_miss _ _ _ _ hc, ih']

theorem sites_front (N S : Nat → ByteArray) (h : ByteArray) (m : Nat) : sites N S h (m + 1) = (if hit N h 0 then [S 0] else []) ++ sites (fun i => N (i + 1)) (fun i => S (i + 1)) h m := by
  induction m with
  | zero => cases hc : hit N h 0 <;> simp [sites, hc, List.range_succ]
  | succ m ih =>
    cases hc : hit N h (m + 1) with
    | true => rw [sites_hit _ _ _ _ hc, ih, sites_hit (fun i => N (i + 1)) _ _ m (by exact hc), List.append_assoc]
    | false => rw [sites_miss _ _ _ _ hc, ih, sites_miss (fun i => N (i + 1)) _ _ m (by exact hc)]

theorem sites_put (N S : Nat → ByteArray) (p0 p1 h : ByteArray) (n c : Nat) (hc : c ≤ n) :
    sites (put N p0 c) (put S p1 c) h (n + 1) = sites N S h c ++ ((if p0.toList == h.toList then [p1] else []) ++ sites (fun i => N (c + i)) (fun i => S (c + i)) h (n - c)) := by
  rw [sites_cut _ _ h (n + 1) c (by omega)]
  congr 1
  · exact sites_congr fun i hi => ⟨put_lo hi, put_lo hi⟩
  · rw [show n + 1 - c = (n - c) + 1 by omega, sites_front]
    congr 1
    · unfold hit; simp only [Nat.add_zero, put_at]
    · exact sites_congr fun i hi => ⟨put_hi (Nat.le_add_right c i), put_hi (Nat.le_add_right c i)⟩

theorem map_range_inj {m n : Nat} {F G : Nat → ByteArray} (h : (List.range m).map F = (List.range n).map G) : m = n ∧ ∀ i, i < m → F i = G i := by
  have hl : m = n := by simpa using congrArg List.length h
  subst hl
  refine ⟨rfl, fun i hi => ?_⟩
  have := congrArg (·[i]?) h
  simpa [List.getElem?_range hi] using this

/-- p is not named so: the same sites -/
theorem put_miss {N S : Nat → ByteArray} {p0 p1 h : ByteArray} {n c m1 m2 : Nat} {F1 F2 : Nat → ByteArray} (hc : c ≤ n) (hne : (p0.toList == h.toList) = false)
    (e1 : Hid (sites N S h n = (List.range m1).map F1)) (e2 : Hid (sites (put N p0 c) (put S p1 c) h (n + 1) = (List.range m2).map F2)) : m2 = m1 ∧ ∀ i, i < m2 → F2 i = F1 i := by
  apply map_range_inj
  rw [← e1.out, ← e2.out, sites_put N S p0 p1 h n c hc, hne, sites_cut N S h n c hc]; rfl

/-- p is named so: its site comes in behind the first k -/
theorem put_hit {N S : Nat → ByteArray} {p0 p1 h : ByteArray} {n c m1 m2 : Nat} {F1 F2 : Nat → ByteArray} (hc : c ≤ n) (heq : (p0.toList == h.toList) = true)
    (e1 : Hid (sites N S h n = (List.range m1).map F1)) (e2 : Hid (sites (put N p0 c) (put S p1 c) h (n + 1) = (List.range m2).map F2)) :
    m2 = m1 + 1 ∧ cnt N h c ≤ m1 ∧ (∀ i, i < cnt N h c → F2 i = F1 i) ∧ F2 (cnt N h c) = p1 ∧ ∀ i, cnt N h c ≤ i → i < m1 → F2 (i + 1) = F1 i := by
  have h1 : (List.range m1).map F1 = sites N S h c ++ sites (fun i => N (c + i)) (fun i => S (c + i)) h (n - c) := by rw [← e1.out]; exact sites_cut N S h n c hc
  have h2 : (List.range m2).map F2 = sites N S h c ++ ([p1] ++ sites (fun i => N (c + i)) (fun i => S (c + i)) h (n - c)) := by rw [← e2.out, sites_put N S p0 p1 h n c hc, heq]; rfl
  have hlA : (sites N S h c).length = cnt N h c := sites_length _ _ _ _
  generalize sites N S h c = A at *
  generalize sites (fun i => N (c + i)) (fun i => S (c + i)) h (n - c) = B at *
  have l1 : m1 = A.length + B.length := by simpa using congrArg List.length h1
  have l2 : m2 = A.length + (1 + B.length) := by simpa [Nat.add_comm] using congrArg List.length h2
  have g1 : ∀ i, i < m1 → (A ++ B)[i]? = some (F1 i) := fun i hi => by rw [← h1]; simp [List.getElem?_range hi]
  have g2 : ∀ i, i < m2 → (A ++ ([p1] ++ B))[i]? = some (F2 i) := fun i hi => by rw [← h2]; simp [List.getElem?_range hi]
  refine ⟨by omega, by omega, fun i hi => ?_, ?_, fun i hi hi2 => ?_⟩
  · have a1 := g1 i (by omega)
    have a2 := g2 i (by omega)
    rw [List.getElem?_append_left (by omega)] at a1 a2
    rw [a1] at a2; exact (Option.some.inj a2).symm
  · have a2 := g2 (cnt N h c) (by omega)
    rw [List.getElem?_append_right (by omega), hlA, Nat.sub_self] at a2
    exact (Option.some.inj a2).symm
  · have a1 := g1 i (by omega)
    have a2 := g2 (i + 1) (by omega)
    rw [List.getElem?_append_right (by omega)] at a1 a2
    rw [show i + 1 - A.length = (i - A.length) + 1 by omega] at a2
    rw [List.singleton_append, List.getElem?_cons_succ, a1] at a2
    exact (Option.some.inj a2).symm

theorem IsStrs.congr {w : World} {a : Option Addr} {m m' : Nat} {F G : Nat → ByteArray} (h : IsStrs w a m F) (hm : m = m') (e : ∀ i, i < m → F i = G i) : IsStrs w a m' G := by
  subst hm
  rcases h with h | ⟨b, off, ha, hlt, hc⟩
  · exact .inl h
  · exact .inr ⟨b, off, ha, hlt, fun i hi => by rw [hc i hi, e i hi]⟩

/-- an element of a slice of pairs: its address, its cells. -/
theorem IsPairs.elem {w : World} {a : Option Addr} {n : Nat} {N S : Nat → ByteArray} (h : IsPairs w a n N S) {k : Nat} (hk : k < n) (cap : Nat) :
    ∃ b off, b < w.heap.size ∧ w.cell? ⟨b, off, none⟩ = some (.string (N k)) ∧ w.cell? ⟨b, off + 1, none⟩ = some (.string (S k)) ∧ ∀ w', (Instr.indexAt 22 (.slice a n cap) (.int .i64 k)).run Try.prog w' = .ok (.pointer (some ⟨b, off, none⟩)) w' := by
  rcases h with h | ⟨b, off, ha, hlt, hcell⟩
  · omega
  · subst ha
    refine ⟨b, off + k * 2, hlt, (hcell k hk).1, (hcell k hk).2, fun w' => ?_⟩
    rw [run_indexAt_slice (P := Try.prog) (w := w') 22 ⟨b, off, none⟩ n cap .i64 k elem22]
    rw [if_pos (by omega), size22]
    simp [Result.andThen, Addr.add]
end Go.Proofs.Qxb6627500a
