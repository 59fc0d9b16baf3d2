/-
  THE PLAIN MATHEMATICS of subset.Choose: members in a strict total order; the heap; the k highest.
-/
namespace Go.Proofs.Qxb6627542a.Plain

/-- a member: its rank, its index. -/
abbrev M := Int × Int
/-- a ranks below b. -/
def lt (a b : M) : Prop := a.1 < b.1 ∨ (a.1 = b.1 ∧ b.2 < a.2)
def ltB (a b : M) : Bool := decide (a.1 < b.1) || (a.1 == b.1 && decide (b.2 < a.2))
theorem ltB_iff (a b : M) : ltB a b = true ↔ lt a b := by simp [ltB, lt]
theorem ltB_false (a b : M) : ltB a b = false ↔ ¬ lt a b := by rw [← ltB_iff]; simp
theorem lt_irrefl (a : M) : ¬ lt a a := by unfold lt; omega
theorem lt_trans {a b c : M} (h1 : lt a b) (h2 : lt b c) : lt a c := by unfold lt at *; omega
theorem lt_asymm {a b : M} (h1 : lt a b) : ¬ lt b a := by unfold lt at *; omega
theorem lt_total {a b : M} (h : a.2 ≠ b.2) : lt a b ∨ lt b a := by unfold lt; omega
theorem nlt_trans {a b c : M} (h1 : ¬ lt b a) (h2 : ¬ lt c b) : ¬ lt c a := by unfold lt at *; omega

/-! ### The heap -/
/-- the member at place j -/
def g (X : Array M) (j : Nat) : M := X.getD j (0, 0)
theorem g_eq {X : Array M} {j : Nat} (h : j < X.size) : g X j = X[j] := by simp [g, Array.getD, h]
theorem g_swap {X : Array M} {i j : Nat} (hi : i < X.size) (hj : j < X.size) (k : Nat) : g (X.swap i j hi hj) k = if k = i then g X j else if k = j then g X i else g X k := by
  by_cases hk : k < X.size
  · rw [g_eq (by simpa using hk), Array.getElem_swap, g_eq hi, g_eq hj, g_eq hk]
  · rw [if_neg (by omega), if_neg (by omega)]
    simp [g, Array.getD, hk]
theorem g_push_lt {X : Array M} {m : M} {j : Nat} (h : j < X.size) : g (X.push m) j = g X j := by
  rw [g_eq (by simp; omega), g_eq h, Array.getElem_push_lt h]
theorem g_push_eq {X : Array M} {m : M} : g (X.push m) X.size = m := by
  rw [g_eq (by simp), Array.getElem_push_eq]
theorem g_set {X : Array M} {m : M} (h0 : 0 < X.size) (j : Nat) : g (X.set 0 m) j = if j = 0 then m else g X j := by
  by_cases hj : j < X.size
  · rw [g_eq (by simpa using hj), Array.getElem_set, g_eq hj]
    by_cases e : j = 0
    · subst e; simp
    · rw [if_neg (by omega), if_neg e]
  · rw [if_neg (by omega)]
    simp [g, Array.getD, hj]

/-- every member is no lower than its parent -/
def Heap (X : Array M) : Prop := ∀ j, 0 < j → j < X.size → ¬ lt (g X j) (g X ((j - 1) / 2))

theorem Heap.root {X : Array M} (h : Heap X) : ∀ j, j < X.size → ¬ lt (g X j) (g X 0) := by
  intro j
  induction j using Nat.strongRecOn with
  | _ j ih =>
    intro hj
    by_cases hz : j = 0
    · subst hz; exact lt_irrefl _
    · exact nlt_trans (ih ((j - 1) / 2) (by omega) (by omega)) (h j (by omega) hj)

/-- while siftUp goes: right everywhere but at i; the children of i are no lower than i's parent. -/
structure Up (X : Array M) (i : Nat) : Prop where
  others : ∀ j, 0 < j → j < X.size → j ≠ i → ¬ lt (g X j) (g X ((j - 1) / 2))
  kids : ∀ j, 0 < j → j < X.size → (j - 1) / 2 = i → 0 < i → ¬ lt (g X j) (g X ((i - 1) / 2))

theorem Up.done {X : Array M} {i : Nat} (h : Up X i) (he : i = 0 ∨ ¬ lt (g X i) (g X ((i - 1) / 2))) : Heap X := by
  intro j hj0 hj
  by_cases e : j = i
  · subst e
    rcases he with he | he
    · omega
    · exact he
  · exact h.others j hj0 hj e

theorem Up.swap {X : Array M} {i p : Nat} (h : Up X i) (hi0 : 0 < i) (hi : i < X.size) (hp : p < X.size) (hpe : (i - 1) / 2 = p) (hlt : lt (g X i) (g X p)) : Up (X.swap i p hi hp) p := by
  have hpi : p < i := by omega
  constructor
  · intro j hj0 hj hjp
    have hj' : j < X.size := by simpa using hj
    rw [g_swap, g_swap]
    by_cases e : j = i
    · subst e
      rw [if_pos rfl, hpe, if_neg (by omega), if_pos rfl]
      exact lt_asymm hlt
    · rw [if_neg e, if_neg hjp]
      by_cases e2 : (j - 1) / 2 = i
      · rw [if_pos e2]
        have := h.kids j hj0 hj' e2 hi0
        rw [hpe] at this; exact this
      · rw [if_neg e2]
        by_cases e3 : (j - 1) / 2 = p
        · rw [if_pos e3]
          have := h.others j hj0 hj' e
          rw [e3] at this
          exact nlt_trans (lt_asymm hlt) this
        · rw [if_neg e3]
          exact h.others j hj0 hj' e
  · intro j hj0 hj hjp hp0
    have hj' : j < X.size := by simpa using hj
    have hpp := h.others p hp0 hp (by omega)
    rw [g_swap, g_swap, if_neg (show ¬ (p - 1) / 2 = i by omega), if_neg (show ¬ (p - 1) / 2 = p by omega)]
    by_cases e : j = i
    · subst e
      rw [if_pos rfl]; exact hpp
    · rw [if_neg e, if_neg (by omega)]
      have := h.others j hj0 hj' e
      rw [hjp] at this
      exact nlt_trans hpp this

/-- pushing at the end. -/
theorem Up.push {X : Array M} (h : Heap X) (m : M) : Up (X.push m) X.size := by
  constructor
  · intro j hj0 hj hne
    have hj' : j < X.size := by simp at hj; omega
    rw [g_push_lt hj', g_push_lt (by omega)]
    exact h j hj0 hj'
  · intro j hj0 hj hpar hi
    simp at hj; omega

/-- while siftDown goes: right wherever the parent is not i; the children of i are no lower than i's parent. -/
structure Dn (X : Array M) (i : Nat) : Prop where
  others : ∀ j, 0 < j → j < X.size → (j - 1) / 2 ≠ i → ¬ lt (g X j) (g X ((j - 1) / 2))
  kids : ∀ j, 0 < j → j < X.size → (j - 1) / 2 = i → 0 < i → ¬ lt (g X j) (g X ((i - 1) / 2))

theorem Dn.done {X : Array M} {i : Nat} (h : Dn X i) (hl : ∀ j, 0 < j → j < X.size → (j - 1) / 2 = i → ¬ lt (g X j) (g X i)) : Heap X := by
  intro j hj0 hj
  by_cases e : (j - 1) / 2 = i
  · have := hl j hj0 hj e
    rw [e]; exact this
  · exact h.others j hj0 hj e

/-- the lowest of i and its children is l, a child: exchange them -/
theorem Dn.swap {X : Array M} {i l : Nat} (h : Dn X i) (hi : i < X.size) (hl : l < X.size) (hl0 : 0 < l) (hpar : (l - 1) / 2 = i) (hlt : lt (g X l) (g X i))
    (hmin : ∀ j, 0 < j → j < X.size → (j - 1) / 2 = i → ¬ lt (g X j) (g X l)) : Dn (X.swap i l hi hl) l := by
  have hil : i < l := by omega
  constructor
  · intro j hj0 hj hne
    have hj' : j < X.size := by simpa using hj
    rw [g_swap, g_swap]
    by_cases e1 : (j - 1) / 2 = i
    · rw [if_pos e1, if_neg (show ¬ j = i by omega)]
      by_cases e2 : j = l
      · subst e2; rw [if_pos rfl]; exact lt_asymm hlt
      · rw [if_neg e2]; exact hmin j hj0 hj' e1
    · rw [if_neg e1, if_neg hne]
      by_cases e2 : j = i
      · subst e2
        rw [if_pos rfl]
        exact h.kids l hl0 hl hpar hj0
      · rw [if_neg e2, if_neg (show ¬ j = l by intro e; subst e; exact e1 hpar)]
        exact h.others j hj0 hj' e1
  · intro j hj0 hj hjl hlp
    have hj' : j < X.size := by simpa using hj
    rw [g_swap, g_swap, if_neg (show ¬ j = i by omega), if_neg (show ¬ j = l by omega), if_pos hpar]
    have := h.others j hj0 hj' (by omega)
    rw [hjl] at this; exact this

/-- the root replaced -/
theorem Dn.set {X : Array M} (h : Heap X) (m : M) (h0 : 0 < X.size) : Dn (X.set 0 m) 0 := by
  constructor
  · intro j hj0 hj hne
    have hj' : j < X.size := by simpa using hj
    rw [g_set, g_set, if_neg (by omega), if_neg hne]
    exact h j hj0 hj'
  · intro j _ _ _ h1; omega

/-! ### The k highest -/
/-- H holds the highest of M, all but L. -/
structure Top (H L ms : List M) : Prop where
  perm : (H ++ L).Perm ms
  upper : ∀ x ∈ H, ∀ y ∈ L, lt y x

/-- the indexes of ms are all different -/
def Diff (ms : List M) : Prop := ms.Pairwise fun a b => a.2 ≠ b.2

theorem Top.take {H ms H' : List M} {m : M} (h : Top H [] ms) (hp : H'.Perm (m :: H)) : Top H' [] (ms ++ [m]) := by
  constructor
  · rw [List.append_nil]
    have h1 := h.perm
    rw [List.append_nil] at h1
    exact hp.trans ((h1.cons m).trans (List.perm_append_singleton m ms).symm)
  · intro x _ y hy; cases hy

theorem Top.replace {H L ms H' : List M} {m r : M} {H0 : List M} (h : Top H L ms) (hH : H.Perm (r :: H0)) (hlow : ∀ x ∈ H, ¬ lt x r) (hr : ∀ x ∈ H0, x.2 ≠ r.2) (hlt : lt r m) (hp : H'.Perm (m :: H0)) : Top H' (r :: L) (ms ++ [m]) := by
  constructor
  · refine (hp.append_right (r :: L)).trans ?_
    have e1 : (m :: H0 ++ r :: L).Perm (m :: (H ++ L)) := by
      refine List.Perm.cons m ?_
      exact List.perm_middle.trans ((hH.symm.append_right L))
    exact e1.trans ((h.perm.cons m).trans (List.perm_append_singleton m ms).symm)
  · intro x hx y hy
    rcases List.mem_cons.1 ((hp.mem_iff).1 hx) with rfl | hx0
    · rcases List.mem_cons.1 hy with rfl | hy0
      · exact hlt
      · exact lt_trans (h.upper r (hH.mem_iff.2 List.mem_cons_self) y hy0) hlt
    · have hxH : x ∈ H := hH.mem_iff.2 (List.mem_cons_of_mem _ hx0)
      rcases List.mem_cons.1 hy with rfl | hy0
      · rcases lt_total (hr x hx0) with h1 | h1
        · exact absurd h1 (hlow x hxH)
        · exact h1
      · exact h.upper x hxH y hy0

theorem Top.pass {H L ms : List M} {m r : M} (h : Top H L ms) (hlow : ∀ x ∈ H, ¬ lt x r) (hd : m.2 ≠ r.2) (hlt : ¬ lt r m) : Top H (m :: L) (ms ++ [m]) := by
  constructor
  · exact List.perm_middle.trans ((h.perm.cons m).trans (List.perm_append_singleton m ms).symm)
  · intro x hx y hy
    rcases List.mem_cons.1 hy with rfl | hy0
    · have h1 : lt y r := by rcases lt_total hd with h1 | h1; exact h1; exact absurd h1 hlt
      have h2 := hlow x hx
      have h3 : ¬ lt r y := hlt
      by_cases e : lt y x
      · exact e
      · exact absurd (show lt x r from by unfold lt at *; omega) h2
    · exact h.upper x hx y hy0

/-- how many of ms rank above m -/
def above (ms : List M) (m : M) : Nat := ms.countP fun x => ltB m x

theorem countP_lt {p : M → Bool} {l : List M} {a : M} (ha : a ∈ l) (hp : p a = false) : l.countP p < l.length := by
  rcases Nat.lt_or_ge (l.countP p) l.length with h | h
  · exact h
  · have : l.countP p = l.length := Nat.le_antisymm List.countP_le_length h
    have := List.countP_eq_length.1 this a ha
    rw [hp] at this; cases this

theorem Top.mem_iff {H L ms : List M} {k : Nat} (h : Top H L ms) (hk : H.length = k) {m : M} (hm : m ∈ ms) : m ∈ H ↔ above ms m < k := by
  have e : above ms m = H.countP (fun x => ltB m x) + L.countP (fun x => ltB m x) := by
    unfold above; rw [← h.perm.countP_eq, List.countP_append]
  constructor
  · intro hH
    have h1 : L.countP (fun x => ltB m x) = 0 := List.countP_eq_zero.2 fun y hy => by
      rw [ltB_iff]; exact lt_asymm (h.upper m hH y hy)
    have h2 : H.countP (fun x => ltB m x) < H.length := countP_lt hH ((ltB_false _ _).2 (lt_irrefl m))
    omega
  · intro hlt
    rcases List.mem_append.1 (h.perm.mem_iff.2 hm) with h1 | h1
    · exact h1
    · have : H.countP (fun x => ltB m x) = H.length := List.countP_eq_length.2 fun x hx => (ltB_iff _ _).2 (h.upper x hx m h1)
      omega
end Go.Proofs.Qxb6627542a.Plain
