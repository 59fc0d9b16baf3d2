/-
  THE STATE OF AN Index IN MEMORY, and what an append to one of its lists, to 'gone', to 'shares' makes of it.
-/
import Derived.Test.Qxb6627587aFacts
namespace Go.Proofs.Qxb6627587a
open Go.RowKit

def ints (l : List Nat) : List Value := l.map fun (i : Nat) => .int .i64 (i : Int)

/-- AN Index AT BLOCK xb: list j is V j and holds M j; 'gone' is G (kg times false), 'shares' is S (ks times zero). -/
structure IdxIs (w : World) (B xb kg ks : Nat) (V : Nat → Value) (M : Nat → List Nat) (G S : Value) : Prop where
  base : B ≤ xb
  blk : ∃ cur : Array Value, w.heap[xb]? = some (.cells cur 30 (0, 0)) ∧ cur.size = 8194 ∧ (∀ j, j < 8192 → cur[j]? = some (V j)) ∧ cur[8192]? = some G ∧ cur[8193]? = some S
  own : ∀ j, j < 8192 → w.ownsRow B 3 1 (V j) (M j).length (ints (M j))
  gone : w.ownsRow B 4 1 G kg (List.replicate kg (.bool false))
  shares : w.ownsRow B 42 2 S ks (List.replicate (ks * 2) (.int .u32 0))
  apart : ∀ i j, i < 8192 → j < 8192 → i ≠ j → (V i).ownBlock = none ∨ (V i).ownBlock ≠ (V j).ownBlock

theorem own_type {w : World} {B s n g : Nat} {e : TypeId} {v : Value} {xs : List Value} (h : w.ownsRow B e s v n xs) (hv : v.ownBlock = some g) : ∃ cur, w.heap[g]? = some (.cells cur e (0, 0)) := by
  rcases h.2 with ⟨rfl, _⟩ | ⟨g', cap, cur, rfl, _, hg, _⟩
  · simp [Value.ownBlock] at hv
  · simp [Value.ownBlock] at hv
    subst hv
    exact ⟨cur, hg⟩
theorem own_ne {w : World} {B s n x : Nat} {e e' : TypeId} {v : Value} {xs : List Value} {cur : Array Value} {fr : Nat × Nat} (h : w.ownsRow B e s v n xs) (hx : w.heap[x]? = some (.cells cur e' fr)) (hne : e ≠ e') : v.ownBlock ≠ some x := by
  intro hv
  obtain ⟨c, hc⟩ := own_type h hv
  rw [hx] at hc
  simp only [Option.some.injEq, Obj.cells.injEq] at hc
  exact hne hc.2.1.symm
theorem own_ne2 {w : World} {B s n s' n' : Nat} {e e' : TypeId} {v v' : Value} {xs xs' : List Value} (h : w.ownsRow B e s v n xs) (h' : w.ownsRow B e' s' v' n' xs') (hne : e ≠ e') : v.ownBlock = none ∨ v.ownBlock ≠ v'.ownBlock := by
  cases hv' : v'.ownBlock with
  | none => cases hv : v.ownBlock <;> simp
  | some g =>
    obtain ⟨c, hc⟩ := own_type h' hv'
    exact .inr (own_ne h hc hne)
theorem own_lt {w : World} {B s n g : Nat} {e : TypeId} {v : Value} {xs : List Value} (h : w.ownsRow B e s v n xs) (hv : v.ownBlock = some g) : g < w.heap.size := (h.lt g hv).2

theorem grown_set {w w' : World} {gb i : Nat} {v : Value} (h : w.grownBy w' (some gb)) : w.grownBy (w'.setCell ⟨gb, i, none⟩ v) (some gb) :=
  ⟨h.os, h.tape, h.output, by rw [World.size_setCell]; exact h.size, fun k hk hne => by
    rw [← h.block k hk hne]
    exact Below.heap_setCell _ _ _ _ (fun e => hne (by rw [e]))⟩
theorem grown_refl (w : World) (row : Option Nat) : w.grownBy w row := ⟨rfl, rfl, rfl, Nat.le_refl _, fun _ _ _ => rfl⟩
theorem grown_of_below {w w' : World} {row : Option Nat} (h : Below w.heap.size w w') : w.grownBy w' row := ⟨h.os, h.tape, h.output, h.size, fun k hk _ => h.block k hk⟩

section
variable {w : World} {B xb kg ks : Nat} {V : Nat → Value} {M : Nat → List Nat} {G S : Value}

theorem IdxIs.lt (h : IdxIs w B xb kg ks V M G S) : xb < w.heap.size := by
  obtain ⟨cur, hb, _⟩ := h.blk
  rcases Nat.lt_or_ge xb w.heap.size with hlt | hge
  · exact hlt
  · rw [Array.getElem?_eq_none hge] at hb; cases hb
theorem IdxIs.below (h : IdxIs w B xb kg ks V M G S) {w' : World} (hb : Below w.heap.size w w') : IdxIs w' B xb kg ks V M G S := by
  have hlt := h.lt
  obtain ⟨cur, h1, h2⟩ := h.blk
  have kept : ∀ {e : TypeId} {s : Nat} {v : Value} {n : Nat} {xs : List Value}, w.ownsRow B e s v n xs → w'.ownsRow B e s v n xs := fun hk =>
    hk.kept (grown_of_below (row := none) hb) (by cases hq : Value.ownBlock _ <;> simp)
  exact ⟨h.base, ⟨cur, (hb.block xb hlt).trans h1, h2⟩, fun j hj => kept (h.own j hj), kept h.gone, kept h.shares, h.apart⟩
theorem IdxIs.cell (h : IdxIs w B xb kg ks V M G S) {j : Nat} (hj : j < 8192) : w.cell? ⟨xb, j, none⟩ = some (V j) := by
  obtain ⟨cur, h1, _, h3, _⟩ := h.blk
  rw [cell_of_row w xb j cur 30 (0, 0) h1]
  exact h3 j hj
theorem IdxIs.cellG (h : IdxIs w B xb kg ks V M G S) : w.cell? ⟨xb, 8192, none⟩ = some G := by
  obtain ⟨cur, h1, _, _, h4, _⟩ := h.blk
  rw [cell_of_row w xb 8192 cur 30 (0, 0) h1]
  exact h4
theorem IdxIs.cellS (h : IdxIs w B xb kg ks V M G S) : w.cell? ⟨xb, 8193, none⟩ = some S := by
  obtain ⟨cur, h1, _, _, _, h5⟩ := h.blk
  rw [cell_of_row w xb 8193 cur 30 (0, 0) h1]
  exact h5
theorem IdxIs.frozen (h : IdxIs w B xb kg ks V M G S) (j : Nat) : w.frozen? ⟨xb, j, none⟩ = false := by
  obtain ⟨cur, h1, _⟩ := h.blk
  exact frozen_of_row w xb j cur 30 h1

/-- the block of the Index behind a row's growth -/
theorem IdxIs.keptBlk (h : IdxIs w B xb kg ks V M G S) {w1 : World} {row : Option Nat} (hg : w.grownBy w1 row) (hne : row ≠ some xb) :
    ∃ cur : Array Value, w1.heap[xb]? = some (.cells cur 30 (0, 0)) ∧ cur.size = 8194 ∧ (∀ j, j < 8192 → cur[j]? = some (V j)) ∧ cur[8192]? = some G ∧ cur[8193]? = some S := by
  obtain ⟨cur, h1, h2⟩ := h.blk
  exact ⟨cur, (hg.block xb h.lt (fun e => hne e.symm)).trans h1, h2⟩

/-- an append to list j -/
theorem IdxIs.push (h : IdxIs w B xb kg ks V M G S) {j : Nat} (hj : j < 8192) {w1 : World} (hg : w.grownBy w1 (V j).ownBlock) {g cap n m : Nat}
    (hm : m = (M j).length + 1)
    (hown : w1.ownsRow B 3 1 (.slice (some ⟨g, 0, none⟩) m cap) m (ints (M j) ++ [.int .i64 (n : Int)])) (hat : (V j).ownBlock = some g ∨ g = w.heap.size) :
    IdxIs (w1.setCell ⟨xb, j, none⟩ (.slice (some ⟨g, 0, none⟩) m cap)) B xb kg ks (fun i => if i = j then .slice (some ⟨g, 0, none⟩) m cap else V i) (fun i => if i = j then M j ++ [n] else M i) G S := by
  obtain ⟨cur, hx, hsz, hV, hG, hS⟩ := h.keptBlk hg (by obtain ⟨c, hc, _⟩ := h.blk; exact own_ne (h.own j hj) hc (by decide))
  have hset : w1.grownBy (w1.setCell ⟨xb, j, none⟩ (.slice (some ⟨g, 0, none⟩) m cap)) (some xb) := grown_set (grown_refl _ _)
  have keep : ∀ {e : TypeId} {s : Nat} {v : Value} {k : Nat} {xs : List Value}, w1.ownsRow B e s v k xs → e ≠ 30 → (w1.setCell ⟨xb, j, none⟩ (.slice (some ⟨g, 0, none⟩) m cap)).ownsRow B e s v k xs := fun hk hne =>
    hk.kept hset (.inr (own_ne hk hx hne))
  refine ⟨h.base, ⟨cur.setIfInBounds j (.slice (some ⟨g, 0, none⟩) m cap), Joins.block_setCell hx _, by simpa using hsz, fun i hi => ?_, ?_, ?_⟩, fun i hi => ?_, ?_, ?_, fun i i' hi hi' hne => ?_⟩
  · by_cases e : i = j
    · subst e; rw [if_pos rfl, Array.getElem?_setIfInBounds, if_pos rfl, if_pos (by omega)]
    · rw [if_neg e, Array.getElem?_setIfInBounds, if_neg (fun e' => e e'.symm)]; exact hV i hi
  · rw [Array.getElem?_setIfInBounds, if_neg (by omega)]; exact hG
  · rw [Array.getElem?_setIfInBounds, if_neg (by omega)]; exact hS
  · by_cases e : i = j
    · subst e
      simp only [if_true]
      have e2 : ints (M i ++ [n]) = ints (M i) ++ [.int .i64 (n : Int)] := by simp [ints]
      rw [e2, List.length_append, List.length_singleton, ← hm]
      exact keep hown (by decide)
    · simp only [if_neg e]
      exact keep ((h.own i hi).kept hg (h.apart i j hi hj e)) (by decide)
  · exact keep (h.gone.kept hg (own_ne2 h.gone (h.own j hj) (by decide))) (by decide)
  · exact keep (h.shares.kept hg (own_ne2 h.shares (h.own j hj) (by decide))) (by decide)
  · by_cases e : i = j
    · by_cases e' : i' = j
      · omega
      · rw [if_pos e, if_neg e']
        right
        intro he
        have he2 : (V i').ownBlock = some g := he.symm
        rcases hat with hat | hat
        · rcases h.apart i' j hi' hj e' with h0 | h0
          · rw [he2] at h0; cases h0
          · exact h0 (he2.trans hat.symm)
        · have := own_lt (h.own i' hi') he2
          omega
    · by_cases e' : i' = j
      · rw [if_neg e, if_pos e']
        cases hv : (V i).ownBlock with
        | none => exact .inl rfl
        | some q =>
          right
          intro he
          have he2 : q = g := by simpa [Value.ownBlock] using he
          subst he2
          rcases hat with hat | hat
          · rcases h.apart i j hi hj e with h0 | h0
            · rw [hv] at h0; cases h0
            · exact h0 (hv.trans hat.symm)
          · have := own_lt (h.own i hi) hv
            omega
      · rw [if_neg e, if_neg e']
        exact h.apart i i' hi hi' hne

/-- an append to 'gone' -/
theorem IdxIs.pushG (h : IdxIs w B xb kg ks V M G S) {w1 : World} (hg : w.grownBy w1 G.ownBlock) {v : Value}
    (hown : w1.ownsRow B 4 1 v (kg + 1) (List.replicate kg (.bool false) ++ [.bool false])) :
    IdxIs (w1.setCell ⟨xb, 8192, none⟩ v) B xb (kg + 1) ks V M v S := by
  obtain ⟨cur, hx, hsz, hV, hG, hS⟩ := h.keptBlk hg (by obtain ⟨c, hc, _⟩ := h.blk; exact own_ne h.gone hc (by decide))
  have hset : w1.grownBy (w1.setCell ⟨xb, 8192, none⟩ v) (some xb) := grown_set (grown_refl _ _)
  have keep : ∀ {e : TypeId} {s : Nat} {u : Value} {k : Nat} {xs : List Value}, w1.ownsRow B e s u k xs → e ≠ 30 → (w1.setCell ⟨xb, 8192, none⟩ v).ownsRow B e s u k xs := fun hk hne =>
    hk.kept hset (.inr (own_ne hk hx hne))
  refine ⟨h.base, ⟨cur.setIfInBounds 8192 v, Joins.block_setCell hx _, by simpa using hsz, fun i hi => ?_, ?_, ?_⟩, fun i hi => ?_, ?_, ?_, h.apart⟩
  · rw [Array.getElem?_setIfInBounds, if_neg (by omega)]; exact hV i hi
  · rw [Array.getElem?_setIfInBounds, if_pos rfl, if_pos (by omega)]
  · rw [Array.getElem?_setIfInBounds, if_neg (by omega)]; exact hS
  · exact keep ((h.own i hi).kept hg (own_ne2 (h.own i hi) h.gone (by decide))) (by decide)
  · rw [List.replicate_succ']; exact keep hown (by decide)
  · exact keep (h.shares.kept hg (own_ne2 h.shares h.gone (by decide))) (by decide)

/-- an append to 'shares' -/
theorem IdxIs.pushS (h : IdxIs w B xb kg ks V M G S) {w1 : World} (hg : w.grownBy w1 S.ownBlock) {v : Value}
    (hown : w1.ownsRow B 42 2 v (ks + 1) (List.replicate (ks * 2) (.int .u32 0) ++ [.int .u32 0, .int .u32 0])) :
    IdxIs (w1.setCell ⟨xb, 8193, none⟩ v) B xb kg (ks + 1) V M G v := by
  obtain ⟨cur, hx, hsz, hV, hG, hS⟩ := h.keptBlk hg (by obtain ⟨c, hc, _⟩ := h.blk; exact own_ne h.shares hc (by decide))
  have hset : w1.grownBy (w1.setCell ⟨xb, 8193, none⟩ v) (some xb) := grown_set (grown_refl _ _)
  have keep : ∀ {e : TypeId} {s : Nat} {u : Value} {k : Nat} {xs : List Value}, w1.ownsRow B e s u k xs → e ≠ 30 → (w1.setCell ⟨xb, 8193, none⟩ v).ownsRow B e s u k xs := fun hk hne =>
    hk.kept hset (.inr (own_ne hk hx hne))
  refine ⟨h.base, ⟨cur.setIfInBounds 8193 v, Joins.block_setCell hx _, by simpa using hsz, fun i hi => ?_, ?_, ?_⟩, fun i hi => ?_, ?_, ?_, h.apart⟩
  · rw [Array.getElem?_setIfInBounds, if_neg (by omega)]; exact hV i hi
  · rw [Array.getElem?_setIfInBounds, if_neg (by omega)]; exact hG
  · rw [Array.getElem?_setIfInBounds, if_pos rfl, if_pos (by omega)]
  · exact keep ((h.own i hi).kept hg (own_ne2 (h.own i hi) h.shares (by decide))) (by decide)
  · exact keep (h.gone.kept hg (own_ne2 h.gone h.shares (by decide))) (by decide)
  · have e : List.replicate ((ks + 1) * 2) (Value.int .u32 0) = List.replicate (ks * 2) (.int .u32 0) ++ [.int .u32 0, .int .u32 0] := by
      rw [show (ks + 1) * 2 = ks * 2 + 2 by omega, ← List.replicate_append_replicate]; rfl
    rw [e]; exact keep hown (by decide)
end
end Go.Proofs.Qxb6627587a
