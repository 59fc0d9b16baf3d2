/-
  WHAT THE WALK OF THE LAW LEANS ON: the sketches that came in; the zero Index; the lists, in plain words.
-/
import Derived.Test.Qxb6627587aSmall
namespace Go.Proofs.Qxb6627587a
open Go.RowKit

/-- A SLICE OF n SKETCHES: sketch i has the byte S i t at trait t. -/
def IsSk (w : World) (a : Option Addr) (n : Nat) (S : Nat → Nat → Nat) : Prop :=
  n = 0 ∨ ∃ b off, a = some ⟨b, off, none⟩ ∧ b < w.heap.size ∧ ∀ i, i < n → ∀ t, t < 32 → w.cell? ⟨b, off + i * 32 + t, none⟩ = some (.int .u8 (S i t : Int))

theorem IsSk.below {w w' : World} {a : Option Addr} {n B : Nat} {S : Nat → Nat → Nat} (h : IsSk w a n S) (hb : Below B w w') (hB : w.heap.size ≤ B) : IsSk w' a n S := by
  rcases h with h | ⟨b, off, ha, hlt, hc⟩
  · exact .inl h
  · exact .inr ⟨b, off, ha, Nat.lt_of_lt_of_le hlt hb.size, fun i hi t ht => (hb.cell (p := ⟨b, off + i * 32 + t, none⟩) (by show b < B; omega)).trans (hc i hi t ht)⟩

theorem IsSk.elem {w : World} {a : Option Addr} {n : Nat} {S : Nat → Nat → Nat} (h : IsSk w a n S) {k : Nat} (hk : k < n) (cap : Nat) :
    ∃ b off, b < w.heap.size ∧ (∀ t, t < 32 → w.cell? ⟨b, off + t, none⟩ = some (.int .u8 (S k t : Int))) ∧ ∀ w', (Instr.indexAt 22 (.slice a n cap) (.int .i64 k)).run Try.prog w' = .ok (.pointer (some ⟨b, off, none⟩)) w' := by
  rcases h with h | ⟨b, off, ha, hlt, hcell⟩
  · omega
  · subst ha
    refine ⟨b, off + k * 32, hlt, hcell k hk, fun w' => ?_⟩
    rw [run_indexAt_slice (P := Try.prog) (w := w') 22 ⟨b, off, none⟩ n cap .i64 k (by kernel_rfl)]
    have hz : (sizeOf (Try.prog.elem 22)).run Try.prog w' = .ok 32 w' := by kernel_rfl
    rw [if_pos (by omega), hz]
    simp [Result.andThen, add_at0]
theorem at32 {b o t : Nat} (ht : t < 32) (w : World) : (Instr.indexAt 32 (.pointer (some ⟨b, o, none⟩)) (.int .i64 (t : Int))).run Try.prog w = .ok (.pointer (some ⟨b, o + t, none⟩)) w := by
  rw [run_indexAt_array (P := Try.prog) (w := w) 32 ⟨b, o, none⟩ .i64 t (by kernel_rfl)]
  have hl : Try.prog.arrayLen 32 = 32 := by kernel_rfl
  have hz : (sizeOf (Try.prog.elem 32)).run Try.prog w = .ok 1 w := by kernel_rfl
  rw [hl, if_pos (by omega), hz]
  simp [add_at0]

/-- the 32 cells of sketch k -/
def skCells (f : Nat → Nat) : Array Value := ((List.range 32).map fun t => Value.int .u8 (f t : Int)).toArray
theorem skCells_size (f : Nat → Nat) : (skCells f).size = 32 := by simp [skCells]
theorem skCells_get (f : Nat → Nat) (t : Nat) (ht : t < 32) : (skCells f)[t]? = some (.int .u8 (f t : Int)) := by
  simp [skCells, ht]

theorem load32 {w : World} {b o : Nat} {f : Nat → Nat} (h : ∀ t, t < 32 → w.cell? ⟨b, o + t, none⟩ = some (.int .u8 (f t : Int))) : (loadVar 32 ⟨b, o, none⟩).run Try.prog w = .ok (.agg (skCells f)) w := by
  have hl := run_loadCells (P := Try.prog) w ⟨b, o, none⟩ 32 (fun t => .int .u8 (f t : Int)) (fun j hj => by rw [add_at0]; exact h j hj)
  have ha : (isAgg 32).run Try.prog w = .ok true w := by kernel_rfl
  have hs : (sizeOf 32).run Try.prog w = .ok 32 w := by kernel_rfl
  simp only [loadVar, Sem.run_bind, ha, hs, Result.andThen_ok, hl, if_true, Sem.run_pure]
  rfl
theorem wpList_load32 {ops : Array Oper} {rest : List Oper} {o : Oper} {a : Act} {w : World} {Q : Exit → Act → World → Prop} (hgd : o.guard = none) (x : Operand) (ho : o.op = .load 32 x)
    (b off : Nat) (hx : a.eval x = .pointer (some ⟨b, off, none⟩)) (f : Nat → Nat) (hc : ∀ t, t < 32 → w.cell? ⟨b, off + t, none⟩ = some (.int .u8 (f t : Int)))
    (h : wpList Try.prog ops Q rest (a.put o.dst (.agg (skCells f))) w) : wpList Try.prog ops Q (o :: rest) a w :=
  wpList_plain hgd fun _ hK => by
    unfold Oper.wp execOp
    simp only [ho, hx, Instr.loadAt, Instr.sureAddr, Sem.run_bind, Sem.run_pure, Result.andThen_ok, load32 hc]
    exact hK _ _ h

theorem wpList_alloc30 {ops : Array Oper} {rest : List Oper} {o : Oper} {a : Act} {w : World} {Q : Exit → Act → World → Prop} (hgd : o.guard = none) (ho : o.op = .alloc 30)
    (h : ∀ zs : Array Value, Hid (zs = (nils 8194).toArray) → wpList Try.prog ops Q rest (a.put o.dst (.pointer (some ⟨w.heap.size, 0, none⟩))) (w.alloc (.cells zs 30))) : wpList Try.prog ops Q (o :: rest) a w :=
  wpList_plain hgd fun _ hK => by
    obtain ⟨l, hl, hn⟩ := zero30
    have hz : (zeroValue 30).run Try.prog w = .ok (.agg l.toArray) w := by
      simp only [zeroValue, Sem.run_bind, Try.typeInfo30, Result.andThen_ok, hl, Sem.run_pure]
    have hr : (Instr.alloc 30 true (.tuple #[])).run Try.prog w = .ok (.pointer (some ⟨w.heap.size, 0, none⟩)) (w.alloc (.cells l.toArray 30)) := by
      simp only [Instr.alloc, Sem.run_bind, hz, Result.andThen_ok]
      rfl
    unfold Oper.wp execOp
    simp only [ho, Sem.run_bind, hr, Result.andThen_ok, Sem.run_pure]
    exact hK _ _ (h l.toArray (show l.toArray = _ by rw [hn]))

theorem nils_size (n : Nat) : (nils n).toArray.size = n := by simp [nils]
theorem idx_zero (w : World) (zs : Array Value) (h : zs = (nils 8194).toArray) :
    IdxIs (w.alloc (.cells zs 30)) w.heap.size w.heap.size 0 0 (fun _ => .slice none 0 0) (fun _ => []) (.slice none 0 0) (.slice none 0 0) := by
  subst h
  have hg : ∀ j, j < 8194 → ((nils 8194).toArray)[j]? = some (Value.slice none 0 0) := fun j hj => by
    rw [List.getElem?_toArray]; exact nils_get hj
  refine ⟨Nat.le_refl _, ⟨(nils 8194).toArray, heap_alloc_new _ _, nils_size _, fun j hj => hg j (by omega), hg _ (by omega), hg _ (by omega)⟩, fun j _ => World.ownsRow_nil _ _ _ _, World.ownsRow_nil _ _ _ _, World.ownsRow_nil _ _ _ _, fun i j _ _ _ => .inl rfl⟩

/-! ### the lists -/
def has (S : Nat → Nat → Nat) (j q : Nat) : Bool := decide (S q (j / 256) = j % 256)
/-- the numbers below k of the sketches that have value j % 256 at trait j / 256 -/
def lists (S : Nat → Nat → Nat) (k : Nat) : Nat → List Nat := fun j => (List.range k).filter (has S j)
theorem lists_zero (S : Nat → Nat → Nat) : lists S 0 = fun _ => [] := by funext j; simp [lists]
theorem lists_step (S : Nat → Nat → Nat) (k j : Nat) : lists S (k + 1) j = if has S j k then lists S k j ++ [k] else lists S k j := by
  unfold lists
  rw [List.range_succ, List.filter_append]
  cases h : has S j k <;> simp [h]
theorem lists_len (S : Nat → Nat → Nat) (k j : Nat) : (lists S k j).length ≤ k := by
  have := List.length_filter_le (has S j) (List.range k)
  simpa [lists] using this
theorem lists_mono (S : Nat → Nat → Nat) {i k : Nat} (h : i ≤ k) (j : Nat) : ∃ r, lists S k j = lists S i j ++ r := by
  induction k with
  | zero => exact ⟨[], by rw [show i = 0 by omega]; simp⟩
  | succ k ih =>
    by_cases e : i = k + 1
    · exact ⟨[], by rw [e]; simp⟩
    · obtain ⟨r, hr⟩ := ih (by omega)
      rw [lists_step]
      split
      · exact ⟨r ++ [k], by rw [hr, List.append_assoc]⟩
      · exact ⟨r, hr⟩
theorem added_lists (S : Nat → Nat → Nat) (k j : Nat) (hj : j < 8192) : added (S k) k 32 (lists S k) j = lists S (k + 1) j := by
  rw [lists_step]
  unfold added has
  by_cases h : S k (j / 256) = j % 256
  · rw [if_pos ⟨by omega, h⟩, if_pos (by simpa using h)]
  · rw [if_neg (fun x => h x.2), if_neg (by simpa using h)]
/-- the place of number i in the list -/
theorem lists_at (S : Nat → Nat → Nat) {i k : Nat} (hi : i < k) (j : Nat) (h : has S j i = true) : (lists S i j).length < (lists S k j).length ∧ (lists S k j)[(lists S i j).length]? = some i := by
  obtain ⟨r, hr⟩ := lists_mono S (show i + 1 ≤ k by omega) j
  rw [lists_step, if_pos h] at hr
  rw [hr]
  constructor
  · simp
  · simp

theorem IdxIs.congr {w : World} {B xb kg ks : Nat} {V : Nat → Value} {M M' : Nat → List Nat} {G T : Value} (h : IdxIs w B xb kg ks V M G T) (e : ∀ j, j < 8192 → M j = M' j) : IdxIs w B xb kg ks V M' G T :=
  ⟨h.base, h.blk, fun j hj => by rw [← e j hj]; exact h.own j hj, h.gone, h.shares, h.apart⟩

/-- a cell of list j -/
theorem list_cell {w : World} {B m q : Nat} {v : Value} {l : List Nat} {x : Nat} (h : w.ownsRow B 3 1 v m (ints l)) (hq : l[q]? = some x) :
    ∃ g cap, v = .slice (some ⟨g, 0, none⟩) m cap ∧ w.cell? ⟨g, q, none⟩ = some (.int .i64 (x : Int)) := by
  have hlen : l.length = m := by have := h.1; simpa [ints] using this
  have hql : q < l.length := (List.getElem?_eq_some_iff.mp hq).1
  obtain ⟨g, cap, rfl, _, hlt⟩ := h.form (by omega)
  refine ⟨g, cap, rfl, ?_⟩
  have := h.cells (g := g) rfl q (.int .i64 (x : Int)) (by simp [ints, hq])
  rwa [add_at0, Nat.zero_add] at this
theorem gone_cell {w : World} {B k q : Nat} {v : Value} (h : w.ownsRow B 4 1 v k (List.replicate k (.bool false))) (hq : q < k) :
    ∃ g cap, v = .slice (some ⟨g, 0, none⟩) k cap ∧ w.cell? ⟨g, q, none⟩ = some (.bool false) := by
  obtain ⟨g, cap, rfl, _, hlt⟩ := h.form (by omega)
  refine ⟨g, cap, rfl, ?_⟩
  have := h.cells (g := g) rfl q (.bool false) (by simp [List.getElem?_replicate]; omega)
  rwa [add_at0, Nat.zero_add] at this
end Go.Proofs.Qxb6627587a
