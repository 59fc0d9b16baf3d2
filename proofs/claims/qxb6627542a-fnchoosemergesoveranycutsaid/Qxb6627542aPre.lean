/-
  WHAT BOTH LAWS SHARE: the gates zzBytes_.. (5, 8); the keys copied.
-/
import Derived.Test.Qxb6627542aChoose
import Derived.Laws.CopyOwn
namespace Go.Proofs.Qxb6627542a
open Go.RowKit Plain

def SomeBool (e : Ending) : Prop := ∃ b : Bool, e = .returned (.bool b)

set_option maxHeartbeats 400000 in
theorem zz5 (s : Int) (a : Option Addr) (n cap : Nat) (k : Int) (w : World) :
    Calls Try.prog 5 #[.int .u64 s, .slice a n cap, .int .i64 k] w fun e w' => SomeBool e ∧ w' = w := by
  go_enter Try.func5, Try.ntmps5
  go_wp2
  all_goals (go_ret; exact ⟨⟨_, rfl⟩, rfl⟩)
set_option maxHeartbeats 400000 in
theorem zz8 (s : Int) (a : Option Addr) (n cap : Nat) (k c : Int) (w : World) :
    Calls Try.prog 8 #[.int .u64 s, .slice a n cap, .int .i64 k, .int .i64 c] w fun e w' => SomeBool e ∧ w' = w := by
  go_enter Try.func8, Try.ntmps8
  go_wp2
  all_goals (go_ret; exact ⟨⟨_, rfl⟩, rfl⟩)

theorem Try.info22 : (Try.prog.info? 22).map (fun i => (i.zero, i.size, i.bytes)) = some (some (.int .u64 0), 1, 8) := by kernel_rfl
theorem Try.size22 : (Try.prog.info? 22).map (·.size) = some 1 := by kernel_rfl

def kcells (K : Nat → Int) (n : Nat) : List Value := (List.range n).map (fun i => .int .u64 (K i))
theorem kcells_length (K : Nat → Int) (n : Nat) : (kcells K n).length = n := by simp [kcells]
theorem kcells_one (K : Nat → Int) (n : Nat) : ∀ v ∈ kcells K n, v.oneCell' = true := by
  intro v hv
  obtain ⟨i, _, rfl⟩ := List.mem_map.1 hv
  rfl
theorem kcells_at (K : Nat → Int) (n j : Nat) (h : j < n) : (kcells K n)[j]? = some (.int .u64 (K j)) := by
  simp [kcells, h]
/-- the source's cells, where something goes over -/
theorem keys_src {w : World} {a : Option Addr} {n : Nat} {K : Nat → Int} (h : IsKeys w a n K) (o : Obj) : 0 < (kcells K n).length → ∃ ad, a = some ad ∧ ∀ j v, (kcells K n)[j]? = some v → (w.alloc o).cell? (ad.add j) = some v := by
  intro hp
  rw [kcells_length] at hp
  rcases h with h | ⟨b, off, rfl, hlt, hc⟩
  · omega
  · refine ⟨_, rfl, fun j v hv => ?_⟩
    have hj : j < n := by
      have := (List.getElem?_eq_some_iff.1 hv).1
      rwa [kcells_length] at this
    rw [kcells_at K n j hj] at hv
    cases hv
    have hadd : (⟨b, off, none⟩ : Addr).add j = ⟨b, off + j, none⟩ := by simp [Addr.add]
    rw [hadd, ← hc j hj]
    exact ((Below.refl w.heap.size w).alloc (Nat.le_refl _) o).cell (p := ⟨b, off + j, none⟩) hlt
/-- the copy -/
theorem keys_of_copy {w : World} {g n : Nat} {K : Nat → Int} {cur : List Value} (hl : cur.length = n) (h : w.heap[g]? = some (.cells (splice cur 0 (kcells K n)).toArray 22 (0, 0))) : w.rowIs g 22 n (fun i => .int .u64 (K i)) := by
  have e : splice cur 0 (kcells K n) = kcells K n := by
    simp only [splice, List.take_zero, List.nil_append, Nat.zero_add]
    rw [List.drop_eq_nil_of_le (by rw [kcells_length]; omega), List.append_nil]
  rw [e] at h
  refine ⟨_, h, by simp [kcells_length], fun i hi => ?_⟩
  simp [kcells, hi]
theorem keys_of_row {w : World} {g n : Nat} {K : Nat → Int} (h : w.rowIs g 22 n (fun i => .int .u64 (K i))) : IsKeys w (some ⟨g, 0, none⟩) n K :=
  .inr ⟨g, 0, rfl, h.lt, fun i hi => by rw [Nat.zero_add]; exact h.cell hi⟩

/-- an element of a slice of keys | ints: its address, its cell. -/
theorem IsKeys.elem {w : World} {a : Option Addr} {n : Nat} {K : Nat → Int} (h : IsKeys w a n K) {k : Nat} (hk : k < n) (cap : Nat) :
    ∃ b off, b < w.heap.size ∧ w.cell? ⟨b, off, none⟩ = some (.int .u64 (K k)) ∧ ∀ w', (Instr.indexAt 23 (.slice a n cap) (.int .i64 k)).run Try.prog w' = .ok (.pointer (some ⟨b, off, none⟩)) w' := by
  rcases h with h | ⟨b, off, ha, hlt, hcell⟩
  · omega
  · subst ha
    refine ⟨b, off + k, hlt, hcell k hk, fun w' => ?_⟩
    rw [run_indexAt_slice (P := Try.prog) (w := w') 23 ⟨b, off, none⟩ n cap .i64 k (by kernel_rfl)]
    have hz : (sizeOf (Try.prog.elem 23)).run Try.prog w' = .ok 1 w' := by kernel_rfl
    rw [if_pos (by omega), hz]
    simp [Result.andThen, Addr.add]
theorem IsInts.elem {w : World} {a : Option Addr} {n : Nat} {G : Nat → Int} (h : IsInts w a n G) {k : Nat} (hk : k < n) (cap : Nat) {x : Int} (hx : x = (k : Int)) :
    ∃ b off, b < w.heap.size ∧ w.cell? ⟨b, off, none⟩ = some (.int .i64 (G k)) ∧ ∀ w', (Instr.indexAt 25 (.slice a n cap) (.int .i64 x)).run Try.prog w' = .ok (.pointer (some ⟨b, off, none⟩)) w' := by
  subst hx
  rcases h with h | ⟨b, off, ha, hlt, hcell⟩
  · omega
  · subst ha
    refine ⟨b, off + k, hlt, hcell k hk, fun w' => ?_⟩
    rw [run_indexAt_slice (P := Try.prog) (w := w') 25 ⟨b, off, none⟩ n cap .i64 k (by kernel_rfl)]
    have hz : (sizeOf (Try.prog.elem 25)).run Try.prog w' = .ok 1 w' := by kernel_rfl
    rw [if_pos (by omega), hz]
    simp [Result.andThen, Addr.add]
theorem grown_of_below {w w' : World} (h : Below w.heap.size w w') : w.grownBy w' none := ⟨h.os, h.tape, h.output, h.size, fun k hk _ => h.block k hk⟩
theorem own_ge {w : World} {base : Nat} {e : TypeId} {size : Nat} {v : Value} {n : Nat} {xs : List Value} (h : w.ownsRow base e size v n xs) {j : Nat} (hj : v.ownBlock = some j) : base ≤ j := by
  rcases h.2 with ⟨rfl, _⟩ | ⟨g, cap, cur, rfl, hb, _⟩
  · cases hj
  · cases hj; exact hb
theorem below_one {B : Nat} {w wr w2 : World} {o1 : Obj} {e : TypeId} {size : Nat} {v : Value} {n : Nat} {xs : List Value} (hbel : Below B w wr) (hB : B ≤ wr.heap.size) (hown : wr.ownsRow B e size v n xs)
    (hg : (wr.alloc o1).grownBy w2 v.ownBlock) : Below B w w2 := by
  refine (hbel.alloc hB _).grown hg ?_ (fun j hj => own_ge hown hj)
  show B ≤ (wr.heap.push o1).size; simp; omega
/-- a row of ints that the call owns, as a slice -/
theorem ints_of_own {w : World} {base : Nat} {v : Value} {m : Nat} {l : List Int} (h : w.ownsRow base 3 1 v m (l.map (Value.int .i64))) (hm : m = l.length) : ∃ a cap, v = .slice a m cap ∧ IsInts w a m (fun i => l.getD i 0) := by
  subst hm
  rcases h.2 with ⟨rfl, h0⟩ | ⟨g, cap, cur, rfl, hb, hg, h1, h2, h3, h4⟩
  · exact ⟨none, 0, by rw [h0], .inl h0⟩
  · refine ⟨_, _, rfl, .inr ⟨g, 0, rfl, ?_, fun i hi => ?_⟩⟩
    · rcases Nat.lt_or_ge g w.heap.size with hlt | hge
      · exact hlt
      · rw [Array.getElem?_eq_none hge] at hg; cases hg
    · have hj : (l.map (Value.int .i64))[i]? = some (.int .i64 (l.getD i 0)) := by
        rw [List.getElem?_map, List.getElem?_eq_getElem hi, List.getD_eq_getElem?_getD, List.getElem?_eq_getElem hi]; rfl
      rw [← h4, Nat.mul_one, List.getElem?_take, if_pos hi] at hj
      simp only [World.cell?, hg, Nat.zero_add]; simpa using hj
theorem IsInts.congr {w : World} {a : Option Addr} {m m' : Nat} {F G : Nat → Int} (h : IsInts w a m F) (hm : m = m') (e : ∀ i, i < m → F i = G i) : IsInts w a m' G := by
  subst hm
  rcases h with h | ⟨b, off, ha, hlt, hc⟩
  · exact .inl h
  · exact .inr ⟨b, off, ha, hlt, fun i hi => by rw [hc i hi, e i hi]⟩
theorem map_range_inj {m n : Nat} {F G : Nat → Int} (h : (List.range m).map F = (List.range n).map G) : m = n ∧ ∀ i, i < m → F i = G i := by
  have hl : m = n := by simpa using congrArg List.length h
  subst hl
  refine ⟨rfl, fun i hi => ?_⟩
  have := congrArg (·[i]?) h
  simpa [List.getElem?_range hi] using this
end Go.Proofs.Qxb6627542a
