/-
  THE WALKS of newHighest (9), admits (11), take (12).
-/
import Derived.Test.Qxb6627542aSiftDn
import Derived.Deep.RegionLaw
namespace Go.Proofs.Qxb6627542a
open Go.RowKit Plain

/-- block hb is a 'highest' whose heap, of capacity k, holds X in block gb. -/
def HighIs (w : World) (hb gb k : Nat) (X : Array M) : Prop :=
  w.heap[hb]? = some (.cells #[.slice (some ⟨gb, 0, none⟩) X.size k] 38 (0, 0)) ∧ HeapIs w gb k X

theorem HighIs.cell {w : World} {hb gb k : Nat} {X : Array M} (h : HighIs w hb gb k X) : w.cell? ⟨hb, 0, none⟩ = some (.slice (some ⟨gb, 0, none⟩) X.size k) := by
  rw [Joins.cell_of_block h.1]; rfl
theorem HighIs.ne {w : World} {hb gb k : Nat} {X : Array M} (h : HighIs w hb gb k X) : hb ≠ gb := by
  intro e
  subst e
  obtain ⟨h1, cur, h2, _⟩ := h
  rw [h1] at h2
  simp at h2
theorem HighIs.lt {w : World} {hb gb k : Nat} {X : Array M} (h : HighIs w hb gb k X) : hb < w.heap.size := by
  rcases Nat.lt_or_ge hb w.heap.size with h1 | h1
  · exact h1
  · have := h.1; rw [Array.getElem?_eq_none h1] at this; cases this
theorem HighIs.below {w w' : World} {hb gb k : Nat} {X : Array M} (h : HighIs w hb gb k X) (hb' : Below w.heap.size w w') : HighIs w' hb gb k X :=
  ⟨(hb'.block _ h.lt).trans h.1, h.2.block (hb'.block _ h.2.lt)⟩

theorem Try.info32 : (Try.prog.info? 32).map (fun i => (i.zero, i.size, i.bytes)) = some (some (.agg #[.int .u64 0, .int .i64 0]), 2, 16) := by kernel_rfl

/-- it returns a pointer to a new 'highest', empty -/
def RetHigh (e : Ending) (w : World) (B k : Nat) : Prop := ∃ hb gb, e = .returned (.pointer (some ⟨hb, 0, none⟩)) ∧ HighIs w hb gb k #[] ∧ B ≤ hb ∧ B ≤ gb

theorem ret_high {w w1 : World} {k : Nat} (hown : w1.ownsRow w.heap.size 32 2 (.slice (some ⟨w.heap.size, 0, none⟩) 0 k) 0 []) (hg : w.grownBy w1 none) :
    RetHigh (.returned (.pointer (some ⟨w1.heap.size, 0, none⟩))) (w1.alloc (.cells #[.slice (some ⟨w.heap.size, 0, none⟩) 0 k] 38)) w.heap.size k := by
  obtain ⟨_, h | ⟨gg, cap, cur, hv, hb, hh, h1, h2, h3, h4⟩⟩ := hown
  · cases h.1
  · simp only [Value.slice.injEq, Option.some.injEq, Addr.mk.injEq] at hv
    obtain ⟨⟨rfl, _⟩, _, rfl⟩ := hv
    have hHeap : HeapIs w1 w.heap.size k #[] := ⟨cur, hh, by simp, h3, fun j hj => by simp at hj⟩
    refine ⟨_, _, rfl, ⟨?_, hHeap.alloc _⟩, hg.size, Nat.le_refl _⟩
    show (w1.heap.push _)[w1.heap.size]? = _
    simp

set_option maxHeartbeats 400000 in
theorem newhigh (k : Nat) (w : World) (hk : k ≤ 4096) :
    Calls Try.prog 9 #[.int .i64 k] w fun e w' => RetHigh e w' w.heap.size k ∧ Below w.heap.size w w' := by
  obtain ⟨i0, hi, hz0, hz1, hz2⟩ := info_parts Try.info32
  go_enter Try.func9, Try.ntmps9
  go_wp2_with (at_make; refine wpList_make_own _ rfl _ _ 36 rfl w.heap.size 32 i0 _ 2 Try.underlying36 hi hz0 hz1 .i64 .i64 _ k rfl rfl rfl (by rw [hz2]; omega) (by unfold maxLen; omega) (Nat.le_refl _) ?_; intro w1 hown1 hg1)
  have hb1 : Below w.heap.size w w1 := (Below.refl _ _).grown hg1 (Nat.le_refl _) (fun _ h => by cases h)
  have HR := ret_high hown1 hg1
  clear hown1 hg1
  go_wp2
  go_ret
  exact ⟨HR, hb1.alloc hb1.size _⟩

theorem below_box (w : World) (m : M) : Below w.heap.size w (w.alloc (mbox m)) := (Below.refl _ _).alloc (Nat.le_refl _) _
theorem box_cells (w : World) (m : M) : (w.alloc (mbox m)).cell? ⟨w.heap.size, 0, none⟩ = some (.int .u64 m.1) ∧ (w.alloc (mbox m)).cell? ⟨w.heap.size, 1, none⟩ = some (.int .i64 m.2) := by
  constructor <;> simp [mbox, World.cell?_alloc_new]

set_option maxHeartbeats 1000000 in
theorem admits_room (hb gb k : Nat) (X : Array M) (m : M) (w : World) (h : HighIs w hb gb k X) (hroom : X.size < k) :
    Calls Try.prog 11 #[.pointer (some ⟨hb, 0, none⟩), .agg #[.int .u64 m.1, .int .i64 m.2]] w fun e w' => e = .returned (.bool true) ∧ Below w.heap.size w w' := by
  have hb1 := below_box w m
  have hc := (h.below hb1).cell
  have hd : decide ((X.size : Int) < (k : Int)) = true := by simp; omega
  obtain ⟨W, hw⟩ : ∃ W, w.alloc (mbox m) = W := ⟨_, rfl⟩
  rw [hw] at hb1 hc
  have HW : Hid (w.alloc (.cells #[.int .u64 m.1, .int .i64 m.2] 32) = W) := hw
  clear hw
  go_enter Try.func11, Try.ntmps11
  go_wp2
  rw [HW.out]
  go_quiet (fail)
  go_wp2
  go_ret
  exact ⟨rfl, below_drewN hb1 _⟩

set_option maxHeartbeats 1000000 in
theorem admits_full (hb gb k : Nat) (X : Array M) (m : M) (w : World) (h : HighIs w hb gb k X) (hk : k ≤ 4096) (hk0 : 0 < k) (hfull : X.size = k) :
    Calls Try.prog 11 #[.pointer (some ⟨hb, 0, none⟩), .agg #[.int .u64 m.1, .int .i64 m.2]] w fun e w' => e = .returned (.bool (ltB (g X 0) m)) ∧ Below w.heap.size w w' := by
  have hb1 := below_box w m
  have hc := (h.below hb1).cell
  obtain ⟨r1, r2⟩ := (h.below hb1).2.cells (show 0 < X.size by omega)
  obtain ⟨m1, m2⟩ := box_cells w m
  rw [hfull] at hc
  simp only [Nat.zero_mul, Nat.zero_add] at r1 r2
  have hsz : (w.alloc (mbox m)).heap.size = w.heap.size + 1 := by simp
  obtain ⟨W, hw⟩ : ∃ W, w.alloc (mbox m) = W := ⟨_, rfl⟩
  rw [hw] at hb1 hc r1 r2 m1 m2 hsz
  have hb2 : Below w.heap.size w ((W.alloc (mbox (g X 0))).alloc (mbox m)).drew := (((hb1.alloc (by omega) _).alloc (by simp; omega) _).drew)
  have HW : Hid (w.alloc (.cells #[.int .u64 m.1, .int .i64 m.2] 32) = W) := hw
  clear hw hfull h
  go_enter Try.func11, Try.ntmps11
  go_wp2
  rw [HW.out]
  go_region_held3 (fun w' => w'.cell? ⟨hb, 0, none⟩ = some (.slice (some ⟨gb, 0, none⟩) k k) ∧ w'.cell? ⟨gb, 0, none⟩ = some (.int .u64 (g X 0).1) ∧ w'.cell? ⟨gb, 1, none⟩ = some (.int .i64 (g X 0).2) ∧ w'.cell? ⟨w.heap.size, 0, none⟩ = some (.int .u64 m.1) ∧ w'.cell? ⟨w.heap.size, 1, none⟩ = some (.int .i64 m.2)) (go_keep)
    (first
      | (go_at_call 14; refine (below_any (g X 0) m _).mono ?_; rintro e w' ⟨rfl, rfl⟩))
  go_wp2
  go_ret
  exact ⟨rfl, hb2⟩
end Go.Proofs.Qxb6627542a
