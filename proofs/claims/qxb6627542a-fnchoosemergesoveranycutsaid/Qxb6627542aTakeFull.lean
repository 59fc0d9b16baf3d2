/-
  THE WALK of take (12) where the heap is full.
-/
import Derived.Test.Qxb6627542aTake
namespace Go.Proofs.Qxb6627542a
open Go.RowKit Plain

theorem siftdn_at (gb cap : Nat) (X : Array M) (n : Nat) (w : World) (hX : HeapIs w gb cap X) (hcap : cap ≤ 4096) (hi : 0 < X.size) (hU : Dn X 0) (hn : X.size = n) :
    Calls Try.prog 16 #[.slice (some ⟨gb, 0, none⟩) n cap, .int .i64 0, .func (.func 14) #[] #[]] w fun e w' => e = .returned (.tuple #[]) ∧ (∃ Y : Array M, HeapIs w' gb cap Y ∧ Heap Y ∧ Y.Perm X) ∧ w.grownBy w' (some gb) := by
  subst hn
  exact siftdn gb cap X w hX hcap hi hU

/-- the root stored anew -/
theorem high_root {w : World} {hb gb k : Nat} {X : Array M} (h : HighIs w hb gb k X) (m : M) (h0 : 0 < X.size) :
    HighIs ((w.setCell ⟨gb, 0, none⟩ (.int .u64 m.1)).setCell ⟨gb, 1, none⟩ (.int .i64 m.2)) hb gb k (X.set 0 m) := by
  have hne := h.ne
  constructor
  · rw [Below.heap_setCell _ _ _ _ hne, Below.heap_setCell _ _ _ _ hne, h.1]
    simp
  · have := h.2.store (Y := X.set 0 m) (m := m) (i := 0) (by simp) h0 (fun j _ => g_set h0 j)
    simpa using this

set_option maxHeartbeats 1000000 in
theorem take_full (B hb gb k : Nat) (X : Array M) (m : M) (w : World) (h : HighIs w hb gb k X) (hH : Heap X) (hk : k ≤ 4096) (hk0 : 0 < X.size) (hfull : X.size = k) (hB1 : B ≤ hb) (hB2 : B ≤ gb) :
    Calls Try.prog 12 #[.pointer (some ⟨hb, 0, none⟩), .agg #[.int .u64 m.1, .int .i64 m.2]] w fun e w' => e = .returned (.tuple #[]) ∧ TakeLeft w' hb gb k (X.set 0 m) ∧ Below B w w' := by
  have hb1 := below_box w m
  have hlt := h.lt
  have hW := h.below hb1
  have hc := hW.cell
  rw [hfull] at hc
  obtain ⟨m1, m2⟩ := box_cells w m
  obtain ⟨r1, r2⟩ := hW.2.cells hk0
  simp only [Nat.zero_mul, Nat.zero_add] at r1 r2
  have f1 := hW.2.free 0
  have f2 := hW.2.free 1
  have hd : decide ((k : Int) < (k : Int)) = false := by simp
  have hU := Dn.set hH m hk0
  have hbs := hb1.size
  obtain ⟨W, hw⟩ : ∃ W, w.alloc (mbox m) = W := ⟨_, rfl⟩
  rw [hw] at hb1 hc m1 m2 hW hbs r1 r2 f1 f2
  have HW : Hid (w.alloc (.cells #[.int .u64 m.1, .int .i64 m.2] 32) = W) := hw
  have HF : Hid (X.size = k) := hfull
  have hkpos : 0 < k := by omega
  clear hw hfull
  go_enter Try.func12, Try.ntmps12
  go_wp2
  rw [HW.out]
  go_quiet (fail)
  go_wp2
  go_region
  have hR : HighIs (((W.drewN (nq + 1)).setCell ⟨gb, 0, none⟩ (.int .u64 m.1)).setCell ⟨gb, 1, none⟩ (.int .i64 m.2)) hb gb k (X.set 0 m) := high_root (hW.below (below_drewN (Below.refl _ _) (nq + 1))) m hk0
  have hb4 : Below B w (((W.drewN (nq + 1)).setCell ⟨gb, 0, none⟩ (.int .u64 m.1)).setCell ⟨gb, 1, none⟩ (.int .i64 m.2)) := ((below_drewN (hb1.mono (by omega)) (nq + 1)).setCell hB2 _).setCell hB2 _
  have hs4 : (((W.drewN (nq + 1)).setCell ⟨gb, 0, none⟩ (.int .u64 m.1)).setCell ⟨gb, 1, none⟩ (.int .i64 m.2)).heap.size = W.heap.size := by simp
  generalize (((W.drewN (nq + 1)).setCell ⟨gb, 0, none⟩ (.int .u64 m.1)).setCell ⟨gb, 1, none⟩ (.int .i64 m.2)) = W4 at *
  have hc4 := hR.cell
  rw [Array.size_set, HF.out] at hc4
  clear r1 r2 f1 f2 hc m1 m2 hW h
  go_wp2_with fail
  refine (siftdn_at gb k (X.set 0 m) k W4 hR.2 hk (by simpa using hk0) hU (by rw [Array.size_set, HF.out])).mono ?_
  rintro e w5 ⟨rfl, ⟨Y, hY, hYH, hYp⟩, hg5⟩
  have HL : TakeLeft w5 hb gb k (X.set 0 m) := take_left hR hg5 hY hYH hYp
  have hb5 : Below B w w5 := below_grown hb4 hg5 (by omega) hB2
  clear hY hYH hYp hg5 hR hb4
  go_wp2
  go_end0
  exact ⟨rfl, HL, hb5⟩
end Go.Proofs.Qxb6627542a
