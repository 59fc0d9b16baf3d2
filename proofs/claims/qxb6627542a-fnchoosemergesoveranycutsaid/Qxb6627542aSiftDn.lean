/-
  THE WALK of siftDown (16).
-/
import Derived.Test.Qxb6627542aSiftUp
namespace Go.Proofs.Qxb6627542a
open Go.RowKit Plain

/-- of i and its children before c the lowest is l -/
structure Low (Y : Array M) (i l c : Nat) : Prop where
  at_ : l = i ∨ (2 * i + 1 ≤ l ∧ l < c ∧ l < Y.size ∧ lt (g Y l) (g Y i))
  min : ∀ t, 2 * i + 1 ≤ t → t < c → t < Y.size → ¬ lt (g Y t) (g Y l)

theorem Low.start (Y : Array M) (i : Nat) : Low Y i i (2 * i + 1) := ⟨.inl rfl, fun t h1 h2 _ => by omega⟩
theorem Low.ltsize {Y : Array M} {i l c : Nat} (h : Low Y i l c) (hi : i < Y.size) : l < Y.size := by
  rcases h.at_ with h | h
  · omega
  · exact h.2.2.1
theorem Low.keep {Y : Array M} {i l c : Nat} (h : Low Y i l c) (hlt : ltB (g Y c) (g Y l) = false) : Low Y i l (c + 1) := by
  refine ⟨?_, fun t h1 h2 h3 => ?_⟩
  · rcases h.at_ with h | h
    · exact .inl h
    · exact .inr ⟨h.1, by omega, h.2.2⟩
  · by_cases e : t = c
    · subst e; exact (ltB_false _ _).1 hlt
    · exact h.min t h1 (by omega) h3
theorem Low.turn {Y : Array M} {i l c : Nat} (h : Low Y i l c) (hc : 2 * i + 1 ≤ c) (hcs : c < Y.size) (hlt : ltB (g Y c) (g Y l) = true) : Low Y i c (c + 1) := by
  have hl := (ltB_iff _ _).1 hlt
  refine ⟨.inr ⟨hc, by omega, hcs, ?_⟩, fun t h1 h2 h3 => ?_⟩
  · rcases h.at_ with h | h
    · rw [h] at hl; exact hl
    · exact lt_trans hl h.2.2.2
  · by_cases e : t = c
    · subst e; exact lt_irrefl _
    · exact nlt_trans (lt_asymm hl) (h.min t h1 (by omega) h3)
theorem Low.all {Y : Array M} {i l c : Nat} (h : Low Y i l c) (hc : c = 2 * i + 3 ∨ Y.size ≤ c) : ∀ t, 0 < t → t < Y.size → (t - 1) / 2 = i → ¬ lt (g Y t) (g Y l) :=
  fun t h0 h1 h2 => h.min t (by omega) (by omega) h1

set_option maxHeartbeats 2000000 in
theorem siftdn (gb cap : Nat) (X : Array M) (w : World) (hX : HeapIs w gb cap X) (hcap : cap ≤ 4096) (hi : 0 < X.size) (hU : Dn X 0) :
    Calls Try.prog 16 #[.slice (some ⟨gb, 0, none⟩) X.size cap, .int .i64 0, .func (.func 14) #[] #[]] w fun e w' => e = .returned (.tuple #[]) ∧ (∃ Y : Array M, HeapIs w' gb cap Y ∧ Heap Y ∧ Y.Perm X) ∧ w.grownBy w' (some gb) := by
  have hXc : X.size ≤ cap := by obtain ⟨_, _, h, _⟩ := hX; exact h
  go_enter Try.func16, Try.ntmps16
  go_wp2
  go_loopw [1] (fun x wr => ∃ (Y : Array M) (j : Nat), x = .int .i64 j ∧ Y.size = X.size ∧ j < X.size ∧ HeapIs wr gb cap Y ∧ Dn Y j ∧ Y.Perm X ∧ w.grownBy wr (some gb)) (fun x _ => X.size - (intOf x).toNat)
  case atStart => exact ⟨X, 0, rfl, rfl, hi, hX, hU, Array.Perm.refl _, World.grownBy.refl _ _⟩
  case round =>
    obtain ⟨Y, j, rfl, hsz, hj, hY, hdn, hperm, hgrow⟩ := hrel
    have HX : Hid (Y.size = X.size) := hsz
    clear hsz
    go_wp2
    go_loopw [6, 7] (fun x y wr => ∃ l c : Nat, x = .int .i64 l ∧ y = .int .i64 c ∧ 2 * j + 1 ≤ c ∧ c ≤ 2 * j + 3 ∧ Low Y j l c ∧ HeapIs wr gb cap Y ∧ w.grownBy wr (some gb)) (fun _ y _ => 2 * j + 3 - (intOf y).toNat)
    case atStart => exact ⟨j, 2 * j + 1, rfl, by go_num, Nat.le_refl _, by omega, Low.start Y j, hY, hgrow⟩
    case round =>
      clear hY hgrow
      obtain ⟨l, c, rfl, rfl, hc1, hc2, hlow, hY, hgrow⟩ := hrel
      have hlX : l < X.size := by have := hlow.ltsize (by rw [HX.out]; exact hj); rw [HX.out] at this; exact this
      by_cases hin : c ≤ 2 * j + 2 ∧ c < X.size
      · obtain ⟨hin1, hin2⟩ := hin
        obtain ⟨c1, c2⟩ := hY.cells (show c < Y.size by rw [HX.out]; exact hin2)
        obtain ⟨d1, d2⟩ := hY.cells (show l < Y.size by rw [HX.out]; exact hlX)
        have hY2 : HeapIs ((wr.alloc (mbox (g Y c))).alloc (mbox (g Y l))).drew gb cap Y := (hY.alloc _).alloc _
        have hgrow2 : w.grownBy ((wr.alloc (mbox (g Y c))).alloc (mbox (g Y l))).drew (some gb) := hgrow.trans (grown_two _ _ _ _)
        have hin1' : (c : Int) ≤ 2 * (j : Int) + 2 := by omega
        cases hlt : ltB (g Y c) (g Y l)
        all_goals
          go_wp2
          go_region_held3 (fun w' => w'.cell? ⟨gb, c * 2, none⟩ = some (.int .u64 (g Y c).1) ∧ w'.cell? ⟨gb, c * 2 + 1, none⟩ = some (.int .i64 (g Y c).2) ∧ w'.cell? ⟨gb, l * 2, none⟩ = some (.int .u64 (g Y l).1) ∧ w'.cell? ⟨gb, l * 2 + 1, none⟩ = some (.int .i64 (g Y l).2)) (go_keep)
            (first
              | (go_at_call 14; refine (below_any (g Y c) (g Y l) _).mono ?_; rintro e w' ⟨rfl, rfl⟩))
          go_wp2
          go_roundw
        case rel => exact ⟨l, c + 1, rfl, by go_num, by omega, by omega, hlow.keep hlt, hY2, hgrow2⟩
        case measure => simp [intOf]; omega
        case rel => exact ⟨c, c + 1, rfl, by go_num, by omega, by omega, hlow.turn hc1 (by rw [HX.out]; exact hin2) hlt, hY2, hgrow2⟩
        case measure => simp [intOf]; omega
      · have hall := hlow.all (by rw [HX.out]; omega)
        have hat := hlow.at_
        have HA : Hid (l = j ∨ (2 * j + 1 ≤ l ∧ l < c ∧ l < Y.size ∧ lt (g Y l) (g Y j))) := hat
        clear hat hlow
        by_cases hlj : l = j
        · subst hlj
          have hheap := hdn.done hall
          by_cases hc3 : (c : Int) ≤ 2 * (l : Int) + 2
          all_goals
            go_wp2
            exact bodyPost_ret (v := .tuple #[]) (by simp [results, Try.results16, go_sem]) rfl ⟨rfl, ⟨Y, hY, hheap, hperm⟩, hgrow⟩
        · have hlj2 : ((l : Int) == (j : Int)) = false := by simp; omega
          obtain ⟨c1, c2⟩ := hY.cells (show j < Y.size by rw [HX.out]; exact hj)
          obtain ⟨d1, d2⟩ := hY.cells (show l < Y.size by rw [HX.out]; exact hlX)
          have f1 := hY.free (j * 2)
          have f2 := hY.free (j * 2 + 1)
          have f3 := hY.free (l * 2)
          have f4 := hY.free (l * 2 + 1)
          have hjl : j < l := by rcases HA.out with h | h <;> omega
          by_cases hc3 : (c : Int) ≤ 2 * (j : Int) + 2
          all_goals
            go_wp2
            go_region
            go_wp2
            go_roundw
            case rel =>
              have hYs : Y.size = X.size := HX.out
              have hlt : lt (g Y l) (g Y j) := by rcases HA.out with h | h; exact absurd h hlj; exact h.2.2.2
              exact ⟨Y.swap j l (by omega) (by omega), l, rfl, by simpa using hYs, hlX, hY.swap (by omega) (by omega), hdn.swap (by omega) (by omega) (by omega) (by rcases HA.out with h | h <;> omega) hlt hall, (Array.swap_perm _ _).trans hperm, grown_drew (grown_set (grown_set (grown_set (grown_set hgrow))))⟩
            case measure => simp [intOf]; omega
end Go.Proofs.Qxb6627542a
