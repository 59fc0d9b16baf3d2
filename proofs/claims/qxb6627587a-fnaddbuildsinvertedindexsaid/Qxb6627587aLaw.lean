/-
  THE WALK of FnAddBuildsInvertedIndex (3).
-/
import Derived.Test.Qxb6627587aPre
namespace Go.Proofs.Qxb6627587a
open Go.RowKit

set_option maxRecDepth 10000 in
set_option maxHeartbeats 4000000 in
theorem law_walk (a : Option Addr) (n cap : Nat) (S : Nat → Nat → Nat) (w : World) (hK : IsSk w a n S) (hS : ∀ i, i < n → ∀ t, t < 32 → S i t < 256) :
    Calls Try.prog 3 #[.slice a n cap] w fun e w' => e = .returned (.bool true) ∧ Below w.heap.size w w' := by
  by_cases hbig : 4096 < (n : Int)
  · go_enter Try.func3, Try.ntmps3
    go_wp2_with fail
    refine (bytes_walk _ _ _ _).mono ?_
    rintro e w' ⟨⟨b0, rfl⟩, rfl⟩
    cases b0
    all_goals
      go_wp2
      go_ret
      exact ⟨rfl, Below.refl _ _⟩
  have hn : n ≤ 4096 := by omega
  have HS : Hid (∀ i, i < n → ∀ t, t < 32 → S i t < 256) := hS
  clear hS
  go_enter Try.func3, Try.ntmps3
  go_wp2_with fail
  refine (bytes_walk _ _ _ _).mono ?_
  rintro e w' ⟨⟨b0, rfl⟩, rfl⟩
  cases b0
  · go_wp2
    go_ret
    exact ⟨rfl, Below.refl _ _⟩
  go_wp2_with (refine wpList_alloc30 rfl rfl ?_; intro zs hzs)
  have hI0 := idx_zero w' zs hzs.out
  have hb0 : Below w'.heap.size w' (w'.alloc (.cells zs 30)) := (Below.refl _ _).alloc (Nat.le_refl _) _
  clear hzs
  go_loopw [4] (fun i wr => ∃ k : Nat, k ≤ n ∧ i = .int .i64 k ∧ (∃ V G T, IdxIs wr w'.heap.size w'.heap.size k k V (lists S k) G T) ∧ Below w'.heap.size w' wr) (fun i _ => n - (intOf i).toNat)
  case atStart => exact ⟨0, Nat.zero_le _, rfl, ⟨_, _, _, by rw [lists_zero]; exact hI0⟩, hb0⟩
  case round =>
    clear hI0 hb0
    obtain ⟨k, hk, rfl, ⟨V, G, T, hI⟩, hbel⟩ := hrel
    have hws := hbel.size
    by_cases hkn : k < n
    · obtain ⟨b, off, hlt, hc, hix⟩ := (hK.below hbel (Nat.le_refl _)).elem hkn cap
      have HC : Hid (∀ t, t < 32 → wr.cell? ⟨b, off + t, none⟩ = some (.int .u8 (S k t : Int))) := hc
      clear hc
      go_wp2_with (refine wpList_load32 rfl (.tmp 28) rfl b off rfl (S k) HC.out ?_)
      refine (add_walk _ _ k V (lists S k) G T (S k) (skCells (S k)) wr hI hws (by omega) (HS.out k hkn) (fun j _ => lists_len S k j) (skCells_size _) (skCells_get _)).mono ?_
      rintro e w2 ⟨rfl, ⟨V2, G2, T2, hI2⟩, hb2⟩
      have hI3 := hI2.congr (added_lists S k)
      have hb3 := hbel.trans hb2
      clear hI hI2 hb2 hix hbel
      go_wp2
      go_roundw
      case rel => exact ⟨k + 1, by omega, by go_num, ⟨_, _, _, hI3⟩, hb3⟩
      case measure => simp [intOf]; omega
    · have e : k = n := by omega
      subst e
      obtain ⟨wA, rfl⟩ : ∃ wA, wA = wr := ⟨_, rfl⟩
      obtain ⟨ga, gc, rfl⟩ := own_form hI.gone
      obtain ⟨ta, tc, rfl⟩ := own_form hI.shares
      have hcG := hI.cellG
      have hcS := hI.cellS
      go_wp2_with (go_at_call 7; refine (gone_walk _ _ _ hcG).mono ?_; rintro e w2 ⟨rfl, rfl⟩)
      go_loop [6] (fun i => ∃ q : Nat, q ≤ k ∧ i = .int .i64 q) (fun i => k - (intOf i).toNat)
      case atStart => exact ⟨0, Nat.zero_le _, rfl⟩
      case round =>
        obtain ⟨q, hq, rfl⟩ := hrel
        by_cases hqk : q < k
        · obtain ⟨g, c2, he, hcell⟩ := gone_cell hI.gone hqk
          cases he
          go_wp2
          go_round
          case rel => exact ⟨q + 1, by omega, by go_num⟩
          case measure => simp [intOf]; omega
        · go_wp2_with (go_at_call 8; refine (len_walk _ _ _ _ _ hcS).mono ?_; rintro e w2 ⟨rfl, rfl⟩)
          go_loopw [7] (fun i wr => ∃ q : Nat, q ≤ k ∧ i = .int .i64 q ∧ Below w2.heap.size w2 wr) (fun i _ => k - (intOf i).toNat)
          case atStart => exact ⟨0, Nat.zero_le _, rfl, Below.refl _ _⟩
          case round =>
            clear hq hqk
            obtain ⟨q3, hq, rfl, hb3⟩ := hrel
            by_cases hqk : q3 < k
            · obtain ⟨g, c2, he, hgl, hcell0, hcell1⟩ := share_cells hI.shares hqk
              cases he
              have hxl := hI.lt
              have hs3 := hb3.size
              have d0 := (hb3.cell (p := ⟨g, q3 * 2, none⟩) hgl).trans hcell0
              have d1 := (hb3.cell (p := ⟨g, q3 * 2 + 1, none⟩) hgl).trans hcell1
              have dS := (hb3.cell (p := ⟨w'.heap.size, 8193, none⟩) hxl).trans hcS
              go_wp2_with (go_at_call 9; refine (share_walk _ g k _ q3 wr hqk dS (by omega) (by omega) d0 d1).mono ?_; rintro e w4 ⟨rfl, hb4⟩)
              have hb5 : Below w2.heap.size w2 (w4.alloc (.cells #[.int .u32 0, .int .u32 0] 38)) := (hb3.trans (hb4.mono hs3)).alloc (by have := hb4.size; omega) _
              clear d0 d1 dS hcell0 hcell1 hb3 hb4
              go_roundw
              case rel => exact ⟨q3 + 1, by omega, by go_num, hb5⟩
              case measure => simp [intOf]; omega
            · obtain ⟨wB, rfl⟩ : ∃ wB, wB = wr := ⟨_, rfl⟩
              have hIB := hI.below hb3
              have hKB := hK.below (hbel.trans (hb3.mono hws)) (Nat.le_refl _)
              have hbB := hbel.trans (hb3.mono hws)
              clear hI hK hbel hb3 hcG hcS
              go_wp2
              go_loop [9] (fun x => ∃ t : Nat, t ≤ 32 ∧ x = .int .i64 t) (fun x => 32 - (intOf x).toNat)
              case atStart => exact ⟨0, Nat.zero_le _, rfl⟩
              case round =>
                obtain ⟨t, ht, rfl⟩ := hrel
                by_cases htn : t < 32
                · go_wp2
                  go_loop [10] (fun x => ∃ v : Nat, v ≤ 256 ∧ x = .int .i64 v) (fun x => 256 - (intOf x).toNat)
                  case atStart => exact ⟨0, Nat.zero_le _, rfl⟩
                  case round =>
                    obtain ⟨v, hv, rfl⟩ := hrel
                    by_cases hvn : v < 256
                    · have hj : t * 256 + v < 8192 := by omega
                      have hcV := hIB.cell hj
                      obtain ⟨la, lc, hV⟩ := own_form (hIB.own _ hj)
                      have hown := hIB.own _ hj
                      rw [hV] at hcV hown
                      obtain ⟨m, hm⟩ : ∃ m, (lists S k (t * 256 + v)).length = m := ⟨_, rfl⟩
                      rw [hm] at hcV hown hV
                      have hmk : m ≤ k := by rw [← hm]; exact lists_len _ _ _
                      have HM : Hid ((lists S k (t * 256 + v)).length = m) := hm
                      clear hm
                      go_wp2_with (go_at_call 10; refine (with_walk _ t v _ _ htn hvn hcV).mono ?_; rintro e w5 ⟨rfl, rfl⟩)
                      go_loop [12, 13] (fun y x => ∃ i : Nat, i ≤ k ∧ x = .int .i64 i ∧ y = .int .i64 ((lists S i (t * 256 + v)).length : Nat)) (fun _ x => k - (intOf x).toNat)
                      case atStart => exact ⟨0, Nat.zero_le _, rfl, rfl⟩
                      case round =>
                        obtain ⟨i, hi, rfl, rfl⟩ := hrel
                        obtain ⟨c, hc⟩ : ∃ c, (lists S i (t * 256 + v)).length = c := ⟨_, rfl⟩
                        have hci : c ≤ i := by rw [← hc]; exact lists_len _ _ _
                        by_cases hik : i < k
                        · obtain ⟨b, off, hlt, hcells, hix⟩ := hKB.elem hik cap
                          have hcell := hcells t htn
                          have hSi := HS.out i hik t htn
                          have hx2 : ∀ w', (Instr.indexAt 32 (.pointer (some ⟨b, off, none⟩)) (.int .i64 (t : Int))).run Try.prog w' = .ok (.pointer (some ⟨b, off + t, none⟩)) w' := fun w' => at32 htn w'
                          have hst := lists_step S i (t * 256 + v)
                          have hhas : has S (t * 256 + v) i = decide (S i t = v) := by
                            unfold has
                            rw [show (t * 256 + v) / 256 = t by omega, show (t * 256 + v) % 256 = v by omega]
                          clear hcells
                          by_cases heq : S i t = v
                          · obtain ⟨h1, h2⟩ := lists_at S hik (t * 256 + v) (by rw [hhas]; simpa using heq)
                            rw [hc, HM.out] at h1
                            rw [hc] at h2
                            rw [hhas, if_pos (by simpa using heq)] at hst
                            have Hst : Hid ((lists S (i + 1) (t * 256 + v)).length = c + 1) := by show _ = _; rw [hst]; simp [hc]
                            obtain ⟨g, c2, he, hel⟩ := list_cell hown h2
                            cases he
                            clear hst hhas h2
                            rw [hc]
                            go_wp2
                            go_round
                            case rel => exact ⟨i + 1, by omega, by go_num, by rw [Hst.out]; go_num⟩
                            case measure => simp [intOf]; omega
                          · rw [hhas, if_neg (by simpa using heq)] at hst
                            have Hst : Hid ((lists S (i + 1) (t * 256 + v)).length = c) := by show _ = _; rw [hst]; exact hc
                            have hne : ¬ ((S i t : Int) = (v : Int)) := by omega
                            clear hst hhas
                            rw [hc]
                            go_wp2
                            go_round
                            case rel => exact ⟨i + 1, by omega, by go_num, by rw [Hst.out]⟩
                            case measure => simp [intOf]; omega
                        · have hcm : c = m := by rw [← hc, ← HM.out, show i = k by omega]
                          rw [hc]
                          clear hc
                          subst hcm
                          go_wp2
                          go_round
                          case rel => exact ⟨v + 1, by omega, by go_num⟩
                          case measure => simp [intOf]; omega
                    · go_wp2
                      go_round
                      case rel => exact ⟨t + 1, by omega, by go_num⟩
                      case measure => simp [intOf]; omega
                · go_wp2
                  go_ret
                  exact ⟨rfl, hbB⟩
end Go.Proofs.Qxb6627587a
