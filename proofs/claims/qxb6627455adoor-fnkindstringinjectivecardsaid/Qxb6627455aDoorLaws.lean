/-
  THE WALKS of the two laws (3, 4), out of the contracts.
-/
import Derived.Test.Qxb6627455aDoorWalk5
namespace Go.Proofs.Qxb6627455aDoor
open Go.RowKit

/-- the text of kind n -/
def kS (n : Nat) : ByteArray := ⟨(Plain.kindStr n).toArray⟩
theorem kS_list (n : Nat) : (kS n).data.toList = Plain.kindStr n := by simp [kS]
theorem kS_size (n : Nat) (h : n < 256) : (kS n).size ≤ 9 := by
  have := Plain.len_kind n h
  have e : (kS n).size = (kS n).data.toList.length := rfl
  rw [e, kS_list]; exact this

theorem str_any (n : Nat) (hn : n < 256) (w : World) (htab : Lib.TabIs Tryd.prog w "internal/strconv.uint64pow10" .u64 Lib.pow10Tab) :
    Calls Tryd.prog 5 #[.int .u8 n] w fun e w' => e = .returned (.string (kS n)) ∧ Below w.heap.size w w' := by
  by_cases h : n < 10
  · exact string_named n h w
  · exact string_num n (by omega) hn w htab
theorem low_yes (n : Nat) (hn : n ≤ 9) (w : World) : Calls Tryd.prog 6 #[.string (kS n)] w fun e w' => e = .returned (.bool true) ∧ w' = w := by
  refine (low_any (kS n) w (by have := kS_size n (by omega); unfold maxLen; omega)).mono ?_
  rintro e w' ⟨rfl, rfl⟩
  rw [kS_list, Plain.low_kind n (by omega), decide_eq_true hn]; exact ⟨rfl, rfl⟩
theorem low_no (n : Nat) (hn : n < 256) (h9 : 9 < n) (w : World) : Calls Tryd.prog 6 #[.string (kS n)] w fun e w' => e = .returned (.bool false) ∧ w' = w := by
  refine (low_any (kS n) w (by have := kS_size n (by omega); unfold maxLen; omega)).mono ?_
  rintro e w' ⟨rfl, rfl⟩
  rw [kS_list, Plain.low_kind n hn, decide_eq_false (by omega)]; exact ⟨rfl, rfl⟩
theorem kS_inj (a b : Nat) (ha : a < 256) (hb : b < 256) (h : a ≠ b) : ((kS a).toList == (kS b).toList) = false := by
  rw [ByteArray.toList_eq, ByteArray.toList_eq, kS_list, kS_list]
  simp only [beq_eq_false_iff_ne, ne_eq]
  exact fun e => h (Plain.kind_inj a b ha hb e)

set_option maxHeartbeats 400000 in
theorem inj_walk (a b : Nat) (ha : a < 256) (hb : b < 256) (w : World) (htab : Lib.TabIs Tryd.prog w "internal/strconv.uint64pow10" .u64 Lib.pow10Tab) :
    Calls Tryd.prog 4 #[.int .u8 a, .int .u8 b] w fun e w' => e = .returned (.bool true) ∧ Below w.heap.size w w' := by
  have C1 := str_any a ha w htab
  have C2 : ∀ w', Below w.heap.size w w' → Calls Tryd.prog 5 #[.int .u8 b] w' fun e w'' => e = .returned (.string (kS b)) ∧ Below w'.heap.size w' w'' := fun w' h => str_any b hb w' (tab_below htab h)
  have LL : ∀ n : Nat, n < 256 → ∃ x : Bool, decide ((n : Int) ≤ 9) = x ∧ ∀ w, Calls Tryd.prog 6 #[.string (kS n)] w fun e w' => e = .returned (.bool x) ∧ w' = w := by
    intro n hn
    rcases Nat.lt_or_ge 9 n with h9 | h9
    · exact ⟨false, by simp; omega, fun w => low_no n hn h9 w⟩
    · exact ⟨true, by simp; omega, fun w => low_yes n h9 w⟩
  obtain ⟨xa, hxa, LA⟩ := LL a ha
  obtain ⟨xb, hxb, LB⟩ := LL b hb
  clear LL
  by_cases hab : a = b
  · subst hab
    clear LB hxb
    generalize kS a = sa at *
    have K1 := Lib.hid LA
    have K3 := Lib.hid C2
    clear LA C2
    cases xa
    all_goals
      go_enter Tryd.func4, Tryd.ntmps4
      go_wp2_with fail
      refine C1.mono ?_; rintro e w1 ⟨rfl, hb1⟩
      go_wp2_with fail
      refine (K3.out w1 hb1).mono ?_; rintro e w2 ⟨rfl, hb2⟩
      have hbb := hb1.trans (hb2.mono hb1.size)
      clear hb1 hb2
      go_wp2_with fail
      refine (K1.out _).mono ?_; rintro e w' ⟨rfl, rfl⟩
      go_wp2_with fail
      refine (K1.out _).mono ?_; rintro e w' ⟨rfl, rfl⟩
      go_wp2
      go_ret
      exact ⟨rfl, hbb⟩
  · have hne := kS_inj a b ha hb hab
    have hne2 : ((a : Int) == (b : Int)) = false := by simp; omega
    clear hab
    generalize kS a = sa at *
    generalize kS b = sb at *
    have K1 := Lib.hid LA
    have K2 := Lib.hid LB
    have K3 := Lib.hid C2
    clear LA LB C2
    cases xa <;> cases xb
    all_goals
      go_enter Tryd.func4, Tryd.ntmps4
      go_wp2_with fail
      refine C1.mono ?_; rintro e w1 ⟨rfl, hb1⟩
      go_wp2_with fail
      refine (K3.out w1 hb1).mono ?_; rintro e w2 ⟨rfl, hb2⟩
      have hbb := hb1.trans (hb2.mono hb1.size)
      clear hb1 hb2
      go_wp2_with fail
      refine (K1.out _).mono ?_; rintro e w' ⟨rfl, rfl⟩
      go_wp2_with fail
      refine (K2.out _).mono ?_; rintro e w' ⟨rfl, rfl⟩
      go_wp2
      go_ret
      exact ⟨rfl, hbb⟩

set_option maxHeartbeats 400000 in
theorem names_small (n : Nat) (h9 : n ≤ 9) (w : World) (htab : Lib.TabIs Tryd.prog w "internal/strconv.uint64pow10" .u64 Lib.pow10Tab) :
    Calls Tryd.prog 3 #[.int .u8 n] w fun e w' => e = .returned (.bool true) ∧ Below w.heap.size w w' := by
  have C1 := str_any n (by omega) w htab
  have L := low_yes n h9
  have hd : decide ((n : Int) ≤ 9) = true := by simp; omega
  generalize kS n = s at *
  have K1 := Lib.hid L
  clear L
  go_enter Tryd.func3, Tryd.ntmps3
  go_wp2_with fail
  refine C1.mono ?_; rintro e w1 ⟨rfl, hb1⟩
  go_wp2_with fail
  refine (K1.out _).mono ?_; rintro e w' ⟨rfl, rfl⟩
  go_wp2
  go_ret
  exact ⟨rfl, hb1⟩

theorem ext_list (s : ByteArray) (a b : Nat) : (s.extract a b).data.toList = (s.data.toList.drop a).take (b - a) := by
  rw [ByteArray.data_extract]; simp [Array.toList_extract]

/-- what the law asks of the text of a number. -/
structure BigFacts (n : Nat) (s : ByteArray) : Prop where
  lo : 8 ≤ s.size
  hi : s.size ≤ 9
  head : (s.extract 0 5).toList = [75, 105, 110, 100, 40]
  last : ∀ h : s.size - 1 < s.size, ((s[s.size - 1]'h).toNat : Int) = 41
  mid : (s.extract 5 (s.size - 1)).data.toList = Plain.dec3 n

theorem big_facts (n : Nat) (h10 : 10 ≤ n) (hn : n < 256) : BigFacts n (kS n) := by
  have hl : (kS n).data.toList = [75, 105, 110, 100, 40] ++ Plain.dec3 n ++ [41] := by rw [kS_list, Plain.kindStr_big n h10]
  have hD := Plain.dec_fin ⟨n, hn⟩ h10
  simp only [Bool.and_eq_true, decide_eq_true_eq] at hD
  obtain ⟨⟨⟨⟨_, _⟩, h2⟩, h3⟩, _⟩ := hD
  have hz : (kS n).size = 6 + (Plain.dec3 n).length := by
    have e : (kS n).size = (kS n).data.toList.length := rfl
    rw [e, hl]; simp; omega
  refine ⟨by omega, by omega, ?_, ?_, ?_⟩
  · rw [ByteArray.toList_eq, ext_list, hl]; rfl
  · intro h
    have e : (kS n)[(kS n).size - 1]'h = (kS n).data.toList[(kS n).size - 1]'h := rfl
    have g : ((kS n).data.toList[(kS n).size - 1]? ) = some 41 := by
      rw [hl, hz, List.getElem?_append_right (by simp; omega)]
      simp only [List.length_append, List.length_cons, List.length_nil]
      rw [show 6 + (Plain.dec3 n).length - 1 - (0 + 1 + 1 + 1 + 1 + 1 + (Plain.dec3 n).length) = 0 by omega]; rfl
    have g2 := List.getElem_of_getElem? g
    obtain ⟨_, g3⟩ := g2
    rw [e, g3]; rfl
  · rw [ext_list, hl, hz]
    rw [List.append_assoc, List.drop_left' (by rfl)]
    exact List.take_left' (by omega)

theorem parse_kind (n : Nat) (h10 : 10 ≤ n) (hn : n < 256) (w : World) :
    Calls Tryd.prog 7 #[.string ((kS n).extract 5 ((kS n).size - 1))] w fun e w' => e = .returned (.tuple #[.int .i64 n, .bool true]) ∧ w' = w := by
  have F := big_facts n h10 hn
  have hD := Plain.dec_fin ⟨n, hn⟩ h10
  simp only [Bool.and_eq_true, decide_eq_true_eq, bne_iff_ne, ne_eq] at hD
  obtain ⟨⟨⟨⟨hdig, hval⟩, h2⟩, h3⟩, h0⟩ := hD
  have hm := F.mid
  generalize (kS n).extract 5 ((kS n).size - 1) = s at *
  have hz : s.size = (Plain.dec3 n).length := by rw [← hm]; rfl
  have hs2 : 2 ≤ s.size := by omega
  refine (parse_any s w hs2 (by omega) (by rw [hm]; exact hdig) ?_).mono ?_
  · have e : s[0]'(by omega) = s.data.toList[0]'(by show 0 < s.size; omega) := rfl
    have hne : s[0]'(by omega) ≠ 48 := by
      rw [e]; intro hh; apply h0
      rw [← hm]
      simp only [List.getD_eq_getElem?_getD]
      rw [List.getElem?_eq_getElem (show 0 < s.data.toList.length from by show 0 < s.size; omega), hh]; rfl
    simp only [beq_eq_false_iff_ne, ne_eq]
    intro hh
    apply hne
    apply UInt8.toNat_inj.1
    have : (48 : UInt8).toNat = 48 := rfl
    omega
  · rintro e w' ⟨rfl, rfl⟩
    rw [hm, hval]; exact ⟨rfl, rfl⟩

set_option maxHeartbeats 400000 in
theorem names_big (n : Nat) (h10 : 10 ≤ n) (hn : n < 256) (w : World) (htab : Lib.TabIs Tryd.prog w "internal/strconv.uint64pow10" .u64 Lib.pow10Tab) :
    Calls Tryd.prog 3 #[.int .u8 n] w fun e w' => e = .returned (.bool true) ∧ Below w.heap.size w w' := by
  have C1 := str_any n hn w htab
  have C7 := parse_kind n h10 hn
  have hd : decide ((n : Int) ≤ 9) = false := by simp; omega
  obtain ⟨hs1, hs2, hk1, hk2, -⟩ := big_facts n h10 hn
  generalize kS n = s at *
  have hk2 := hk2 (by omega)
  have K7 := Lib.hid C7
  clear C7
  go_enter Tryd.func3, Tryd.ntmps3
  go_wp2_with fail
  refine C1.mono ?_; rintro e w1 ⟨rfl, hb1⟩
  go_wp2_with fail
  refine (K7.out _).mono ?_; rintro e w' ⟨rfl, rfl⟩
  go_wp2
  go_ret
  exact ⟨rfl, hb1⟩

theorem names_walk (n : Nat) (hn : n < 256) (w : World) (htab : Lib.TabIs Tryd.prog w "internal/strconv.uint64pow10" .u64 Lib.pow10Tab) :
    Calls Tryd.prog 3 #[.int .u8 n] w fun e w' => e = .returned (.bool true) ∧ Below w.heap.size w w' := by
  by_cases h : n ≤ 9
  · exact names_small n h w htab
  · exact names_big n (by omega) hn w htab
end Go.Proofs.Qxb6627455aDoor
