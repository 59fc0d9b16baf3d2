/-
  THE WALKS of isLowerWord (6) and parseDec (7).
-/
import Derived.Test.Qxb6627455aDoorRows
import Derived.Test.Qxb6627455aDoorPlain
import Derived.WalkKit
import Derived.WalkSpells
import Derived.WalkLawsBesides
namespace Go.Proofs.Qxb6627455aDoor
open Go.RowKit

theorem take_snoc (s : ByteArray) (k : Nat) (h : k < s.size) : s.data.toList.take (k + 1) = s.data.toList.take k ++ [s[k]] := by
  rw [List.take_succ_eq_append_getElem (by simpa using h)]; rfl

/-- all letters so far are low -/
def lowAll (l : List UInt8) : Bool := l.all (fun c => 97 ≤ c && c ≤ 122)
theorem lowAll_snoc (l : List UInt8) (c : UInt8) : lowAll (l ++ [c]) = (lowAll l && decide (97 ≤ (c.toNat : Int) ∧ (c.toNat : Int) ≤ 122)) := by
  have e : (97 ≤ c && c ≤ 122) = decide (97 ≤ (c.toNat : Int) ∧ (c.toNat : Int) ≤ 122) := by
    rw [Bool.eq_iff_iff]; simp [UInt8.le_iff_toNat_le]; omega
  simp [lowAll, List.all_append, e]
theorem lowB_of (s : ByteArray) (h : 0 < s.size) : Plain.lowB s.data.toList = lowAll s.data.toList := by
  unfold Plain.lowB lowAll
  have : s.data.toList.isEmpty = false := by
    have hs : s.data.toList.length = s.size := rfl
    cases hl : s.data.toList with
    | nil => rw [hl] at hs; simp only [List.length_nil] at hs; omega
    | cons _ _ => rfl
  rw [this]; rfl
theorem lowAll_prefix (l : List UInt8) (k : Nat) (h : lowAll (l.take k) = false) : lowAll l = false := by
  have : l = l.take k ++ l.drop k := (List.take_append_drop k l).symm
  rw [this]; unfold lowAll at *; rw [List.all_append, h]; rfl

theorem ret_bool {a b : Bool} (h : a = b) : Ending.returned (.bool a) = .returned (.bool b) := by rw [h]

set_option maxHeartbeats 400000 in
theorem low_any (s : ByteArray) (w : World) (hs : s.size ≤ maxLen) :
    Calls Tryd.prog 6 #[.string s] w fun e w' => e = .returned (.bool (Plain.lowB s.data.toList)) ∧ w' = w := by
  unfold maxLen at hs
  by_cases h0 : s.size = 0
  · have hl : s.data.toList = [] := by
      exact List.eq_nil_of_length_eq_zero (show s.data.toList.length = 0 from h0)
    have hlow : Plain.lowB s.data.toList = false := by rw [hl]; rfl
    go_enter Tryd.func6, Tryd.ntmps6
    go_wp2
    go_ret
    exact ⟨ret_bool hlow.symm, rfl⟩
  · have hpos : 0 < s.size := by omega
    have HL : Hid (Plain.lowB s.data.toList = lowAll s.data.toList) := lowB_of s hpos
    clear h0
    go_enter Tryd.func6, Tryd.ntmps6
    go_wp2
    go_loop [3] (fun i => ∃ k : Nat, k ≤ s.size ∧ i = .int .i64 k ∧ lowAll (s.data.toList.take k) = true) (fun i => s.size - (intOf i).toNat)
    case atStart => exact ⟨0, Nat.zero_le _, rfl, rfl⟩
    case round =>
      obtain ⟨k, hk, rfl, hlo⟩ := hrel
      by_cases hlt : k < s.size
      · have HS : Hid (lowAll (s.data.toList.take (k + 1)) = decide (97 ≤ (s[k].toNat : Int) ∧ (s[k].toNat : Int) ≤ 122)) := by
          show _ = _
          rw [take_snoc s k hlt, lowAll_snoc, hlo]; rfl
        clear hlo
        by_cases hc : 97 ≤ (s[k].toNat : Int) ∧ (s[k].toNat : Int) ≤ 122
        · obtain ⟨hc1, hc2⟩ := hc
          go_wp2
          go_round
          case rel => exact ⟨k + 1, by omega, by go_num, by rw [HS.out]; exact decide_eq_true ⟨hc1, hc2⟩⟩
          case measure => simp [intOf]; omega
        · by_cases hc1 : 97 ≤ (s[k].toNat : Int)
          · have hc2 : 122 < (s[k].toNat : Int) := by omega
            have HF : Hid (Plain.lowB s.data.toList = false) := by
              show _ = _
              rw [HL.out]; exact lowAll_prefix _ (k + 1) (by rw [HS.out]; exact decide_eq_false hc)
            clear hc
            go_wp2
            go_ret
            exact ⟨ret_bool HF.out.symm, rfl⟩
          · have hc2 : (s[k].toNat : Int) < 97 := by omega
            have HF : Hid (Plain.lowB s.data.toList = false) := by
              show _ = _
              rw [HL.out]; exact lowAll_prefix _ (k + 1) (by rw [HS.out]; exact decide_eq_false hc)
            clear hc hc1
            go_wp2
            go_ret
            exact ⟨ret_bool HF.out.symm, rfl⟩
      · have HF : Hid (Plain.lowB s.data.toList = true) := by
          show _ = _
          rw [HL.out, ← hlo, List.take_of_length_le (by simp; omega)]
        clear hlo
        go_wp2
        go_ret
        exact ⟨ret_bool HF.out.symm, rfl⟩

/-- parseDec at two or three digits, the first no zero. -/
theorem val_bound (l : List UInt8) (h : Plain.digitsB l = true) : Plain.val l < 10 ^ l.length := by
  suffices H : ∀ (l : List UInt8) (a : Nat), Plain.digitsB l = true → l.foldl (fun n c => n * 10 + (c.toNat - 48)) a < (a + 1) * 10 ^ l.length by
    have := H l 0 h; simpa [Plain.val] using this
  intro l
  induction l with
  | nil => intro a _; simp
  | cons c l ih =>
    intro a h
    simp only [Plain.digitsB, List.all_cons, Bool.and_eq_true, decide_eq_true_eq] at h
    have := ih (a * 10 + (c.toNat - 48)) h.2
    simp only [List.foldl_cons, List.length_cons]
    have h57 : c.toNat ≤ 57 := by simpa [UInt8.le_iff_toNat_le] using h.1.2
    calc _ < (a * 10 + (c.toNat - 48) + 1) * 10 ^ l.length := this
      _ ≤ ((a + 1) * 10) * 10 ^ l.length := Nat.mul_le_mul_right _ (by omega)
      _ = (a + 1) * 10 ^ (l.length + 1) := by rw [Nat.pow_succ]; rw [Nat.mul_assoc, Nat.mul_comm 10]

theorem digits_at (l : List UInt8) (h : Plain.digitsB l = true) (k : Nat) (hk : k < l.length) : 48 ≤ (l[k].toNat : Int) ∧ (l[k].toNat : Int) ≤ 57 := by
  have := List.all_eq_true.1 h l[k] (List.getElem_mem hk)
  simp only [Bool.and_eq_true, decide_eq_true_eq, UInt8.le_iff_toNat_le] at this
  have h1 : (48 : UInt8).toNat = 48 := rfl
  have h2 : (57 : UInt8).toNat = 57 := rfl
  omega
theorem digits_take (l : List UInt8) (h : Plain.digitsB l = true) (k : Nat) : Plain.digitsB (l.take k) = true :=
  List.all_eq_true.2 fun c hc => List.all_eq_true.1 h c (List.mem_of_mem_take hc)

theorem ret_pair {a b : Int} (h : a = b) : Ending.returned (.tuple #[.int .i64 a, .bool true]) = .returned (.tuple #[.int .i64 b, .bool true]) := by rw [h]

set_option maxHeartbeats 400000 in
theorem parse_any (s : ByteArray) (w : World) (h2 : 2 ≤ s.size) (h3 : s.size ≤ 3) (hd : Plain.digitsB s.data.toList = true) (h0 : (((s[0]'(by omega)).toNat : Int) == 48) = false) :
    Calls Tryd.prog 7 #[.string s] w fun e w' => e = .returned (.tuple #[.int .i64 (Plain.val s.data.toList), .bool true]) ∧ w' = w := by
  have HD : Hid (Plain.digitsB s.data.toList = true) := hd
  clear hd
  have hz : ((s.size : Int) == 0) = false := by simp; intro h; rw [h] at h2; simp at h2
  go_enter Tryd.func7, Tryd.ntmps7
  go_wp2
  go_loop [4, 5] (fun n i => ∃ k : Nat, k ≤ s.size ∧ i = .int .i64 k ∧ n = .int .i64 (Plain.val (s.data.toList.take k))) (fun _ i => s.size - (intOf i).toNat)
  case atStart => exact ⟨0, Nat.zero_le _, rfl, rfl⟩
  case round =>
    obtain ⟨k, hk, rfl, rfl⟩ := hrel
    have hb0 : Plain.val (s.data.toList.take k) < 1000 := by
      have h1 := val_bound _ (digits_take _ HD.out k)
      have h2 : (s.data.toList.take k).length ≤ 3 := by simp; omega
      exact Nat.lt_of_lt_of_le h1 (Nat.pow_le_pow_right (by omega) h2)
    by_cases hlt : k < s.size
    · have hdk := digits_at _ HD.out k (by simpa using hlt)
      have HS : Hid ((Plain.val (s.data.toList.take (k + 1)) : Int) = (Plain.val (s.data.toList.take k) : Int) * 10 + ((s[k].toNat : Int) - 48)) := by
        show _ = _
        rw [take_snoc s k hlt, Plain.val_snoc]
        have : 48 ≤ (s[k].toNat : Int) := hdk.1
        omega
      obtain ⟨hc1, hc2⟩ : 48 ≤ (s[k].toNat : Int) ∧ (s[k].toNat : Int) ≤ 57 := hdk
      go_wp2
      go_round
      case rel => exact ⟨k + 1, by omega, by go_num, by rw [HS.out]⟩
      case measure => simp [intOf]; omega
    · have HE : Hid (s.data.toList.take k = s.data.toList) := List.take_of_length_le (by simp; omega)
      go_wp2
      go_ret2
      exact ⟨ret_pair (by rw [HE.out]), rfl⟩
end Go.Proofs.Qxb6627455aDoor
