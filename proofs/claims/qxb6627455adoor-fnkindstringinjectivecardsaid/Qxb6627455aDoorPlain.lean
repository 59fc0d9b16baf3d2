/-
  THE PLAIN MATHEMATICS of (tree.Kind).String: no Go in sight.
-/
import Derived.Lib.ItoaNum
namespace Go.Proofs.Qxb6627455aDoor.Plain
open Go

/-- The decimal numeral of a number below 1000. -/
def dec3 (n : Nat) : List UInt8 :=
  if n < 10 then [UInt8.ofNat (48 + n)]
  else if n < 100 then [UInt8.ofNat (48 + n / 10), UInt8.ofNat (48 + n % 10)]
  else [UInt8.ofNat (48 + n / 100), UInt8.ofNat (48 + n / 10 % 10), UInt8.ofNat (48 + n % 10)]

theorem dec3_eq (n : Nat) (h : n < 1000) : Lib.decDigits n = dec3 n := by
  unfold dec3
  by_cases h1 : n < 10
  · rw [if_pos h1, Lib.decDigits_one h1]
  · rw [if_neg h1]
    by_cases h2 : n < 100
    · rw [if_pos h2, Lib.decDigits_two h1 h2]
    · rw [if_neg h2, Lib.decDigits, dif_neg h1, Lib.decDigits_two (by omega) (by omega)]
      simp only [List.cons_append, List.nil_append]
      rw [show n / 10 / 10 = n / 100 by omega]

theorem itoa_dec3 (n : Nat) (h : n < 1000) : Lib.itoa (n : Int) = dec3 n := by
  unfold Lib.itoa
  rw [if_neg (by omega), Int.toNat_natCast, dec3_eq n h]

/-- What '(Kind).String' writes. -/
def kindStr (n : Nat) : List UInt8 :=
  match n with
  | 0 => [110, 117, 108, 108]
  | 1 => [98, 111, 111, 108]
  | 2 => [105, 110, 116]
  | 3 => [117, 105, 110, 116]
  | 4 => [102, 108, 111, 97, 116]
  | 5 => [115, 116, 114, 105, 110, 103]
  | 6 => [100, 97, 116, 101]
  | 7 => [108, 97, 110, 103, 117, 97, 103, 101]
  | 8 => [97, 114, 114, 97, 121]
  | 9 => [111, 98, 106, 101, 99, 116]
  | m + 10 => [75, 105, 110, 100, 40] ++ dec3 (m + 10) ++ [41]

theorem kindStr_big (n : Nat) (h : 10 ≤ n) : kindStr n = [75, 105, 110, 100, 40] ++ dec3 n ++ [41] := by
  obtain ⟨m, rfl⟩ : ∃ m, n = m + 10 := ⟨n - 10, by omega⟩
  rfl

/-- A nonempty word of lowercase letters. -/
def lowB (l : List UInt8) : Bool := !l.isEmpty && l.all (fun c => 97 ≤ c && c ≤ 122)

theorem low_fin : ∀ n : Fin 256, lowB (kindStr n.val) = decide (n.val ≤ 9) := by decide +kernel
theorem low_kind (n : Nat) (h : n < 256) : lowB (kindStr n) = decide (n ≤ 9) := low_fin ⟨n, h⟩

/-- The kind behind a text: a left inverse. -/
def unKind (l : List UInt8) : Nat := ((List.range 256).find? fun m => kindStr m == l).getD 0
theorem un_fin : ∀ n : Fin 256, unKind (kindStr n.val) = n.val := by decide +kernel
theorem kind_inj (a b : Nat) (ha : a < 256) (hb : b < 256) (h : kindStr a = kindStr b) : a = b := by
  have h1 := un_fin ⟨a, ha⟩
  have h2 := un_fin ⟨b, hb⟩
  simp only at h1 h2
  rw [← h1, ← h2, h]
theorem len_fin : ∀ n : Fin 256, (kindStr n.val).length ≤ 9 := by decide +kernel
theorem len_kind (n : Nat) (h : n < 256) : (kindStr n).length ≤ 9 := len_fin ⟨n, h⟩

/-- The value of a row of digits. -/
def val (l : List UInt8) : Nat := l.foldl (fun n c => n * 10 + (c.toNat - 48)) 0
theorem val_snoc (l : List UInt8) (c : UInt8) : val (l ++ [c]) = val l * 10 + (c.toNat - 48) := by simp [val]
def digitsB (l : List UInt8) : Bool := l.all (fun c => 48 ≤ c && c ≤ 57)
/-- what parseDec asks of the digits, and what it gives. -/
theorem dec_fin : ∀ n : Fin 256, 10 ≤ n.val → (digitsB (dec3 n.val) && decide (val (dec3 n.val) = n.val) && decide (2 ≤ (dec3 n.val).length) && decide ((dec3 n.val).length ≤ 3) && ((dec3 n.val).getD 0 0 != 48)) = true := by decide +kernel
end Go.Proofs.Qxb6627455aDoor.Plain
