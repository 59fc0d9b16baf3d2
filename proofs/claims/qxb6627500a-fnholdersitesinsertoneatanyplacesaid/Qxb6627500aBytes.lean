/-
  THE WALKS of the two gates zzBytes_.. (5, 13): each answers some bool; nothing that was there turns.
-/
import Derived.Test.Qxb6627500aReads
namespace Go.Proofs.Qxb6627500a
open Go.RowKit

set_option maxHeartbeats 1000000 in
theorem zz13 (wt hd : ByteArray) (a : Option Addr) (n cap : Nat) (N S : Nat → ByteArray) (q : Int) (p0 p1 : ByteArray) (w : World) (hp : IsPairs w a n N S) (hn : n ≤ 4398046511104) :
    Calls Try.prog 13 #[.string wt, .string hd, .slice a n cap, .int .i64 q, .agg #[.string p0, .string p1]] w fun e w' => SomeBool e ∧ Below w.heap.size w w' := by
  have hB : ∀ o, Below w.heap.size w (w.alloc o) := fun o => (Below.refl _ _).alloc (Nat.le_refl _) _
  rcases hp with h0 | ⟨b, off, rfl, hlt, hc⟩
  all_goals
    go_enter Try.func13, Try.ntmps13
    go_wp2
    all_goals try (go_ret; exact ⟨⟨_, rfl⟩, hB _⟩)
    go_loop [11, 12] (fun x i => ∃ (k : Nat) (r : Int), k ≤ n ∧ i = .int .i64 k ∧ x = .int .i64 r ∧ 0 ≤ r ∧ r ≤ 1048576) (fun _ i => n - (intOf i).toNat)
    case atStart => exact ⟨0, _, Nat.zero_le _, rfl, rfl, by omega, by omega⟩
    case round =>
      obtain ⟨k, r, hk, rfl, rfl, hr0, hr1⟩ := hrel
      by_cases hkn : k < n
      · first
        | (exfalso; omega)
        | (have h1 := ((hB (.cells #[.string p0, .string p1] 34)).cell (p := ⟨b, off + k * 2, none⟩) (by assumption)).trans (hc k hkn).1
           have h2 := ((hB (.cells #[.string p0, .string p1] 34)).cell (p := ⟨b, off + k * 2 + 1, none⟩) (by assumption)).trans (hc k hkn).2
           clear hc
           go_wp2
           all_goals first
            | (go_ret; exact ⟨⟨_, rfl⟩, hB _⟩)
            | (go_round
               case rel => exact ⟨k + 1, _, by omega, by go_num, rfl, by omega, by omega⟩
               case measure => simp [intOf]; omega))
      · go_wp2
        all_goals (go_ret; exact ⟨⟨_, rfl⟩, hB _⟩)

set_option maxHeartbeats 2000000 in
theorem zz5 (wt hd ot : ByteArray) (a a' : Option Addr) (n cap n' cap' : Nat) (N S N' S' : Nat → ByteArray) (q : Int) (w : World) (hp : IsPairs w a n N S) (hn : n ≤ 4398046511104) (hp' : IsPairs w a' n' N' S') (hn' : n' ≤ 4398046511104) :
    Calls Try.prog 5 #[.string wt, .string hd, .slice a n cap, .int .i64 q, .string ot, .slice a' n' cap'] w fun e w' => SomeBool e ∧ w' = w := by
  rcases hp with h0 | ⟨b, off, rfl, hlt, hc⟩ <;> rcases hp' with h0' | ⟨b', off', rfl, hlt', hc'⟩
  all_goals
    go_enter Try.func5, Try.ntmps5
    go_wp2
    all_goals try (go_ret; exact ⟨⟨_, rfl⟩, rfl⟩)
    go_loop [13, 14] (fun x i => ∃ (k : Nat) (r : Int), k ≤ n ∧ i = .int .i64 k ∧ x = .int .i64 r ∧ 0 ≤ r ∧ r ≤ 1048576) (fun _ i => n - (intOf i).toNat)
    case atStart => exact ⟨0, _, Nat.zero_le _, rfl, rfl, by omega, by omega⟩
    case round =>
      obtain ⟨k, r, hk, rfl, rfl, hr0, hr1⟩ := hrel
      by_cases hkn : k < n
      · first
        | (exfalso; omega)
        | (have h1 := (hc k hkn).1
           have h2 := (hc k hkn).2
           clear hc
           go_wp2
           all_goals first
            | (go_ret; exact ⟨⟨_, rfl⟩, rfl⟩)
            | (go_round
               case rel => exact ⟨k + 1, _, by omega, by go_num, rfl, by omega, by omega⟩
               case measure => simp [intOf]; omega))
      · go_wp2
        all_goals try (go_ret; exact ⟨⟨_, rfl⟩, rfl⟩)
        go_loop [13, 15] (fun x i => ∃ (k : Nat) (r : Int), k ≤ n' ∧ i = .int .i64 k ∧ x = .int .i64 r ∧ 0 ≤ r ∧ r ≤ 1048576) (fun _ i => n' - (intOf i).toNat)
        case atStart => exact ⟨0, _, Nat.zero_le _, rfl, rfl, by omega, by omega⟩
        case round =>
          obtain ⟨k', r', hk', rfl, rfl, hr0', hr1'⟩ := hrel
          by_cases hkn' : k' < n'
          · first
            | (exfalso; omega)
            | (have h1' := (hc' k' hkn').1
               have h2' := (hc' k' hkn').2
               clear hc'
               go_wp2
               all_goals first
                | (go_ret; exact ⟨⟨_, rfl⟩, rfl⟩)
                | (go_round
                   case rel => exact ⟨k' + 1, _, by omega, by go_num, rfl, by omega, by omega⟩
                   case measure => simp [intOf]; omega))
          · go_wp2
            all_goals (go_ret; exact ⟨⟨_, rfl⟩, rfl⟩)
end Go.Proofs.Qxb6627500a
