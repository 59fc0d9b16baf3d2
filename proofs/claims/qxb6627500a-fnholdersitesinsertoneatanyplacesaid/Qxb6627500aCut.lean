/-
  THE WALK of FnHolderSitesCutJoinsAndOtherWaitersIgnored (3).
-/
import Derived.Test.Qxb6627500aHolder
import Derived.Test.Qxb6627500aBytes
namespace Go.Proofs.Qxb6627500a
open Go.RowKit

/-- the front of a slice of pairs -/
theorem IsPairs.front {w : World} {a : Option Addr} {n : Nat} {N S : Nat → ByteArray} (h : IsPairs w a n N S) (c : Nat) (hc : c ≤ n) : IsPairs w a c N S := by
  rcases h with h | ⟨b, off, ha, hlt, hcell⟩
  · exact .inl (by omega)
  · exact .inr ⟨b, off, ha, hlt, fun i hi => hcell i (by omega)⟩
theorem size22 (w : World) : (sizeOf (Try.prog.elem 22)).run Try.prog w = .ok 2 w := by kernel_rfl
theorem elem22 : Try.prog.underlying 22 = some (.slice (Try.prog.elem 22)) := by kernel_rfl
/-- the slice from c on -/
theorem slice_from (a : Option Addr) (n cap c : Nat) (hc : c ≤ n) (hn : n ≤ cap) : ∃ a2, (∀ w, (Instr.slice 22 (.slice a n cap) (some (.int .i64 c)) none none).run Try.prog w = .ok (.slice a2 (n - c) (cap - c)) w) ∧
    ∀ w N S, IsPairs w a n N S → IsPairs w a2 (n - c) (fun i => N (c + i)) (fun i => S (c + i)) := by
  refine ⟨if cap = c then a else a.map (·.add (c * 2)), fun w => ?_, fun w N S h => ?_⟩
  · rw [run_slice_l (P := Try.prog) (w := w) 22 a n cap elem22 .i64 (c : Int) (by omega) (by omega), size22]
    simp [Result.andThen, sliced]
  · rcases h with h | ⟨b, off, ha, hlt, hcell⟩
    · exact .inl (by omega)
    · by_cases h0 : n - c = 0
      · exact .inl h0
      · subst ha
        rw [if_neg (by omega)]
        refine .inr ⟨b, off + c * 2, by simp [Addr.add], hlt, fun i hi => ?_⟩
        obtain ⟨h1, h2⟩ := hcell (c + i) (by omega)
        rw [show off + c * 2 + i * 2 = off + (c + i) * 2 by omega]
        exact ⟨h1, h2⟩
/-- the slice up to c -/
theorem slice_to (a : Option Addr) (n cap c : Nat) (hc : c ≤ n) (hn : n ≤ cap) : ∃ a2, (∀ w, (Instr.slice 22 (.slice a n cap) none (some (.int .i64 c)) none).run Try.prog w = .ok (.slice a2 c cap) w) ∧
    ∀ w N S, IsPairs w a n N S → IsPairs w a2 c N S := by
  refine ⟨if cap = 0 then a else a.map (·.add (0 * 2)), fun w => ?_, fun w N S h => ?_⟩
  · rw [run_slice_h (P := Try.prog) (w := w) 22 a n cap elem22 .i64 (c : Int) (by omega) (by omega), size22]
    simp [Result.andThen, sliced]
  · rcases h with h | ⟨b, off, ha, hlt, hcell⟩
    · exact .inl (by omega)
    · by_cases h0 : c = 0
      · exact .inl h0
      · subst ha
        rw [if_neg (by omega)]
        exact .inr ⟨b, off, by simp [Addr.add], hlt, fun i hi => hcell i (by omega)⟩

theorem len_of {N S : Nat → ByteArray} {h : ByteArray} {k m : Nat} {F : Nat → ByteArray} (e : Hid (sites N S h k = (List.range m).map F)) : m = cnt N h k := by
  have := congrArg List.length e.out
  rw [sites_length] at this
  simpa using this.symm
/-- an element of a slice of strings: its address, its cell. -/
theorem IsStrs.elem {w : World} {a : Option Addr} {n : Nat} {F : Nat → ByteArray} (h : IsStrs w a n F) {k : Nat} (hk : k < n) (cap : Nat) :
    ∃ b off, b < w.heap.size ∧ w.cell? ⟨b, off, none⟩ = some (.string (F k)) ∧ ∀ w', (Instr.indexAt 25 (.slice a n cap) (.int .i64 k)).run Try.prog w' = .ok (.pointer (some ⟨b, off, none⟩)) w' := by
  rcases h with h | ⟨b, off, ha, hlt, hcell⟩
  · omega
  · subst ha
    refine ⟨b, off + k, hlt, hcell k hk, fun w' => ?_⟩
    rw [run_indexAt_slice (P := Try.prog) (w := w') 25 ⟨b, off, none⟩ n cap .i64 k (by kernel_rfl)]
    have hz : (sizeOf (Try.prog.elem 25)).run Try.prog w' = .ok 1 w' := by kernel_rfl
    rw [if_pos (by omega), hz]
    simp [Result.andThen, Addr.add]
/-- the whole list is the two parts -/
theorem sites_cut (N S : Nat → ByteArray) (h : ByteArray) (n c : Nat) (hc : c ≤ n) : sites N S h n = sites N S h c ++ sites (fun i => N (c + i)) (fun i => S (c + i)) h (n - c) := by
  unfold sites
  have e : List.range n = List.range c ++ (List.range (n - c)).map (c + ·) := by
    rw [← List.range_add, show c + (n - c) = n by omega]
  rw [e, List.filter_append, List.map_append, List.filter_map, List.map_map]
  rfl
def str (F : Nat → ByteArray) (k : Nat) : List Value := ((List.range k).map F).map Value.string
theorem str_succ (F : Nat → ByteArray) (k : Nat) : str F (k + 1) = str F k ++ [.string (F k)] := by simp [str, List.range_succ]
theorem str_zero (F : Nat → ByteArray) : str F 0 = [] := rfl
theorem below_one {B : Nat} {w wr w2 : World} {o1 : Obj} {e : TypeId} {size : Nat} {v : Value} {n : Nat} {xs : List Value} (hbel : Below B w wr) (hB : B ≤ wr.heap.size) (hown : wr.ownsRow B e size v n xs)
    (hg : (wr.alloc o1).grownBy w2 v.ownBlock) : Below B w w2 := by
  refine (hbel.alloc hB _).grown hg ?_ (fun j hj => own_ge hown hj)
  show B ≤ (wr.heap.push o1).size; simp; omega

set_option maxHeartbeats 2000000 in
theorem cut_walk (wt hd ot : ByteArray) (a a' : Option Addr) (n cap n' cap' : Nat) (N S N' S' : Nat → ByteArray) (q : Int) (w : World) (hs : wt.size ≤ maxLen) (hs' : ot.size ≤ maxLen)
    (hp : IsPairs w a n N S) (hn : n ≤ 4398046511104) (hncap : n ≤ cap) (hp' : IsPairs w a' n' N' S') (hn' : n' ≤ 4398046511104) :
    Calls Try.prog 3 #[.string wt, .string hd, .slice a n cap, .int .i64 q, .string ot, .slice a' n' cap'] w fun e w' => e = .returned (.bool true) ∧ Below w.heap.size w w' := by
  go_enter Try.func3, Try.ntmps3
  go_wp2_with fail
  refine (zz5 wt hd ot a a' n cap n' cap' N S N' S' q w hp hn hp' hn').mono ?_
  rintro e w0 ⟨⟨b0, rfl⟩, rfl⟩
  cases b0
  · go_wp2
    go_ret
    exact ⟨rfl, Below.refl _ _⟩
  by_cases h1 : 1048576 < (wt.size : Int)
  · go_wp2
    go_ret
    exact ⟨rfl, Below.refl _ _⟩
  by_cases h2 : 1048576 < (hd.size : Int)
  · go_wp2
    go_ret
    exact ⟨rfl, Below.refl _ _⟩
  by_cases h3 : 1048576 < (ot.size : Int)
  · go_wp2
    go_ret
    exact ⟨rfl, Below.refl _ _⟩
  by_cases h4 : 1048576 < (wt.size : Int) + hd.size + ot.size
  · go_wp2
    go_ret
    exact ⟨rfl, Below.refl _ _⟩
  go_wp2_with fail
  refine (add_any _ a n cap N S _ hp hn).mono ?_
  rintro e w1 ⟨⟨r1, rfl⟩, hb1⟩
  by_cases h5 : 1048576 < r1
  · go_wp2
    go_ret
    exact ⟨rfl, hb1⟩
  go_wp2_with fail
  refine (add_any _ a' n' cap' N' S' _ (hp'.below hb1 (Nat.le_refl _)) hn').mono ?_
  rintro e w2 ⟨⟨r2, rfl⟩, hb2⟩
  have hb := hb1.trans (hb2.mono hb1.size)
  clear hb1 hb2
  by_cases h6 : 1048576 < r2
  · go_wp2
    go_ret
    exact ⟨rfl, hb⟩
  by_cases h7 : q < 0
  · go_wp2
    go_ret
    exact ⟨rfl, hb⟩
  by_cases h8 : (n : Int) < q
  · go_wp2
    go_ret
    exact ⟨rfl, hb⟩
  obtain ⟨c, rfl⟩ : ∃ c : Nat, q = c := ⟨q.toNat, by omega⟩
  have hcn : c ≤ n := by omega
  obtain ⟨af, hf1, hf2⟩ := slice_to a n cap c hcn hncap
  obtain ⟨ab, hk1, hk2⟩ := slice_from a n cap c hcn hncap
  have hpb := hp.below hb (Nat.le_refl _)
  have hpb' := hp'.below hb (Nat.le_refl _)
  go_wp2_with fail
  clear h1 h2 h3 h4 h5 h6 h7 h8
  refine (sitetwo wt ot a a' n cap n' cap' N S N' S' w2 hs hs' hpb hn hpb' hn').mono ?_
  rintro e w3 ⟨⟨B1, rfl, hS1⟩, hb3⟩
  have hb03 := hb.trans (hb3.mono hb.size)
  go_wp2_with fail
  refine (holder B1 wt hd n N S w3 hS1 hn).mono ?_
  rintro e w4 ⟨⟨a4, c4, m4, F4, rfl, hs4, e4⟩, hb4⟩
  have hb04 := hb03.trans (hb4.mono hb03.size)
  clear hS1 hb3 hb4 hb03 hb hpb hpb'
  go_wp2_with fail
  refine (siteof wt af c cap N S w4 hs (hf2 _ _ _ (hp.below hb04 (Nat.le_refl _))) (by omega)).mono ?_
  rintro e w5 ⟨⟨B5, rfl, hS5⟩, hb5⟩
  have hb05 := hb04.trans (hb5.mono hb04.size)
  go_wp2_with fail
  refine (holder B5 wt hd c N S w5 hS5 (by omega)).mono ?_
  rintro e w6 ⟨⟨a6, c6, m6, F6, rfl, hs6, e6⟩, hb6⟩
  have hb06 := hb05.trans (hb6.mono hb05.size)
  have hb46 := hb5.trans (hb6.mono hb5.size)
  have hs46 := hs4.below hb46 (Nat.le_refl _)
  clear hS5 hb5 hb6 hb05 hb46 hs4 hb04
  go_wp2_with fail
  refine (siteof wt ab (n - c) (cap - c) (fun i => N (c + i)) (fun i => S (c + i)) w6 hs (hk2 _ _ _ (hp.below hb06 (Nat.le_refl _))) (by omega)).mono ?_
  rintro e w7 ⟨⟨B7, rfl, hS7⟩, hb7⟩
  have hb07 := hb06.trans (hb7.mono hb06.size)
  go_wp2_with fail
  refine (holder B7 wt hd (n - c) (fun i => N (c + i)) (fun i => S (c + i)) w7 hS7 (by omega)).mono ?_
  rintro e w8 ⟨⟨a8, c8, m8, F8, rfl, hs8, e8⟩, hb8⟩
  have hb08 := hb07.trans (hb8.mono hb07.size)
  have hb68 := hb7.trans (hb8.mono hb7.size)
  have hs48 := hs46.below hb68 (Nat.le_refl _)
  have hs68 := hs6.below hb68 (Nat.le_refl _)
  have l4 : m4 ≤ n := by rw [len_of e4]; exact cnt_le _ _ _
  have l6 : m6 ≤ c := by rw [len_of e6]; exact cnt_le _ _ _
  have l8 : m8 ≤ n - c := by rw [len_of e8]; exact cnt_le _ _ _
  have hcat : Hid ((List.range m4).map F4 = (List.range m6).map F6 ++ (List.range m8).map F8) := by
    show _ = _
    rw [← e4.out, ← e6.out, ← e8.out]; exact sites_cut N S hd n c hcn
  have hcnt : Hid (m4 = cnt N hd n) := len_of e4
  clear hS7 hb7 hb8 hb07 hb68 hs46 hs6 hb06 hf1 hf2 hk1 hk2 e4 e6 e8
  obtain ⟨i0, hi, hz0, hz1, hz2⟩ := info_parts Try.info9
  go_wp2_with (at_make; refine wpList_make_own _ rfl _ _ 25 rfl w8.heap.size 9 i0 _ 1 Try.underlying25 hi hz0 hz1 .i64 .i64 _ (m6 + m8) rfl rfl (by omega) (by rw [hz2]; omega) (by unfold maxLen; omega) (Nat.le_refl _) ?_; intro w9 hown9 hg9)
  have hb9 : Below w8.heap.size w8 w9 := (Below.refl _ _).grown hg9 (Nat.le_refl _) (fun _ h => by cases h)
  clear hg9
  go_loopw [17, 18] (fun v i wr => ∃ k : Nat, k ≤ m6 ∧ i = .int .i64 k ∧ wr.ownsRow w8.heap.size 9 1 v k (str F6 k) ∧ Below w8.heap.size w8 wr) (fun _ i _ => m6 - (intOf i).toNat)
  case atStart => exact ⟨0, Nat.zero_le _, rfl, hown9, hb9⟩
  case round =>
    obtain ⟨k, hk, rfl, hown, hbel⟩ := hrel
    clear hown9 hb9
    by_cases hkn : k < m6
    · obtain ⟨be, oe, hlte, hce, hix⟩ := hs68.elem hkn c6
      have hce2 := (hbel.cell (p := ⟨be, oe, none⟩) hlte).trans hce
      have hws := hbel.size
      go_wp2_with (at_builtin; refine wpList_append_own _ rfl _ _ 25 rfl w8.heap.size 9 i0 _ 1 16 Try.underlying25 hi hz0 hz1 hz2 rfl (by decide) _ _ _ rfl (hown.alloc _) ⟨wr.heap.size, 0, none⟩ 1 1 [.string (F6 k)] rfl rfl ?c1 ?c2 ?c3 ?c4 ?c5 ?_)
      case c1 => exact cell_one_new _ _ _
      case c2 => intro u hu; simp at hu; subst hu; rfl
      case c3 => unfold maxLen; omega
      case c4 => omega
      case c5 => simp; omega
      · intro v' w1 hown' hgrow _
        have hb1 := below_one hbel hws hown hgrow
        rw [← str_succ] at hown'
        clear hgrow hown hix hce hce2
        go_wp2
        go_roundw
        case rel => exact ⟨k + 1, by omega, by go_num, hown', hb1⟩
        case measure => simp [intOf]; omega
    · have hown6 : wr.ownsRow w8.heap.size 9 1 u17 m6 (str F6 m6) := by
        obtain rfl : k = m6 := by omega
        exact hown
      clear hown hs68
      go_wp2
      go_loopw [17, 19] (fun v i wr => ∃ k : Nat, k ≤ m8 ∧ i = .int .i64 k ∧ wr.ownsRow w8.heap.size 9 1 v (m6 + k) (str F6 m6 ++ str F8 k) ∧ Below w8.heap.size w8 wr) (fun _ i _ => m8 - (intOf i).toNat)
      case atStart => exact ⟨0, Nat.zero_le _, rfl, by rw [str_zero, List.append_nil]; exact hown6, hbel⟩
      case round =>
        clear hown6 hbel
        obtain ⟨j, hj, rfl, hown, hbel⟩ := hrel
        have hws := hbel.size
        by_cases hjn : j < m8
        · obtain ⟨be, oe, hlte, hce, hix⟩ := hs8.elem hjn c8
          have hce2 := (hbel.cell (p := ⟨be, oe, none⟩) hlte).trans hce
          go_wp2_with (at_builtin; refine wpList_append_own _ rfl _ _ 25 rfl w8.heap.size 9 i0 _ 1 16 Try.underlying25 hi hz0 hz1 hz2 rfl (by decide) _ _ _ rfl (hown.alloc _) ⟨_, 0, none⟩ 1 1 [.string (F8 j)] rfl rfl ?d1 ?d2 ?d3 ?d4 ?d5 ?_)
          case d1 => exact cell_one_new _ _ _
          case d2 => intro u hu; simp at hu; subst hu; rfl
          case d3 => unfold maxLen; omega
          case d4 => omega
          case d5 => simp; omega
          · intro v' w1 hown' hgrow _
            have hb1 := below_one hbel hws hown hgrow
            have hown2 : w1.ownsRow w8.heap.size 9 1 v' (m6 + (j + 1)) (str F6 m6 ++ str F8 (j + 1)) := by
              rw [str_succ, ← Nat.add_assoc, ← List.append_assoc]; simpa using hown'
            clear hown' hgrow hown hix hce hce2
            go_wp2
            go_roundw
            case rel => exact ⟨j + 1, by omega, by go_num, hown2, hb1⟩
            case measure => simp [intOf]; omega
        · obtain rfl : j = m8 := by omega
          have hm : m4 = m6 + j := by
            have := congrArg List.length hcat.out
            simpa using this
          have HX := hown
          rw [show str F6 m6 ++ str F8 j = ((List.range m4).map F4).map Value.string by rw [hcat.out, List.map_append]; rfl, ← hm] at HX
          obtain ⟨aj, cj, hvj, hsj⟩ := strs_of_row HX
          subst hvj
          have heq : ((m4 : Int) == ((cnt N hd n : Nat) : Int)) = true := by rw [hcnt.out]; simp
          have hbx := hb08.trans (hbel.mono hb08.size)
          have hs4x := hs48.below hbel (Nat.le_refl _)
          have hpx := hp'.below hbx (Nat.le_refl _)
          clear HX hown hcat hm hs48 hs8 hbel hcnt
          go_wp2_with fail
          refine (sitewithout wt ot a' n' cap' N' S' _ hs hs' hpx hn').mono ?_
          rintro e w10 ⟨⟨B10, rfl, hS10⟩, hb10⟩
          go_wp2_with fail
          refine (holder B10 wt hd 0 N' S' w10 hS10 (by omega)).mono ?_
          rintro e w11 ⟨⟨a11, c11, m11, F11, rfl, hs11, e11⟩, hb11⟩
          obtain rfl : m11 = 0 := len_of e11
          have hb1011 := hb10.trans (hb11.mono hb10.size)
          have hb0x := hbx.trans (hb1011.mono hbx.size)
          have hs4y := hs4x.below hb1011 (Nat.le_refl _)
          have hsjy := hsj.below hb1011 (Nat.le_refl _)
          clear hS10 hb10 hb11 hb1011 hs4x hsj e11 hs11 hpx hbx
          go_wp2_with fail
          refine (same_true a4 aj m4 c4 cj F4 w11 hs4y hsjy (by omega)).mono ?_
          rintro e w12 ⟨rfl, hb12⟩
          have hbz := hb0x.trans (hb12.mono hb0x.size)
          have hpz := hp.below hbz (Nat.le_refl _)
          go_wp2_with fail
          refine (count_any a n cap N S hd w12 hpz hn).mono ?_
          rintro e w13 ⟨rfl, rfl⟩
          go_wp2
          go_ret
          exact ⟨rfl, hbz⟩
end Go.Proofs.Qxb6627500a
