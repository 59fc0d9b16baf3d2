/-
  THE WALK of (*Site).HolderSites (8).
-/
import Derived.Test.Qxb6627500aSites
namespace Go.Proofs.Qxb6627500a
open Go.RowKit

/-- the sites of the first k entries that are named h, in order. -/
def sites (N S : Nat → ByteArray) (h : ByteArray) (k : Nat) : List ByteArray := ((List.range k).filter (hit N h)).map S
theorem sites_length (N S : Nat → ByteArray) (h : ByteArray) (k : Nat) : (sites N S h k).length = cnt N h k := by simp [sites, cnt]
theorem sites_hit (N S : Nat → ByteArray) (h : ByteArray) (k : Nat) (hh : hit N h k = true) : sites N S h (k + 1) = sites N S h k ++ [S k] := by
  simp [sites, List.range_succ, List.filter_append, hh]
theorem sites_miss (N S : Nat → ByteArray) (h : ByteArray) (k : Nat) (hh : hit N h k = false) : sites N S h (k + 1) = sites N S h k := by
  simp [sites, List.range_succ, List.filter_append, hh]

theorem Try.info9 : (Try.prog.info? 9).map (fun i => (i.zero, i.size, i.bytes)) = some (some (.string ByteArray.empty), 1, 16) := by kernel_rfl

/-- it returns a slice of the strings l: m of them, F i. -/
def RetStrs (e : Ending) (w : World) (l : List ByteArray) : Prop := ∃ a cap m F, e = .returned (.slice a m cap) ∧ IsStrs w a m F ∧ Hid (l = (List.range m).map F)
theorem range_getD (l : List ByteArray) : l = (List.range l.length).map (fun i => l.getD i ByteArray.empty) := by
  apply List.ext_getElem?
  intro i
  by_cases h : i < l.length
  · rw [List.getElem?_map, List.getElem?_range h, List.getElem?_eq_getElem h]
    simp [List.getD_eq_getElem?_getD, List.getElem?_eq_getElem h]
  · rw [List.getElem?_eq_none (by omega), List.getElem?_eq_none (by simp; omega)]
/-- a row that the call owns, as a slice of strings -/
theorem strs_of_row {w : World} {base : Nat} {v : Value} {m : Nat} {F : Nat → ByteArray} {e : TypeId} (h : w.ownsRow base e 1 v m (((List.range m).map F).map Value.string)) : ∃ a cap, v = .slice a m cap ∧ IsStrs w a m F := by
  rcases h.2 with ⟨rfl, h0⟩ | ⟨g, cap, cur, rfl, hb, hg, h1, h2, h3, h4⟩
  · exact ⟨none, 0, by rw [h0], .inl h0⟩
  · refine ⟨_, _, rfl, .inr ⟨g, 0, rfl, ?_, fun i hi => ?_⟩⟩
    · rcases Nat.lt_or_ge g w.heap.size with hlt | hge
      · exact hlt
      · rw [Array.getElem?_eq_none hge] at hg; cases hg
    · have hj : (((List.range m).map F).map Value.string)[i]? = some (.string (F i)) := by
        rw [List.getElem?_map, List.getElem?_map, List.getElem?_range hi]; rfl
      rw [← h4, Nat.mul_one, List.getElem?_take, if_pos hi] at hj
      simp only [World.cell?, hg, Nat.zero_add]; simpa using hj
theorem strs_of_owns {w : World} {base : Nat} {v : Value} {l : List ByteArray} {e : TypeId} {m : Nat} (h : w.ownsRow base e 1 v m (l.map Value.string)) (hm : m = l.length) : RetStrs (.returned v) w l := by
  subst hm
  rw [range_getD l] at h
  simp only [List.length_map, List.length_range] at h
  obtain ⟨a, cap, rfl, hs⟩ := strs_of_row h
  exact ⟨a, cap, _, _, rfl, hs, range_getD l⟩

theorem below_two' {B : Nat} {w wr w2 : World} {o1 o2 : Obj} {e : TypeId} {size : Nat} {v : Value} {n : Nat} {xs : List Value} (hbel : Below B w wr) (hB : B ≤ wr.heap.size) (hown : wr.ownsRow B e size v n xs)
    (hg : ((wr.alloc o1).alloc o2).grownBy w2 v.ownBlock) : Below B w w2 := by
  refine ((hbel.alloc hB _).alloc ?_ _).grown hg ?_ (fun j hj => own_ge hown hj)
  · show B ≤ (wr.heap.push o1).size; simp; omega
  · show B ≤ ((wr.heap.push o1).push o2).size; simp; omega

set_option maxHeartbeats 1000000 in
theorem holder (B : Nat) (wt h : ByteArray) (n : Nat) (N S : Nat → ByteArray) (w : World) (hs : SiteHas w B wt n N S) (hn : n ≤ 4398046511104) :
    Calls Try.prog 8 #[.pointer (some ⟨B, 0, none⟩), .string wt, .string h] w fun e w' => RetStrs e w' (sites N S h n) ∧ Below w.heap.size w w' := by
  obtain ⟨bm, a, cap, hcell, hlook, hp⟩ := hs
  obtain ⟨i0, hi, hz0, hz1, hz2⟩ := info_parts Try.info9
  rcases hp with rfl | ⟨b, off, rfl, hlt, hc⟩
  · go_enter Try.func8, Try.ntmps8
    go_wp2
    go_loopw [7, 17] (fun v i wr => i = .int .i64 0 ∧ v = .slice none 0 0 ∧ wr = w) (fun _ _ _ => 0)
    case atStart => exact ⟨rfl, rfl, rfl⟩
    case round =>
      obtain ⟨rfl, rfl, rfl⟩ := hrel
      go_wp2
      go_ret
      exact ⟨⟨none, 0, 0, fun _ => ByteArray.empty, rfl, .inl rfl, rfl⟩, Below.refl _ _⟩
  · go_enter Try.func8, Try.ntmps8
    go_wp2
    clear hlook hcell
    go_loopw [7, 17] (fun v i wr => ∃ k : Nat, k ≤ n ∧ i = .int .i64 k ∧ wr.ownsRow w.heap.size 9 1 v (cnt N h k) ((sites N S h k).map Value.string) ∧ Below w.heap.size w wr) (fun _ i _ => n - (intOf i).toNat)
    case atStart => exact ⟨0, Nat.zero_le _, rfl, World.ownsRow_nil _ _ _ _, Below.refl _ _⟩
    case round =>
      obtain ⟨k, hk, rfl, hown, hbel⟩ := hrel
      by_cases hkn : k < n
      · have h1 := (hbel.cell (p := ⟨b, off + k * 2, none⟩) (by assumption)).trans (hc k hkn).1
        have h2 := (hbel.cell (p := ⟨b, off + k * 2 + 1, none⟩) (by assumption)).trans (hc k hkn).2
        have hcl := cnt_le N h k
        have hws := hbel.size
        clear hc
        cases hh : ((N k).toList == h.toList)
        · have HH : Hid (hit N h k = false) := hh
          go_wp2
          go_roundw
          case rel => exact ⟨k + 1, by omega, by go_num, by rw [sites_miss _ _ _ _ HH.out, cnt_succ, HH.out]; exact hown.alloc _, hbel.alloc hws _⟩
          case measure => simp [intOf]; omega
        · have HH : Hid (hit N h k = true) := hh
          go_wp2_with (at_builtin; refine wpList_append_own _ rfl _ _ 25 rfl w.heap.size 9 i0 _ 1 16 Try.underlying25 hi hz0 hz1 hz2 rfl (by decide) _ _ _ rfl ((hown.alloc _).alloc _) ⟨wr.heap.size + 1, 0, none⟩ 1 1 [.string (S k)] rfl rfl ?c1 ?c2 ?c3 ?c4 ?c5 ?_)
          case c1 => exact World.news_of_block (w := (wr.alloc _).alloc _) (cs := #[.string (S k)]) (t := 9) (fr := (0, 0)) (heap_two wr _ _)
          case c2 => intro u hu; simp at hu; subst hu; rfl
          case c3 => unfold maxLen; omega
          case c4 => omega
          case c5 => simp; omega
          · intro v' w1 hown' hgrow _
            have hb1 : Below w.heap.size w w1 := below_two' hbel hws hown hgrow
            have HO : wr.heap.size ≤ wr.heap.size ∧ w1.ownsRow w.heap.size 9 1 v' (cnt N h (k + 1)) ((sites N S h (k + 1)).map Value.string) := by
              refine ⟨Nat.le_refl _, ?_⟩
              rw [sites_hit _ _ _ _ HH.out, cnt_succ, HH.out, List.map_append]; exact hown'
            clear hown' hgrow hown h1 h2
            go_wp2
            go_roundw
            case rel => exact ⟨k + 1, by omega, by go_num, HO.2, hb1⟩
            case measure => simp [intOf]; omega
      · have HR := strs_of_owns hown (sites_length _ _ _ _).symm
        have HE : Hid (k = n) := by show _ = _; omega
        go_wp2
        go_ret
        rw [← HE.out]
        exact ⟨HR, hbel⟩
end Go.Proofs.Qxb6627500a
