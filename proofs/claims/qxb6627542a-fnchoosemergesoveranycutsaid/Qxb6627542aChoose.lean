/-
  THE WALK of Choose (6).
-/
import Derived.Test.Qxb6627542aIndexes
import Derived.Test.Qxb6627542aInv
namespace Go.Proofs.Qxb6627542a
open Go.RowKit Plain

/-- A SLICE OF KEYS (n of them: K i). -/
def IsKeys (w : World) (a : Option Addr) (n : Nat) (K : Nat → Int) : Prop :=
  n = 0 ∨ ∃ b off, a = some ⟨b, off, none⟩ ∧ b < w.heap.size ∧ ∀ i, i < n → w.cell? ⟨b, off + i, none⟩ = some (.int .u64 (K i))
theorem IsKeys.below {w w' : World} {a : Option Addr} {n : Nat} {K : Nat → Int} (h : IsKeys w a n K) (hb : Below w.heap.size w w') : IsKeys w' a n K := by
  rcases h with h | ⟨b, off, ha, hlt, hc⟩
  · exact .inl h
  · exact .inr ⟨b, off, ha, Nat.lt_of_lt_of_le hlt hb.size, fun i hi => (hb.cell (p := ⟨b, off + i, none⟩) hlt).trans (hc i hi)⟩
/-- the ranks of the keys for a seed -/
def ranks (s : Int) (K : Nat → Int) (i : Nat) : Int := rk s (K i)
/-- what Choose answers, as numbers -/
def answer (s : Int) (K : Nat → Int) (n : Nat) (k : Int) : List Int := (tops (ranks s K) n k).map (fun i : Nat => (i : Int))

theorem ret_row {w : World} {b n : Nat} {l : List Int} (h : w.rowIs b 3 n (fun i => .int .i64 (l.getD i 0))) (hn : l.length = n) : RetInts (.returned (.slice (some ⟨b, 0, none⟩) n n)) w l :=
  ⟨some ⟨b, 0, none⟩, n, n, fun i => l.getD i 0, rfl, .inr ⟨b, 0, rfl, h.lt, fun i hi => by rw [Nat.zero_add]; exact h.cell hi⟩, by rw [← hn]; exact range_getD l⟩

theorem range_at (n j : Nat) (hj : j < n) : ((List.range n).map (fun i : Nat => (i : Int))).getD j 0 = (j : Int) := by
  rw [List.getD_eq_getElem?_getD, List.getElem?_map, List.getElem?_range hj]; rfl

set_option maxHeartbeats 1000000 in
theorem choose_all (s : Int) (a : Option Addr) (n cap : Nat) (K : Nat → Int) (k : Int) (w : World) (hn : n ≤ 4096) (hk : (n : Int) ≤ k) :
    Calls Try.prog 6 #[.int .u64 s, .slice a n cap, .int .i64 k] w fun e w' => RetInts e w' (answer s K n k) ∧ Below w.heap.size w w' := by
  have ha : answer s K n k = (List.range n).map (fun i : Nat => (i : Int)) := by unfold answer; rw [tops_all _ _ _ hk]
  rw [ha]
  clear ha
  have hmk := run_make_row' (P := Try.prog) 25 3 (.int .i64 0) 8 Try.underlying25 Try.info3 rfl .i64 .i64 n (by omega) (by omega)
  have hb0 : Below w.heap.size w (w.alloc (.cells (madeCells #[.int .i64 0] n) 3)) := (Below.refl _ _).alloc (Nat.le_refl _) _
  have hr0 : (w.alloc (.cells (madeCells #[.int .i64 0] n) 3)).rowIs w.heap.size 3 n (fun j => .int .i64 (if j < 0 then (j : Int) else 0)) := (World.rowIs_made w (.int .i64 0) n 3).congr (fun i _ => by simp)
  go_enter Try.func6, Try.ntmps6
  go_wp2
  clear hmk
  go_loopw [22] (fun i wr => ∃ t : Nat, t ≤ n ∧ i = .int .i64 t ∧ wr.rowIs w.heap.size 3 n (fun j => .int .i64 (if j < t then (j : Int) else 0)) ∧ Below w.heap.size w wr) (fun i _ => n - (intOf i).toNat)
  case atStart => exact ⟨0, Nat.zero_le _, rfl, hr0, hb0⟩
  case round =>
    clear hr0 hb0
    obtain ⟨t, ht, rfl, hrow, hbel⟩ := hrel
    by_cases htn : t < n
    · obtain ⟨v3, hv3⟩ : ∃ v3, wr.cell? ⟨w.heap.size, t, none⟩ = some (.int .i64 v3) := ⟨_, hrow.cell htn⟩
      have hfr := hrow.frozen t
      go_wp2
      go_roundw
      case rel =>
        refine ⟨t + 1, by omega, by go_num, (hrow.set t _).congr (fun j hj => ?_), hbel.setCell (Nat.le_refl _) _⟩
        by_cases e : j = t
        · subst e; rw [if_pos rfl, if_pos (by omega)]
        · rw [if_neg e]
          by_cases e2 : j < t
          · rw [if_pos e2, if_pos (by omega)]
          · rw [if_neg e2, if_neg (by omega)]
      case measure => simp [intOf]; omega
    · have hrow2 : wr.rowIs w.heap.size 3 n (fun i => .int .i64 (((List.range n).map (fun i : Nat => (i : Int))).getD i 0)) := hrow.congr (fun j hj => by rw [range_at n j hj, if_pos (by omega)])
      have HR := ret_row hrow2 (by simp)
      clear hrow hrow2
      go_wp2
      go_ret
      exact ⟨HR, hbel⟩

set_option maxHeartbeats 400000 in
theorem choose_none (s : Int) (a : Option Addr) (n cap : Nat) (K : Nat → Int) (k : Int) (w : World) (hk : k < (n : Int)) (h0 : k ≤ 0) :
    Calls Try.prog 6 #[.int .u64 s, .slice a n cap, .int .i64 k] w fun e w' => RetInts e w' (answer s K n k) ∧ Below w.heap.size w w' := by
  have ha : answer s K n k = [] := by unfold answer; rw [tops_none _ _ _ h0]; rfl
  rw [ha]
  go_enter Try.func6, Try.ntmps6
  go_wp2
  go_ret
  exact ⟨⟨none, 0, 0, fun _ => 0, rfl, .inl rfl, rfl⟩, Below.refl _ _⟩

set_option maxHeartbeats 1000000 in
theorem choose_top (s : Int) (a : Option Addr) (n cap k : Nat) (K : Nat → Int) (w : World) (hn : n ≤ 4096) (hk0 : 0 < k) (hkn : k < n) (hK : IsKeys w a n K) :
    Calls Try.prog 6 #[.int .u64 s, .slice a n cap, .int .i64 k] w fun e w' => RetInts e w' (answer s K n k) ∧ Below w.heap.size w w' := by
  rcases hK with h0 | ⟨b, off, rfl, hlt, hc⟩
  · omega
  go_enter Try.func6, Try.ntmps6
  go_wp2_with fail
  refine (newhigh k w (by omega)).mono ?_
  rintro e w1 ⟨⟨hb, gb, rfl, hH1, hB1, hB2⟩, hbel1⟩
  have hI1 := Inv.start (ranks s K) k
  go_wp2
  go_loopw [37] (fun i wr => ∃ (t : Nat) (X : Array M), t ≤ n ∧ i = .int .i64 t ∧ HighIs wr hb gb k X ∧ Inv (ranks s K) t k X ∧ Below w.heap.size w wr) (fun i _ => n - (intOf i).toNat)
  case atStart => exact ⟨0, #[], Nat.zero_le _, rfl, hH1, hI1, hbel1⟩
  case round =>
    clear hH1 hI1 hbel1
    obtain ⟨t, X, ht, rfl, hHi, hInv, hbel⟩ := hrel
    by_cases htn : t < n
    · have hkey := (hbel.cell (p := ⟨b, off + t, none⟩) hlt).trans (hc t htn)
      have hws := hbel.size
      have hbx : Below wr.heap.size wr (wr.alloc (.cells #[.int .u64 (rk s (K t)), .int .i64 (t : Int)] 32)) := (Below.refl _ _).alloc (Nat.le_refl _) _
      have hHx := hHi.below hbx
      have hXk : X.size ≤ k := by have := hInv.size; omega
      go_wp2_with (go_at_call 10; refine (rank_any _ _ _).mono ?_; rintro e wq ⟨rfl, rfl⟩)
      have e1 : (wq.alloc (.cells #[.int .u64 (rk s (K t)), .int .i64 (t : Int)] 32)).cell? ⟨wq.heap.size, 0, none⟩ = some (.int .u64 (rk s (K t))) := by simp [World.cell?_alloc_new]
      have e2 : (wq.alloc (.cells #[.int .u64 (rk s (K t)), .int .i64 (t : Int)] 32)).cell? ⟨wq.heap.size, 1, none⟩ = some (.int .i64 (t : Int)) := by simp [World.cell?_alloc_new]
      have hsx : (wq.alloc (.cells #[.int .u64 (rk s (K t)), .int .i64 (t : Int)] 32)).heap.size = wq.heap.size + 1 := by simp
      have hbw : Below w.heap.size w (wq.alloc (.cells #[.int .u64 (rk s (K t)), .int .i64 (t : Int)] 32)) := hbel.alloc hws _
      clear hkey hbel hbx hHi
      by_cases hroom : X.size < k
      · refine (admits_room hb gb k X (rk s (K t), (t : Int)) _ hHx hroom).mono ?_
        rintro e w2 ⟨rfl, hb2⟩
        have hH2 := hHx.below hb2
        have q1 := (hb2.cell (p := ⟨wq.heap.size, 0, none⟩) (by rw [hsx]; exact Nat.lt_succ_self _)).trans e1
        have q2 := (hb2.cell (p := ⟨wq.heap.size, 1, none⟩) (by rw [hsx]; exact Nat.lt_succ_self _)).trans e2
        have hbw2 := hbw.trans (hb2.mono (by omega))
        clear e1 e2 hsx hbw hHx hb2
        go_wp2_with fail
        refine (take_room w.heap.size hb gb k X (rk s (K t), (t : Int)) w2 hH2 hInv.heap (by omega) hroom hB1 hB2).mono ?_
        rintro e w3 ⟨rfl, ⟨Y, hY, hYH, hYp⟩, hb3⟩
        have hI3 : Inv (ranks s K) (t + 1) k Y := hInv.room hroom hYH hYp
        have hbw3 := hbw2.trans hb3
        clear hH2 q1 q2 hbw2 hb3 hYH hYp hInv
        go_wp2
        go_roundw
        case rel => exact ⟨t + 1, Y, by omega, by go_num, hY, hI3, hbw3⟩
        case measure => simp [intOf]; omega
      · have hfull : X.size = k := by omega
        have hpos : 0 < X.size := by omega
        refine (admits_full hb gb k X (rk s (K t), (t : Int)) _ hHx (by omega) hk0 hfull).mono ?_
        rintro e w2 ⟨rfl, hb2⟩
        have hH2 := hHx.below hb2
        have q1 := (hb2.cell (p := ⟨wq.heap.size, 0, none⟩) (by rw [hsx]; exact Nat.lt_succ_self _)).trans e1
        have q2 := (hb2.cell (p := ⟨wq.heap.size, 1, none⟩) (by rw [hsx]; exact Nat.lt_succ_self _)).trans e2
        have hbw2 := hbw.trans (hb2.mono (by omega))
        clear e1 e2 hsx hbw hHx hb2
        cases hltB : ltB (g X 0) (rk s (K t), (t : Int))
        · have hI3 : Inv (ranks s K) (t + 1) k X := hInv.pass hpos hfull hltB
          clear hInv q1 q2
          have HF : Hid (X.size = k) := hfull
          clear hfull
          go_wp2
          go_roundw
          case rel => exact ⟨t + 1, X, by omega, by go_num, hH2, hI3, hbw2⟩
          case measure => simp [intOf]; omega
        · have HF : Hid (X.size = k) := hfull
          clear hfull
          go_wp2_with fail
          refine (take_full w.heap.size hb gb k X (rk s (K t), (t : Int)) w2 hH2 hInv.heap (by omega) hpos HF.out hB1 hB2).mono ?_
          rintro e w3 ⟨rfl, ⟨Y, hY, hYH, hYp⟩, hb3⟩
          have hI3 : Inv (ranks s K) (t + 1) k Y := hInv.full hpos HF.out hltB hYH hYp
          have hbw3 := hbw2.trans hb3
          clear hH2 q1 q2 hbw2 hb3 hYH hYp hInv hltB
          go_wp2
          go_roundw
          case rel => exact ⟨t + 1, Y, by omega, by go_num, hY, hI3, hbw3⟩
          case measure => simp [intOf]; omega
    · obtain rfl : t = n := by omega
      have hres : (X.toList.map (·.2)).mergeSort (fun x y => decide (x ≤ y)) = answer s K t k := hInv.result (by omega)
      have hpos : 0 < X.size := by have := hInv.size; omega
      have CI := indexes_any hb gb k X wr hHi (by omega) hpos
      rw [hres] at CI
      clear hres hHi hInv
      go_wp2_with fail
      refine CI.mono ?_
      rintro e w2 ⟨⟨a2, c2, m2, G2, rfl, hG2, hL2⟩, hb2⟩
      have hbw2 := hbel.trans (hb2.mono hbel.size)
      go_wp2
      go_ret
      exact ⟨⟨a2, c2, m2, G2, rfl, hG2, hL2⟩, hbw2⟩

theorem choose_any (s : Int) (a : Option Addr) (n cap : Nat) (K : Nat → Int) (k : Int) (w : World) (hn : n ≤ 4096) (hK : IsKeys w a n K) :
    Calls Try.prog 6 #[.int .u64 s, .slice a n cap, .int .i64 k] w fun e w' => RetInts e w' (answer s K n k) ∧ Below w.heap.size w w' := by
  by_cases h1 : (n : Int) ≤ k
  · exact choose_all s a n cap K k w hn h1
  · by_cases h2 : k ≤ 0
    · exact choose_none s a n cap K k w (by omega) h2
    · obtain ⟨kk, rfl⟩ : ∃ kk : Nat, k = kk := ⟨k.toNat, by omega⟩
      exact choose_top s a n cap kk K w hn (by omega) (by omega) hK
end Go.Proofs.Qxb6627542a
