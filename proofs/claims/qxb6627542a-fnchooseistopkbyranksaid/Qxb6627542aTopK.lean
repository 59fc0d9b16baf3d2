/-
  THE WALK of FnChooseIsTopKByRank (3).
-/
import Derived.Test.Qxb6627542aPre
namespace Go.Proofs.Qxb6627542a
open Go.RowKit Plain

/-- the indexes wanted so far -/
def wl (r : Nat → Int) (n : Nat) (k : Int) (t : Nat) : List Int := ((List.range t).filter (inB r n k)).map (fun i : Nat => (i : Int))
theorem wl_yes {r : Nat → Int} {n : Nat} {k : Int} {t : Nat} (h : (up r t n : Int) < k) : wl r n k (t + 1) = wl r n k t ++ [(t : Int)] := by
  have : inB r n k t = true := by simp [inB, h]
  simp [wl, List.range_succ, List.filter_append, this]
theorem wl_no {r : Nat → Int} {n : Nat} {k : Int} {t : Nat} (h : ¬ (up r t n : Int) < k) : wl r n k (t + 1) = wl r n k t := by
  have : inB r n k t = false := by simp [inB]; omega
  simp [wl, List.range_succ, List.filter_append, this]
theorem wl_le (r : Nat → Int) (n : Nat) (k : Int) (t : Nat) : (wl r n k t).length ≤ t := by
  have := List.length_filter_le (inB r n k) (List.range t)
  simpa [wl] using this

theorem IsKeys.elemc {w : World} {a : Option Addr} {n : Nat} {K : Nat → Int} (h : IsKeys w a n K) {k : Nat} (hk : k < n) :
    ∃ b off, b < w.heap.size ∧ w.cell? ⟨b, off, none⟩ = some (.int .u64 (K k)) ∧ ∀ cap w', (Instr.indexAt 23 (.slice a n cap) (.int .i64 k)).run Try.prog w' = .ok (.pointer (some ⟨b, off, none⟩)) w' := by
  rcases h with h | ⟨b, off, ha, hlt, hcell⟩
  · omega
  · refine ⟨b, off + k, hlt, hcell k hk, fun cap w' => ?_⟩
    subst ha
    rw [run_indexAt_slice (P := Try.prog) (w := w') 23 ⟨b, off, none⟩ n cap .i64 k (by kernel_rfl)]
    have hz : (sizeOf (Try.prog.elem 23)).run Try.prog w' = .ok 1 w' := by kernel_rfl
    rw [if_pos (by omega), hz]
    simp [Result.andThen, Addr.add]

theorem up_yes {r : Nat → Int} {i j : Nat} (h : ltB (mem r i) (mem r j) = true) : up r i (j + 1) = up r i j + 1 := by rw [up_succ, h]; rfl
theorem up_no {r : Nat → Int} {i j : Nat} (h : ltB (mem r i) (mem r j) = false) : up r i (j + 1) = up r i j := by rw [up_succ, h]; rfl

theorem range_int (m i : Nat) (G : Nat → Int) (hi : i < m) : ((List.range m).map G).getD i 0 = G i := by
  rw [List.getD_eq_getElem?_getD, List.getElem?_map, List.getElem?_range hi]; rfl

theorem ltB_none {R : Nat → Int} {p j : Nat} (h1 : ¬ R p < R j) (h2 : ¬ R j = R p) : ltB (mem R p) (mem R j) = false := by
  rw [ltB_false]; simp only [lt, mem]; omega

set_option maxHeartbeats 4000000 in
theorem topk_walk (s : Int) (a : Option Addr) (n cap : Nat) (K : Nat → Int) (k : Int) (w : World) (hK : IsKeys w a n K) :
    Calls Try.prog 3 #[.int .u64 s, .slice a n cap, .int .i64 k] w fun e w' => e = .returned (.bool true) ∧ Below w.heap.size w w' := by
  have hneq : ∀ w', (binOp .neq 23 (.slice a n cap) (.slice none 0 0)).run Try.prog w' = .ok (.bool (!a.isNone)) w' := fun w' => run_neq_slice_nil_any w' 23 22 a n cap 0 0 Try.underlying23
  by_cases hbig : 4096 < (n : Int)
  · go_enter Try.func3, Try.ntmps3
    go_wp2_with (go_at_call 5; refine (zz5 _ _ _ _ _ _).mono ?_; rintro e w' ⟨⟨b0, rfl⟩, rfl⟩; cases b0)
    all_goals (go_ret; exact ⟨rfl, Below.refl _ _⟩)
  have hn : n ≤ 4096 := by omega
  have hmk := run_make_row' (P := Try.prog) 23 22 (.int .u64 0) 8 Try.underlying23 Try.info22 rfl .i64 .i64 n (by omega) (by omega)
  have hb0 : Below w.heap.size w (w.alloc (.cells (madeCells #[.int .u64 0] n) 22)) := (Below.refl _ _).alloc (Nat.le_refl _) _
  cases a
  case' none =>
    go_enter Try.func3, Try.ntmps3
    go_wp2_with fail
    refine (zz5 _ _ _ _ _ _).mono ?_
    rintro e w' ⟨⟨b0, rfl⟩, rfl⟩
    cases b0
    · go_wp2
      go_ret
      exact ⟨rfl, Below.refl _ _⟩
    have hKc := hK
    have hbW := Below.refl w'.heap.size w'
    clear hb0 hK hneq
    go_wp2_with fail
  case' some x =>
    have hsrc := keys_src hK (.cells (madeCells #[.int .u64 0] n) 22)
    have hgm : (w.alloc (.cells (madeCells #[.int .u64 0] n) 22)).heap[w.heap.size]? = some (.cells (madeCells #[.int .u64 0] n).toList.toArray 22 (0, 0)) := by
      show (w.heap.push _)[w.heap.size]? = _
      simp
    go_enter Try.func3, Try.ntmps3
    go_wp2_with fail
    refine (zz5 _ _ _ _ _ _).mono ?_
    rintro e w' ⟨⟨b0, rfl⟩, rfl⟩
    cases b0
    · go_wp2
      go_ret
      exact ⟨rfl, Below.refl _ _⟩
    go_wp2_with (refine wpList_copy_splice rfl (.tmp 30) (.tmp 31) 23 23 rfl 22 Try.underlying23 Try.size22 _ _ _ _ _ _ rfl rfl w'.heap.size 0 _ 22 hgm (kcells K n) (by rw [kcells_length]; simp) (fun h => ⟨rfl, hsrc h⟩) (by rw [kcells_length]; simp [size_madeCells]) (kcells_one K n) w'.heap.size w' hb0 (Nat.le_refl _) ?_; intro w2 HG2 hbW)
    have hKc := keys_of_row (keys_of_copy (by simp [size_madeCells]) HG2.out)
    clear hsrc hgm hb0 hK hneq HG2
  all_goals
    refine (choose_any s _ n _ K k _ hn hKc).mono ?_
    rintro e w3 ⟨⟨ag, cg, mg, G, rfl, hG, hLg⟩, hb3⟩
    have hb03 := hbW.trans (hb3.mono hbW.size)
    have hK3 := hKc.below hb3
    clear hKc hbW hb3
    go_wp2
    clear hmk
    have hr0 : (w3.alloc (.cells (madeCells #[.int .u64 0] n) 22)).rowIs w3.heap.size 22 n (fun j => .int .u64 (if j < 0 then ranks s K j else 0)) := (World.rowIs_made w3 (.int .u64 0) n 22).congr (fun i _ => by simp)
    have hb4 : Below w3.heap.size w3 (w3.alloc (.cells (madeCells #[.int .u64 0] n) 22)) := (Below.refl _ _).alloc (Nat.le_refl _) _
    go_loopw [11] (fun i wr => ∃ t : Nat, t ≤ n ∧ i = .int .i64 t ∧ wr.rowIs w3.heap.size 22 n (fun j => .int .u64 (if j < t then ranks s K j else 0)) ∧ Below w3.heap.size w3 wr) (fun i _ => n - (intOf i).toNat)
    case atStart => exact ⟨0, Nat.zero_le _, rfl, hr0, hb4⟩
    case round =>
      clear hr0 hb4
      obtain ⟨t, ht, rfl, hrow, hbel⟩ := hrel
      by_cases htn : t < n
      · obtain ⟨bk, ok, hlk, hck, hix⟩ := hK3.elemc htn
        have hck2 := (hbel.cell (p := ⟨bk, ok, none⟩) hlk).trans hck
        obtain ⟨v3, hv3⟩ : ∃ v3, wr.cell? ⟨w3.heap.size, t, none⟩ = some (.int .u64 v3) := ⟨_, hrow.cell htn⟩
        have hfr := hrow.frozen t
        clear hck
        go_wp2_with (go_at_call 7; refine (zzrank_any _ _ _).mono ?_; rintro e w' ⟨rfl, rfl⟩)
        go_roundw
        case rel =>
          refine ⟨t + 1, by omega, by go_num, (hrow.set t _).congr (fun j hj => ?_), hbel.setCell (Nat.le_refl _) _⟩
          by_cases e : j = t
          · subst e; rw [if_pos rfl, if_pos (by omega)]; rfl
          · rw [if_neg e]
            by_cases e2 : j < t
            · rw [if_pos e2, if_pos (by omega)]
            · rw [if_neg e2, if_neg (by omega)]
        case measure => simp [intOf]; omega
      · obtain ⟨wA, rfl⟩ : ∃ wA, wA = wr := ⟨_, rfl⟩
        have hrow2 : wA.rowIs w3.heap.size 22 n (fun j => .int .u64 (ranks s K j)) := hrow.congr (fun j hj => by rw [if_pos (by omega)])
        have hb0r := hb03.trans (hbel.mono hb03.size)
        have hGr := hG.below hbel
        clear hrow hK3
        obtain ⟨i0, hi, hz0, hz1, hz2⟩ := info_parts Try.info3
        go_wp2_with (at_make; refine wpList_make_own _ rfl _ _ 25 rfl wA.heap.size 3 i0 _ 1 Try.underlying25 hi hz0 hz1 .i64 .i64 _ n rfl rfl rfl (by rw [hz2]; omega) (by unfold maxLen; omega) (Nat.le_refl _) ?_; intro w5 hown5 hg5)
        have hb5 : Below wA.heap.size wA w5 := (Below.refl _ _).grown hg5 (Nat.le_refl _) (fun _ h => by cases h)
        clear hg5
        have hWl : Hid (wl (ranks s K) n k n = (List.range mg).map G) := hLg
        have hltw3 := hrow2.lt
        clear hLg hbel hb03 hG
        generalize ranks s K = R at *
        go_loopw [12, 13] (fun v i wx => ∃ t : Nat, t ≤ n ∧ i = .int .i64 t ∧ wx.ownsRow wA.heap.size 3 1 v (wl R n k t).length ((wl R n k t).map (Value.int .i64)) ∧ Below wA.heap.size wA wx) (fun _ i _ => n - (intOf i).toNat)
        case atStart => exact ⟨0, Nat.zero_le _, rfl, hown5, hb5⟩
        case round =>
          clear hown5 hb5
          obtain ⟨p, hp, rfl, hown, hbel⟩ := hrel
          by_cases hpn : p < n
          · obtain ⟨wB, rfl⟩ : ∃ wB, wB = wr := ⟨_, rfl⟩
            have hrowB := hrow2.of_block (hbel.block _ hltw3)
            go_wp2
            go_loopw [14, 15] (fun x y wy => ∃ j : Nat, j ≤ n ∧ y = .int .i64 j ∧ x = .int .i64 (up R p j) ∧ Below wB.heap.size wB wy) (fun _ y _ => n - (intOf y).toNat)
            case atStart => exact ⟨0, Nat.zero_le _, rfl, rfl, Below.refl _ _⟩
            case round =>
              obtain ⟨j, hj, rfl, rfl, hbelB⟩ := hrel
              have hupl := up_le R p j
              have hrowC := hrowB.of_block (hbelB.block _ hrowB.lt)
              by_cases hjn : j < n
              · have d1 := hrowC.cell hjn
                have d2 := hrowC.cell hpn
                by_cases h1 : R p < R j
                · have hd : decide (R p < R j) = true := by simp [h1]
                  have HU : Hid (up R p (j + 1) = up R p j + 1) := up_yes (by simp [ltB, mem, h1])
                  go_wp2
                  go_quiet (fail)
                  go_wp2
                  go_roundw
                  case rel => exact ⟨j + 1, by omega, by go_num, by rw [HU.out]; go_num, below_drewN hbelB _⟩
                  case measure => simp [intOf]; omega
                · have hd : decide (R p < R j) = false := by simp; omega
                  by_cases h2 : R j = R p
                  · have he : (R j == R p) = true := by simp [h2]
                    have HE : Hid (R j = R p) := h2
                    clear h2
                    by_cases h3 : (j : Int) < (p : Int)
                    · have hd3 : decide ((j : Int) < (p : Int)) = true := by simp; omega
                      have HU : Hid (up R p (j + 1) = up R p j + 1) := up_yes (by simp [ltB, mem, HE.out]; omega)
                      go_wp2
                      go_quiet (fail)
                      go_wp2
                      go_roundw
                      case rel => exact ⟨j + 1, by omega, by go_num, by rw [HU.out]; go_num, below_drewN hbelB _⟩
                      case measure => simp [intOf]; omega
                    · have hd3 : decide ((j : Int) < (p : Int)) = false := by simp; omega
                      have HU : Hid (up R p (j + 1) = up R p j) := up_no (by simp [ltB, mem, HE.out]; omega)
                      go_wp2
                      go_quiet (fail)
                      go_wp2
                      go_roundw
                      case rel => exact ⟨j + 1, by omega, by go_num, by rw [HU.out], below_drewN hbelB _⟩
                      case measure => simp [intOf]; omega
                  · have he : (R j == R p) = false := by simpa using h2
                    have HU : Hid (up R p (j + 1) = up R p j) := up_no (ltB_none h1 h2)
                    clear h2
                    go_wp2
                    go_quiet (fail)
                    go_wp2
                    go_roundw
                    case rel => exact ⟨j + 1, by omega, by go_num, by rw [HU.out], below_drewN hbelB _⟩
                    case measure => simp [intOf]; omega
              · obtain ⟨wC, rfl⟩ : ∃ wC, wC = wr := ⟨_, rfl⟩
                have hownC := hown.kept (grown_of_below hbelB) (by cases hq : Value.ownBlock _ <;> simp)
                have hbelC := hbel.trans (hbelB.mono hbel.size)
                have HJ : Hid (j = n) := by show _ = _; omega
                have hll := wl_le R n k p
                have hws := hbelC.size
                clear hown hbel hbelB hrowC hrowB
                by_cases hk1 : ((up R p j : Nat) : Int) < k
                · have HW : Hid (wl R n k (p + 1) = wl R n k p ++ [(p : Int)]) := wl_yes (by rw [← HJ.out]; exact hk1)
                  go_wp2_with (at_builtin; refine wpList_append_own _ rfl _ _ 25 rfl wA.heap.size 3 i0 _ 1 8 Try.underlying25 hi hz0 hz1 hz2 rfl (by decide) _ _ _ rfl (hownC.alloc _) ⟨wC.heap.size, 0, none⟩ 1 1 [.int .i64 (p : Int)] rfl rfl ?c1 ?c2 ?c3 ?c4 ?c5 ?_)
                  case c1 => exact cell_one_new _ _ _
                  case c2 => intro u hu; simp at hu; subst hu; rfl
                  case c3 => unfold maxLen; omega
                  case c4 => omega
                  case c5 => simp; omega
                  · intro v' w6 hown6 hg6 _
                    have hb6 := below_one hbelC hws hownC hg6
                    have hownN : w6.ownsRow wA.heap.size 3 1 v' (wl R n k (p + 1)).length ((wl R n k (p + 1)).map (Value.int .i64)) := by
                      rw [HW.out, List.map_append, List.length_append]; exact hown6
                    clear hown6 hg6 hownC hbelC
                    go_wp2
                    go_roundw
                    case rel => exact ⟨p + 1, by omega, by go_num, hownN, hb6⟩
                    case measure => simp [intOf]; omega
                · have HW : Hid (wl R n k (p + 1) = wl R n k p) := wl_no (by rw [← HJ.out]; exact hk1)
                  go_wp2
                  go_roundw
                  case rel => exact ⟨p + 1, by omega, by go_num, by rw [HW.out]; exact hownC, hbelC⟩
                  case measure => simp [intOf]; omega
          · obtain ⟨wB, rfl⟩ : ∃ wB, wB = wr := ⟨_, rfl⟩
            have HP : p = n := by omega
            have hown2 : wB.ownsRow wA.heap.size 3 1 u12 mg (((List.range mg).map G).map (Value.int .i64)) := by
              have h := hown
              rw [HP, hWl.out] at h
              simpa using h
            obtain ⟨aw, cw, hvw, hIw⟩ := ints_of_own hown2 (by simp)
            have hIw2 := hIw.congr rfl (fun i hi => range_int mg i G hi)
            have hml : mg ≤ 4096 := by
              have h1 := congrArg List.length hWl.out
              have h2 := wl_le R n k n
              simp only [List.length_map, List.length_range] at h1
              omega
            have hb0B := hb0r.trans (hbel.mono hb0r.size)
            have hGB := hGr.below hbel
            subst hvw
            clear hown hown2 hIw hGr hbel hrow2 hb0r hWl HP
            go_wp2
            go_loopw [16] (fun i wx => ∃ q : Nat, q ≤ mg ∧ i = .int .i64 q ∧ Below wB.heap.size wB wx) (fun i _ => mg - (intOf i).toNat)
            case atStart => exact ⟨0, Nat.zero_le _, rfl, Below.refl _ _⟩
            case round =>
              obtain ⟨q, hq, rfl, hbelB⟩ := hrel
              by_cases hqm : q < mg
              · obtain ⟨b1, o1, hl1, hc1, hx1⟩ := hGB.elem hqm cg (x := (q : Int)) rfl
                obtain ⟨b2, o2, hl2, hc2, hx2⟩ := hIw2.elem hqm cw (x := (q : Int)) rfl
                have d1 := (hbelB.cell (p := ⟨b1, o1, none⟩) hl1).trans hc1
                have d2 := (hbelB.cell (p := ⟨b2, o2, none⟩) hl2).trans hc2
                clear hc1 hc2
                go_wp2
                go_quiet (fail)
                go_wp2
                go_roundw
                case rel => exact ⟨q + 1, by omega, by go_num, below_drewN hbelB _⟩
                case measure => simp [intOf]; omega
              · have hbz := hb0B.trans (hbelB.mono hb0B.size)
                go_wp2
                go_ret
                exact ⟨rfl, hbz⟩
end Go.Proofs.Qxb6627542a
