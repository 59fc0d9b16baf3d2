/-
  THE WALK of FnChooseMergesOverAnyCut (4).
-/
import Derived.Test.Qxb6627542aMFacts
namespace Go.Proofs.Qxb6627542a
open Go.RowKit Plain

theorem IsKeys.elemc {w : World} {a : Option Addr} {n : Nat} {K : Nat → Int} (h : IsKeys w a n K) {k : Nat} (hk : k < n) :
    ∃ b off, b < w.heap.size ∧ w.cell? ⟨b, off, none⟩ = some (.int .u64 (K k)) ∧ ∀ cap w', (Instr.indexAt 23 (.slice a n cap) (.int .i64 k)).run Try.prog w' = .ok (.pointer (some ⟨b, off, none⟩)) w' := by
  rcases h with h | ⟨b, off, ha, hlt, hcell⟩
  · omega
  · refine ⟨b, off + k, hlt, hcell k hk, fun cap w' => ?_⟩
    subst ha
    rw [run_indexAt_slice (P := Try.prog) (w := w') 23 ⟨b, off, none⟩ n cap .i64 k (by kernel_rfl)]
    have hz : (sizeOf (Try.prog.elem 23)).run Try.prog w' = .ok 1 w' := by kernel_rfl
    rw [if_pos (by omega), hz]
    simp [Result.andThen, Addr.add]

theorem size23 (w : World) : (sizeOf (Try.prog.elem 23)).run Try.prog w = .ok 1 w := by kernel_rfl
theorem elem23 : Try.prog.underlying 23 = some (.slice (Try.prog.elem 23)) := by kernel_rfl
theorem slice_from (a : Option Addr) (n cap c : Nat) (hc : c ≤ n) (hn : n ≤ cap) : ∃ a2, (∀ w, (Instr.slice 23 (.slice a n cap) (some (.int .i64 c)) none none).run Try.prog w = .ok (.slice a2 (n - c) (cap - c)) w) ∧
    ∀ w K, IsKeys w a n K → IsKeys w a2 (n - c) (fun i => K (c + i)) := by
  refine ⟨if cap = c then a else a.map (·.add (c * 1)), fun w => ?_, fun w K h => ?_⟩
  · rw [run_slice_l (P := Try.prog) (w := w) 23 a n cap elem23 .i64 (c : Int) (by omega) (by omega), size23]
    simp [Result.andThen, sliced]
  · rcases h with h | ⟨b, off, ha, hlt, hcell⟩
    · exact .inl (by omega)
    · by_cases h0 : n - c = 0
      · exact .inl h0
      · subst ha
        rw [if_neg (by omega)]
        refine .inr ⟨b, off + c, by simp [Addr.add], hlt, fun i hi => ?_⟩
        rw [Nat.add_assoc]
        exact hcell (c + i) (by omega)
theorem slice_to (a : Option Addr) (n cap c : Nat) (hc : c ≤ n) (hn : n ≤ cap) : ∃ a2, (∀ w, (Instr.slice 23 (.slice a n cap) none (some (.int .i64 c)) none).run Try.prog w = .ok (.slice a2 c cap) w) ∧
    ∀ w K, IsKeys w a n K → IsKeys w a2 c K := by
  refine ⟨if cap = 0 then a else a.map (·.add (0 * 1)), fun w => ?_, fun w K h => ?_⟩
  · rw [run_slice_h (P := Try.prog) (w := w) 23 a n cap elem23 .i64 (c : Int) (by omega) (by omega), size23]
    simp [Result.andThen, sliced]
  · rcases h with h | ⟨b, off, ha, hlt, hcell⟩
    · exact .inl (by omega)
    · by_cases h0 : c = 0
      · exact .inl h0
      · subst ha
        rw [if_neg (by omega)]
        exact .inr ⟨b, off, by simp [Addr.add], hlt, fun i hi => hcell i (by omega)⟩

/-- the chosen so far -/
def js (f : Nat → Nat) (t : Nat) : List Value := ((List.range t).map fun q => (f q : Int)).map (Value.int .i64)
theorem js_succ (f : Nat → Nat) (t : Nat) : js f (t + 1) = js f t ++ [.int .i64 (f t : Int)] := by simp [js, List.range_succ]

set_option maxRecDepth 10000 in
set_option maxHeartbeats 8000000 in
theorem merge_walk (s : Int) (a : Option Addr) (n cap : Nat) (K : Nat → Int) (k q0 : Int) (w : World) (hcap : n ≤ cap) (hK : IsKeys w a n K) :
    Calls Try.prog 4 #[.int .u64 s, .slice a n cap, .int .i64 k, .int .i64 q0] w fun e w' => e = .returned (.bool true) ∧ Below w.heap.size w w' := by
  have hneq : ∀ w', (binOp .neq 23 (.slice a n cap) (.slice none 0 0)).run Try.prog w' = .ok (.bool (!a.isNone)) w' := fun w' => run_neq_slice_nil_any w' 23 22 a n cap 0 0 Try.underlying23
  by_cases hbig : 4096 < (n : Int)
  · go_enter Try.func4, Try.ntmps4
    go_wp2_with (go_at_call 8; refine (zz8 _ _ _ _ _ _ _).mono ?_; rintro e w' ⟨⟨b0, rfl⟩, rfl⟩; cases b0)
    all_goals (go_ret; exact ⟨rfl, Below.refl _ _⟩)
  have hn : n ≤ 4096 := by omega
  by_cases hq1 : q0 < 0
  · go_enter Try.func4, Try.ntmps4
    go_wp2_with (go_at_call 8; refine (zz8 _ _ _ _ _ _ _).mono ?_; rintro e w' ⟨⟨b0, rfl⟩, rfl⟩; cases b0)
    all_goals (go_ret; exact ⟨rfl, Below.refl _ _⟩)
  by_cases hq2 : (n : Int) < q0
  · go_enter Try.func4, Try.ntmps4
    go_wp2_with (go_at_call 8; refine (zz8 _ _ _ _ _ _ _).mono ?_; rintro e w' ⟨⟨b0, rfl⟩, rfl⟩; cases b0)
    all_goals (go_ret; exact ⟨rfl, Below.refl _ _⟩)
  obtain ⟨c, rfl⟩ : ∃ c : Nat, q0 = c := ⟨q0.toNat, by omega⟩
  have hcn : c ≤ n := by omega
  clear hq1 hq2
  have hcn' : (c : Int) ≤ (n : Int) := by omega
  have hmk := run_make_row' (P := Try.prog) 23 22 (.int .u64 0) 8 Try.underlying23 Try.info22 rfl .i64 .i64 n (by omega) (by omega)
  have hb0 : Below w.heap.size w (w.alloc (.cells (madeCells #[.int .u64 0] n) 22)) := (Below.refl _ _).alloc (Nat.le_refl _) _
  cases a
  case' none =>
    go_enter Try.func4, Try.ntmps4
    go_wp2_with fail
    refine (zz8 _ _ _ _ _ _ _).mono ?_
    rintro e w' ⟨⟨b0, rfl⟩, rfl⟩
    cases b0
    · go_wp2
      go_ret
      exact ⟨rfl, Below.refl _ _⟩
    have hKc := hK
    have hbW := Below.refl w'.heap.size w'
    go_wp2_with fail
    obtain ⟨A1, hf1, hf2⟩ := slice_to none n cap c hcn hcap
    obtain ⟨A2, hk1, hk2⟩ := slice_from none n cap c hcn hcap
    clear hb0 hK hneq hmk
  case' some x =>
    have hsrc := keys_src hK (.cells (madeCells #[.int .u64 0] n) 22)
    have hgm : (w.alloc (.cells (madeCells #[.int .u64 0] n) 22)).heap[w.heap.size]? = some (.cells (madeCells #[.int .u64 0] n).toList.toArray 22 (0, 0)) := by
      show (w.heap.push _)[w.heap.size]? = _
      simp
    go_enter Try.func4, Try.ntmps4
    go_wp2_with fail
    refine (zz8 _ _ _ _ _ _ _).mono ?_
    rintro e w' ⟨⟨b0, rfl⟩, rfl⟩
    cases b0
    · go_wp2
      go_ret
      exact ⟨rfl, Below.refl _ _⟩
    go_wp2_with (refine wpList_copy_splice rfl (.tmp 48) (.tmp 49) 23 23 rfl 22 Try.underlying23 Try.size22 _ _ _ _ _ _ rfl rfl w'.heap.size 0 _ 22 hgm (kcells K n) (by rw [kcells_length]; simp) (fun h => ⟨rfl, hsrc h⟩) (by rw [kcells_length]; simp [size_madeCells]) (kcells_one K n) w'.heap.size w' hb0 (Nat.le_refl _) ?_; intro w2 HG2 hbW)
    have hKc := keys_of_row (keys_of_copy (by simp [size_madeCells]) HG2.out)
    obtain ⟨A1, hf1, hf2⟩ := slice_to (some ⟨w'.heap.size, 0, none⟩) n n c hcn (Nat.le_refl _)
    obtain ⟨A2, hk1, hk2⟩ := slice_from (some ⟨w'.heap.size, 0, none⟩) n n c hcn (Nat.le_refl _)
    clear hsrc hgm hb0 hK hneq HG2 hmk
  all_goals
    refine (choose_any s _ n _ K k _ hn hKc).mono ?_
    rintro e w3 ⟨⟨aW, cW, mW, GW, rfl, hGW, eW⟩, hb3⟩
    have hb03 := hbW.trans (hb3.mono hbW.size)
    have hK3 := hKc.below hb3
    clear hKc hbW hb3
    go_wp2_with fail
    refine (choose_any s _ c _ K k _ (by omega) (hf2 _ _ hK3)).mono ?_
    rintro e w4 ⟨⟨aL, cL, mL, GL, rfl, hGL, eL⟩, hb4⟩
    have hb04 := hb03.trans (hb4.mono hb03.size)
    have hK4 := hK3.below hb4
    have hGW4 := hGW.below hb4
    clear hb4 hb03 hK3 hGW
    go_wp2_with fail
    refine (choose_any s _ (n - c) _ (fun i => K (c + i)) k _ (by omega) (hk2 _ _ hK4)).mono ?_
    rintro e w5 ⟨⟨aR, cR, mR, GR, rfl, hGR, eR⟩, hb5⟩
    have hb05 := hb04.trans (hb5.mono hb04.size)
    have hK5 := hK4.below hb5
    have hGW5 := hGW4.below hb5
    have hGL5 := hGL.below hb5
    clear hb5 hb04 hK4 hGW4 hGL hf1 hf2 hk1 hk2
    obtain ⟨f, F⟩ := merge_facts hcn eW.out eL.out eR.out
    have hfit := F.fit
    clear eW eL eR
    obtain ⟨i0, hi, hz0, hz1, hz2⟩ := info_parts Try.info3
    go_wp2_with (at_make; refine wpList_make_own _ rfl _ _ 25 rfl w5.heap.size 3 i0 _ 1 Try.underlying25 hi hz0 hz1 .i64 .i64 _ n rfl rfl rfl (by rw [hz2]; omega) (by unfold maxLen; omega) (Nat.le_refl _) ?_; intro w6 hown6 hg6)
    have hb6 : Below w5.heap.size w5 w6 := (Below.refl _ _).grown hg6 (Nat.le_refl _) (fun _ h => by cases h)
    clear hg6
    go_loopw [14, 15] (fun v i wr => ∃ t : Nat, t ≤ mL ∧ i = .int .i64 t ∧ wr.ownsRow w5.heap.size 3 1 v t (js f t) ∧ Below w5.heap.size w5 wr) (fun _ i _ => mL - (intOf i).toNat)
    case atStart => exact ⟨0, Nat.zero_le _, rfl, hown6, hb6⟩
    case round =>
      clear hown6 hb6
      obtain ⟨t, ht, rfl, hown, hbel⟩ := hrel
      have hws := hbel.size
      by_cases htn : t < mL
      · obtain ⟨bk, ok, hlk, hck, hix⟩ := hGL5.elem htn cL (x := (t : Int)) rfl
        have hck2 := (hbel.cell (p := ⟨bk, ok, none⟩) hlk).trans hck
        obtain ⟨hl0, hl1⟩ := F.left t htn
        clear hck
        go_wp2_with (at_builtin; refine wpList_append_own _ rfl _ _ 25 rfl w5.heap.size 3 i0 _ 1 8 Try.underlying25 hi hz0 hz1 hz2 rfl (by decide) _ _ _ rfl (hown.alloc _) ⟨wr.heap.size, 0, none⟩ 1 1 [.int .i64 (GL t)] rfl rfl ?c1 ?c2 ?c3 ?c4 ?c5 ?_)
        case c1 => exact cell_one_new _ _ _
        case c2 => intro u hu; simp at hu; subst hu; rfl
        case c3 => unfold maxLen; omega
        case c4 => omega
        case c5 => simp; omega
        · intro v' w7 hown7 hg7 _
          have hb7 := below_one hbel hws hown hg7
          rw [F.fl t htn, ← js_succ] at hown7
          clear hg7 hown hix hck2 hbel
          go_wp2
          go_roundw
          case rel => exact ⟨t + 1, by omega, by go_num, hown7, hb7⟩
          case measure => simp [intOf]; omega
      · have hownL : wr.ownsRow w5.heap.size 3 1 u14 mL (js f mL) := by
          have e : t = mL := by omega
          rw [e] at hown; exact hown
        clear hown hGL5
        go_wp2
        go_loopw [14, 17] (fun v i wr => ∃ t : Nat, t ≤ mR ∧ i = .int .i64 t ∧ wr.ownsRow w5.heap.size 3 1 v (mL + t) (js f (mL + t)) ∧ Below w5.heap.size w5 wr) (fun _ i _ => mR - (intOf i).toNat)
        case atStart => exact ⟨0, Nat.zero_le _, rfl, hownL, hbel⟩
        case round =>
          clear hownL hbel hws ht htn
          obtain ⟨u, hu, rfl, hown, hbel⟩ := hrel
          have hws := hbel.size
          by_cases hun : u < mR
          · obtain ⟨bk, ok, hlk, hck, hix⟩ := hGR.elem hun cR (x := (u : Int)) rfl
            have hck2 := (hbel.cell (p := ⟨bk, ok, none⟩) hlk).trans hck
            obtain ⟨hl0, hl1⟩ := F.right u hun
            clear hck
            go_wp2_with (at_builtin; refine wpList_append_own _ rfl _ _ 25 rfl w5.heap.size 3 i0 _ 1 8 Try.underlying25 hi hz0 hz1 hz2 rfl (by decide) _ _ _ rfl (hown.alloc _) ⟨_, 0, none⟩ 1 1 [.int .i64 ((c : Int) + GR u)] rfl rfl ?d1 ?d2 ?d3 ?d4 ?d5 ?_)
            case d1 => exact cell_one_new _ _ _
            case d2 => intro v hv; simp at hv; subst hv; rfl
            case d3 => unfold maxLen; omega
            case d4 => omega
            case d5 => simp; omega
            · intro v' w7 hown7 hg7 _
              have hb7 := below_one hbel hws hown hg7
              rw [F.fr u hun, ← js_succ, Nat.add_assoc] at hown7
              clear hg7 hown hix hck2 hbel
              go_wp2
              go_roundw
              case rel => exact ⟨u + 1, by omega, by go_num, hown7, hb7⟩
              case measure => simp [intOf]; omega
          · obtain ⟨wB, rfl⟩ : ∃ wB, wB = wr := ⟨_, rfl⟩
            obtain ⟨m, hm⟩ : ∃ m, m = mL + mR := ⟨_, rfl⟩
            have HM : Hid (m = mL + mR) := hm
            have hownI : wB.ownsRow w5.heap.size 3 1 u14 m (((List.range m).map fun q => (f q : Int)).map (Value.int .i64)) := by
              have e : mL + u = m := by omega
              rw [e] at hown; exact hown
            obtain ⟨aI, cI, hvI, hI⟩ := ints_of_own hownI (by simp)
            have hI2 : IsInts wB aI m (fun q => (f q : Int)) := hI.congr rfl (fun i hi => by
              rw [List.getD_eq_getElem?_getD, List.getElem?_map, List.getElem?_range hi]; rfl)
            have hb0B := hb05.trans (hbel.mono hb05.size)
            have hKB := hK5.below hbel
            have hGWB := hGW5.below hbel
            have hm4 : m ≤ 4096 := by omega
            have hmk2 := run_make_row' (P := Try.prog) 23 22 (.int .u64 0) 8 Try.underlying23 Try.info22 rfl .i64 .i64 m (by omega) (by omega)
            have hflt : Hid (∀ q, q < m → f q < n) := fun q hq => F.flt q (by rw [← hm]; exact hq)
            subst hvI
            clear hown hownI hI hbel hb05 hK5 hGW5 hGR hm
            go_wp2
            clear hmk2
            have hr0 : (wB.alloc (.cells (madeCells #[.int .u64 0] m) 22)).rowIs wB.heap.size 22 m (fun j => .int .u64 (if j < 0 then K (f j) else 0)) := (World.rowIs_made wB (.int .u64 0) m 22).congr (fun i _ => by simp)
            have hbc : Below wB.heap.size wB (wB.alloc (.cells (madeCells #[.int .u64 0] m) 22)) := (Below.refl _ _).alloc (Nat.le_refl _) _
            go_loopw [20] (fun i wr => ∃ t : Nat, t ≤ m ∧ i = .int .i64 t ∧ wr.rowIs wB.heap.size 22 m (fun j => .int .u64 (if j < t then K (f j) else 0)) ∧ Below wB.heap.size wB wr) (fun i _ => m - (intOf i).toNat)
            case atStart => exact ⟨0, Nat.zero_le _, rfl, hr0, hbc⟩
            case round =>
              clear hr0 hbc
              obtain ⟨p, hp, rfl, hrow, hbel⟩ := hrel
              by_cases hpm : p < m
              · obtain ⟨b1, o1, hl1, hc1, hx1⟩ := hI2.elem hpm cI (x := (p : Int)) rfl
                have hfp := hflt.out p hpm
                obtain ⟨b2, o2, hl2, hc2, hx2⟩ := hKB.elemc hfp
                have d1 := (hbel.cell (p := ⟨b1, o1, none⟩) hl1).trans hc1
                have d2 := (hbel.cell (p := ⟨b2, o2, none⟩) hl2).trans hc2
                obtain ⟨v3, hv3⟩ : ∃ v3, wr.cell? ⟨wB.heap.size, p, none⟩ = some (.int .u64 v3) := ⟨_, hrow.cell hpm⟩
                have hfr := hrow.frozen p
                clear hc1 hc2
                go_wp2
                go_roundw
                case rel =>
                  refine ⟨p + 1, by omega, by go_num, (hrow.set p _).congr (fun j hj => ?_), hbel.setCell (Nat.le_refl _) _⟩
                  by_cases e : j = p
                  · subst e; rw [if_pos rfl, if_pos (by omega)]
                  · rw [if_neg e]
                    by_cases e2 : j < p
                    · rw [if_pos e2, if_pos (by omega)]
                    · rw [if_neg e2, if_neg (by omega)]
                case measure => simp [intOf]; omega
              · obtain ⟨wC, rfl⟩ : ∃ wC, wC = wr := ⟨_, rfl⟩
                have hrow2 : wC.rowIs wB.heap.size 22 m (fun j => .int .u64 ((fun q => K (f q)) j)) := hrow.congr (fun j hj => by rw [if_pos (by omega)])
                have hKs := keys_of_row hrow2
                have hb0C := hb0B.trans (hbel.mono hb0B.size)
                have hIC := hI2.below hbel
                have hGWC := hGWB.below hbel
                clear hrow hrow2 hbel hb0B hI2 hGWB hKB
                go_wp2_with fail
                refine (choose_any s _ m _ (fun q => K (f q)) k _ hm4 hKs).mono ?_
                rintro e wD ⟨⟨aM, cM, mM, GM, rfl, hGM, eM⟩, hbD⟩
                obtain ⟨hmm, hmer⟩ := F.merged mM GM (by rw [← HM.out]; exact eM.out)
                have hmer' : Hid (∀ p, p < mW → ∃ t : Nat, GM p = (t : Int) ∧ t < m ∧ (f t : Int) = GW p) := by
                  intro p hp
                  obtain ⟨t, h1, h2, h3⟩ := hmer p hp
                  exact ⟨t, h1, by rw [HM.out]; exact h2, h3⟩
                subst hmm
                have hb0D := hb0C.trans (hbD.mono hb0C.size)
                have hID := hIC.below hbD
                have hGWD := hGWC.below hbD
                have hwant := F.want
                have hasc : Hid (∀ p, p + 1 < mM → GW p < GW (p + 1)) := F.asc
                clear hmer eM hb0C hIC hGWC hbD hKs F hflt
                have hcase : (k < 0 ∧ (mM : Int) ≤ 0) ∨ (0 ≤ k ∧ (n : Int) < k ∧ (mM : Int) ≤ n ∧ (n : Int) ≤ mM) ∨ (0 ≤ k ∧ k ≤ (n : Int) ∧ (mM : Int) ≤ k ∧ k ≤ (mM : Int)) := by
                  by_cases g1 : k < 0
                  · rw [if_pos g1] at hwant; exact .inl ⟨g1, by omega⟩
                  · rw [if_neg g1] at hwant
                    by_cases g2 : (n : Int) < k
                    · rw [if_pos g2] at hwant; exact .inr (.inl ⟨by omega, g2, by omega, by omega⟩)
                    · rw [if_neg g2] at hwant; exact .inr (.inr ⟨by omega, by omega, by omega, by omega⟩)
                clear hwant
                have hm0 : (0 : Int) ≤ (mM : Int) := by omega
                rcases hcase with ⟨g1, g2⟩ | ⟨g1, g2, g3, g4⟩ | ⟨g1, g2, g3, g4⟩
                all_goals
                  have hmn : mM ≤ 4096 := by omega
                  go_wp2
                  first
                    | rw [show ((mM : Int) != (n : Int)) = false by simp; omega]
                    | rw [show ((mM : Int) != k) = false by simp; omega]
                    | rw [show ((mM : Int) != 0) = false by simp; omega]
                    | skip
                  go_loopw [23] (fun i wr => ∃ q : Nat, 1 ≤ q ∧ q ≤ 4097 ∧ i = .int .i64 q ∧ Below wD.heap.size wD wr) (fun i _ => 4097 - (intOf i).toNat)
                  case atStart => exact ⟨1, Nat.le_refl _, by omega, rfl, Below.refl _ _⟩
                  case round =>
                    obtain ⟨q, hq1, hq2, rfl, hbelD⟩ := hrel
                    by_cases hqm : q < mM
                    · obtain ⟨b1, o1, hl1, hc1, hx1⟩ := hGWD.elem (show q - 1 < mM by omega) cW (x := (q : Int) - 1) (by omega)
                      obtain ⟨b2, o2, hl2, hc2, hx2⟩ := hGWD.elem hqm cW (x := (q : Int)) rfl
                      have d1 := (hbelD.cell (p := ⟨b1, o1, none⟩) hl1).trans hc1
                      have d2 := (hbelD.cell (p := ⟨b2, o2, none⟩) hl2).trans hc2
                      have has := hasc.out (q - 1) (by omega)
                      rw [show q - 1 + 1 = q by omega] at has
                      have hwr : IntKind.i64.wrap ((q : Int) - 1) = (q : Int) - 1 := by rw [IntKind.wrap_i64]; omega
                      clear hc1 hc2
                      first
                        | (exfalso; omega)
                        | (go_wp2
                           go_quiet (fail)
                           go_wp2
                           go_roundw
                           case rel => exact ⟨q + 1, by omega, by omega, by go_num, below_drewN hbelD _⟩
                           case measure => simp [intOf]; omega)
                    · go_wp2
                      go_loopw [24] (fun i wr => ∃ u : Nat, u ≤ mM ∧ i = .int .i64 u ∧ Below wD.heap.size wD wr) (fun i _ => mM - (intOf i).toNat)
                      case atStart => exact ⟨0, Nat.zero_le _, rfl, hbelD⟩
                      case round =>
                        clear hbelD
                        obtain ⟨z, hz, rfl, hbelD⟩ := hrel
                        by_cases hzm : z < mM
                        · obtain ⟨y, hy1, hy2, hy3⟩ := hmer'.out z hzm
                          obtain ⟨b1, o1, hl1, hc1, hx1⟩ := hGM.elem hzm cM (x := (z : Int)) rfl
                          obtain ⟨b2, o2, hl2, hc2, hx2⟩ := hID.elem hy2 cI (x := (y : Int)) rfl
                          obtain ⟨b3, o3, hl3, hc3, hx3⟩ := hGWD.elem hzm cW (x := (z : Int)) rfl
                          rw [hy1] at hc1
                          rw [hy3] at hc2
                          have d1 := (hbelD.cell (p := ⟨b1, o1, none⟩) hl1).trans hc1
                          have d2 := (hbelD.cell (p := ⟨b2, o2, none⟩) hl2).trans hc2
                          have d3 := (hbelD.cell (p := ⟨b3, o3, none⟩) hl3).trans hc3
                          clear hc1 hc2 hc3 hy1 hy3
                          first
                            | (exfalso; omega)
                            | (go_wp2
                               go_quiet (fail)
                               go_wp2
                               go_roundw
                               case rel =>
                                 first
                                   | exact ⟨z + 1, by omega, by go_num, below_drewN hbelD _⟩
                                   | ((repeat apply Exists.intro); refine ⟨?_, rfl⟩; exact ⟨z + 1, by omega, by go_num, below_drewN hbelD _⟩)
                               case measure => simp [intOf]; omega)
                        · have hbz := hb0D.trans (hbelD.mono hb0D.size)
                          go_wp2
                          go_ret
                          exact ⟨rfl, hbz⟩
end Go.Proofs.Qxb6627542a
