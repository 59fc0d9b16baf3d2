/-
  THE WALKS of ZZNewProcess (16) and procList (14).
-/
import Derived.Test.Qxb6627500aReads
import Derived.Deep.RegionHeld3
import Derived.Deep.AppendLies
namespace Go.Proofs.Qxb6627500a
open Go.RowKit

theorem Try.info48 : (Try.prog.info? 48).map (fun i => (i.zero, i.size, i.bytes)) = some (some (.agg #[.string ByteArray.empty, .string ByteArray.empty]), 2, 32) := by kernel_rfl

set_option maxHeartbeats 400000 in
theorem newproc (x y : ByteArray) (w : World) :
    Calls Try.prog 16 #[.string x, .string y] w fun e w' => e = .returned (.agg #[.string x, .string y]) ∧ w' = w.alloc (.cells #[.string x, .string y] 48) := by
  go_enter Try.func16, Try.ntmps16
  go_wp2
  exact bodyPost_ret (v := .agg #[.string x, .string y]) (by simp [results, Try.results16, go_sem]) rfl ⟨rfl, rfl⟩

/-- the cells of the first k processes -/
def pcells (N S : Nat → ByteArray) (k : Nat) : List Value := (List.range k).flatMap fun i => [.string (N i), .string (S i)]
theorem pcells_succ (N S : Nat → ByteArray) (k : Nat) : pcells N S (k + 1) = pcells N S k ++ [.string (N k), .string (S k)] := by
  simp [pcells, List.range_succ, List.flatMap_append]
theorem pcells_length (N S : Nat → ByteArray) (k : Nat) : (pcells N S k).length = k * 2 := by
  induction k with
  | zero => rfl
  | succ k ih => rw [pcells_succ, List.length_append, ih]; simp; omega
theorem pcells_at (N S : Nat → ByteArray) (k i : Nat) (h : i < k) : (pcells N S k)[i * 2]? = some (.string (N i)) ∧ (pcells N S k)[i * 2 + 1]? = some (.string (S i)) := by
  induction k with
  | zero => omega
  | succ k ih =>
    rw [pcells_succ]
    by_cases hk : i < k
    · rw [List.getElem?_append_left (by rw [pcells_length]; omega), List.getElem?_append_left (by rw [pcells_length]; omega)]; exact ih hk
    · obtain rfl : i = k := by omega
      rw [List.getElem?_append_right (by rw [pcells_length]; omega), List.getElem?_append_right (by rw [pcells_length]; omega), pcells_length]
      simp

theorem pairs_of_owns {w : World} {base : Nat} {v : Value} {n : Nat} {N S : Nat → ByteArray} {e : TypeId} (h : w.ownsRow base e 2 v n (pcells N S n)) : ∃ a cap, v = .slice a n cap ∧ IsPairs w a n N S := by
  rcases h.2 with ⟨rfl, rfl⟩ | ⟨g, cap, cur, rfl, hb, hg, h1, h2, h3, h4⟩
  · exact ⟨_, _, rfl, .inl rfl⟩
  · refine ⟨_, _, rfl, .inr ⟨g, 0, rfl, ?_, fun i hi => ?_⟩⟩
    · rcases Nat.lt_or_ge g w.heap.size with hlt | hge
      · exact hlt
      · rw [Array.getElem?_eq_none hge] at hg; cases hg
    · have hp := pcells_at N S n i hi
      have cell : ∀ j u, (pcells N S n)[j]? = some u → w.cell? ⟨g, 0 + j, none⟩ = some u := by
        intro j u hj
        rw [← h4] at hj
        have hj2 : j < n * 2 := by
          have := List.getElem?_eq_some_iff.1 hj
          obtain ⟨hlt, _⟩ := this
          simp at hlt; omega
        rw [List.getElem?_take, if_pos hj2] at hj
        simp [World.cell?, hg]; simpa using hj
      exact ⟨cell _ _ hp.1, cell _ _ hp.2⟩

theorem own_ge {w : World} {base : Nat} {e : TypeId} {size : Nat} {v : Value} {n : Nat} {xs : List Value} (h : w.ownsRow base e size v n xs) {j : Nat} (hj : v.ownBlock = some j) : base ≤ j := by
  rcases h.2 with ⟨rfl, _⟩ | ⟨g, cap, cur, rfl, hb, _⟩
  · cases hj
  · cases hj; exact hb

theorem heap_two (w : World) (o1 o2 : Obj) : ((w.alloc o1).alloc o2).drew.heap[w.heap.size + 1]? = some o2 := by
  show ((w.heap.push o1).push o2)[w.heap.size + 1]? = some o2
  rw [Array.getElem?_push, if_pos (by simp)]

theorem below_two {B : Nat} {w wr w2 : World} {o1 o2 : Obj} {e : TypeId} {size : Nat} {v : Value} {n : Nat} {xs : List Value} (hbel : Below B w wr) (hB : B ≤ wr.heap.size) (hown : wr.ownsRow B e size v n xs)
    (hg : ((wr.alloc o1).alloc o2).drew.grownBy w2 v.ownBlock) : Below B w w2 := by
  refine (((hbel.alloc hB _).alloc ?_ _).drew).grown hg ?_ (fun j hj => own_ge hown hj)
  · show B ≤ (wr.heap.push o1).size; simp; omega
  · show B ≤ ((wr.heap.push o1).push o2).size; simp; omega

/-- it returns a slice of these pairs -/
def RetPairs (e : Ending) (w : World) (n : Nat) (N S : Nat → ByteArray) : Prop := ∃ a cap, e = .returned (.slice a n cap) ∧ IsPairs w a n N S
theorem ret_pairs {w : World} {base : Nat} {v : Value} {k n : Nat} {N S : Nat → ByteArray} {e : TypeId} (h : w.ownsRow base e 2 v k (pcells N S k)) (hk : k = n) : RetPairs (.returned v) w n N S := by
  subst hk
  obtain ⟨a, cap, rfl, hp⟩ := pairs_of_owns h
  exact ⟨a, cap, rfl, hp⟩

set_option maxHeartbeats 1000000 in
theorem proclist (a : Option Addr) (n cap : Nat) (N S : Nat → ByteArray) (w : World) (hp : IsPairs w a n N S) (hn : n ≤ 4398046511104) :
    Calls Try.prog 14 #[.slice a n cap] w fun e w' => RetPairs e w' n N S ∧ Below w.heap.size w w' := by
  obtain ⟨i0, hi, hz0, hz1, hz2⟩ := info_parts Try.info48
  rcases hp with rfl | ⟨b, off, rfl, hlt, hc⟩
  · go_enter Try.func14, Try.ntmps14
    go_wp2_with (at_make; refine wpList_make_own _ rfl _ _ 37 rfl w.heap.size 48 i0 _ 2 Try.underlying37 hi hz0 hz1 .i64 .i64 _ 0 rfl rfl (by omega) (by rw [hz2]; omega) (by unfold maxLen; omega) (Nat.le_refl _) ?_; intro w1 hown1 hg1)
    have hb1 : Below w.heap.size w w1 := (Below.refl _ _).grown hg1 (Nat.le_refl _) (fun _ h => by cases h)
    have HR : RetPairs (.returned (.slice (some ⟨w.heap.size, 0, none⟩) 0 0)) w1 0 N S := ret_pairs (base := w.heap.size) (e := 48) (N := N) (S := S) hown1 rfl
    clear hown1 hg1
    go_loopw [3, 4] (fun v i wr => i = .int .i64 0 ∧ RetPairs (.returned v) wr 0 N S ∧ Below w.heap.size w wr) (fun _ _ _ => 0)
    case atStart => exact ⟨rfl, HR, hb1⟩
    case round =>
      obtain ⟨rfl, HR2, hb2⟩ := hrel
      go_wp2
      go_ret
      exact ⟨HR2, hb2⟩
  · go_enter Try.func14, Try.ntmps14
    go_wp2_with (at_make; refine wpList_make_own _ rfl _ _ 37 rfl w.heap.size 48 i0 _ 2 Try.underlying37 hi hz0 hz1 .i64 .i64 _ n rfl rfl (by omega) (by rw [hz2]; omega) (by unfold maxLen; omega) (Nat.le_refl _) ?_; intro w1 hown1 hg1)
    have hb1 : Below w.heap.size w w1 := (Below.refl _ _).grown hg1 (Nat.le_refl _) (fun _ h => by cases h)
    go_loopw [3, 4] (fun v i wr => ∃ k : Nat, k ≤ n ∧ i = .int .i64 k ∧ wr.ownsRow w.heap.size 48 2 v k (pcells N S k) ∧ Below w.heap.size w wr) (fun _ i _ => n - (intOf i).toNat)
    case atStart => exact ⟨0, Nat.zero_le _, rfl, hown1, hb1⟩
    case round =>
      obtain ⟨k, hk, rfl, hown, hbel⟩ := hrel
      by_cases hkn : k < n
      · obtain ⟨g1, g2⟩ := hc k hkn
        have h1 := (hbel.cell (p := ⟨b, off + k * 2, none⟩) (by assumption)).trans g1
        have h2 := (hbel.cell (p := ⟨b, off + k * 2 + 1, none⟩) (by assumption)).trans g2
        clear hc hown1 hg1 hb1
        go_wp2
        have hws := hbel.size
        have hnews : ∀ j u, [Value.string (N k), Value.string (S k)][j]? = some u → (((wr.alloc (.cells #[.string (N k), .string (S k)] 48)).alloc (.cells #[.string (N k), .string (S k)] 48)).drew).cell? ((⟨wr.heap.size + 1, 0, none⟩ : Addr).add j) = some u :=
          World.news_of_block (w := ((wr.alloc (.cells #[.string (N k), .string (S k)] 48)).alloc (.cells #[.string (N k), .string (S k)] 48)).drew) (B := wr.heap.size + 1) (cs := #[.string (N k), .string (S k)]) (t := 48) (fr := (0, 0)) (heap_two _ _ _)
        go_region_held3 (fun w' => w'.cell? ⟨b, off + k * 2, none⟩ = some (.string (N k)) ∧ w'.cell? ⟨b, off + k * 2 + 1, none⟩ = some (.string (S k))) (first | exact ⟨c1, c2⟩ | go_keep)
          (first
            | (refine step_append_lies _ rfl (.tmp 14) (.tmp 26) 37 rfl w.heap.size 48 i0 _ 2 32 Try.underlying37 hi hz0 hz1 hz2 rfl (by decide) u3 k (pcells N S k) (by simp [Act.eval]) (by exact ((hown.alloc _).alloc _).drew) ⟨wr.heap.size + 1, 0, none⟩ 1 1 [.string (N k), .string (S k)] (by simp [Act.eval]) rfl hnews (by simp; exact ⟨rfl, rfl⟩) (by decide) (by unfold maxLen; omega) (by omega) (by simp; omega) _ rfl ?_; intro g cap1 w2 hown2 hgrow2 hat2 hlt2; have hb2 := below_two hbel hws hown hgrow2; have c1 := (hb2.cell (p := ⟨b, off + k * 2, none⟩) (by assumption)).trans g1; have c2 := (hb2.cell (p := ⟨b, off + k * 2 + 1, none⟩) (by assumption)).trans g2)
            | (go_at_call 16; refine (newproc _ _ _).mono ?_; rintro e w' ⟨rfl, rfl⟩))
        go_wp2
        go_roundw
        case rel => exact ⟨k + 1, by omega, by go_num, by rw [pcells_succ]; exact hown2, hb2⟩
        case measure => simp [intOf]; omega
      · have HR := ret_pairs hown (show k = n by omega)
        clear hown
        go_wp2
        go_ret
        exact ⟨HR, hbel⟩
end Go.Proofs.Qxb6627500a
