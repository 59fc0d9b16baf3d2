/-
  THE WALKS of ZZNewSite (15), siteOf (9), siteOfTwo (7), siteWithout (10), HolderSites (8).
-/
import Derived.Test.Qxb6627500aProcs
import Derived.Maps.OwnSet
namespace Go.Proofs.Qxb6627500a
open Go.RowKit Go.Maps
open Go.WideMaps

/-- a Site whose waits are m, the rest zero -/
def siteObj (m : Option Nat) : Obj := .cells #[.string ⟨#[]⟩, .bool false, .map m, .map none, .map none, .map none, .map none, .map none, .map none, .map none, .int .i64 0] 46
set_option maxHeartbeats 400000 in
theorem newsite (m : Option Nat) (w : World) :
    Calls Try.prog 15 #[.map m] w fun e w' => e = .returned (.pointer (some ⟨w.heap.size, 0, none⟩)) ∧ w' = w.alloc (siteObj m) := by
  go_enter Try.func15, Try.ntmps15
  go_wp2
  go_ret
  exact ⟨rfl, rfl⟩

/-- an element of the map is kept as the value that it is -/
def R (v : Value) : Option (DataW Value × List MemPlace) := some (.held v, [])
theorem law : Keyed Try.prog 9 := string_keyed Try.underlying9
theorem zero37 (w : World) : (zeroValue 37).run Try.prog w = .ok (.slice none 0 0) w := by kernel_rfl
def kl (s : ByteArray) : Lit := .string s.data.toList
theorem kl_ne {s t : ByteArray} (h : s ≠ t) : kl s ≠ kl t := by
  intro e
  apply h
  have e' : s.data.toList = t.data.toList := by simpa [kl] using e
  apply ByteArray.ext
  exact Array.toList_inj.1 e'
theorem hkey {s : ByteArray} (hs : s.size ≤ maxLen) : keyOf Try.prog 9 (.string s) = some (kl s) := keyOf_string_mk Try.underlying9 hs

theorem look_of {w : World} {bm n : Nat} {D : DataW Value} {s : ByteArray} {v : Value} (hown : w.ownsMap Try.prog 9 R bm n D) (hs : s.size ≤ maxLen) (hat : D.atKey (kl s) (.held (.slice none 0 0)) = .held v) :
    (Instr.lookup 36 (.map (some bm)) (.string s) false).run Try.prog w = .ok v w := by
  obtain ⟨u, ps, hrun, hu⟩ := hown.lookup law Try.underlying36 (zero37 w) (zd := .held (.slice none 0 0)) (zp := []) rfl (hkey hs)
  rw [hat] at hu
  simp only [R, Option.some.injEq, Prod.mk.injEq, DataW.held.injEq] at hu
  rw [hrun, hu.1]

theorem grown_of_below {w w' : World} (h : Below w.heap.size w w') : w.grownBy w' none := ⟨h.os, h.tape, h.output, h.size, fun k hk _ => h.block k hk⟩

/-- the site at block B answers 'waits[wt]' by these pairs -/
def SiteHas (w : World) (B : Nat) (wt : ByteArray) (n : Nat) (N S : Nat → ByteArray) : Prop :=
  ∃ bm a cap, w.cell? ⟨B, 2, none⟩ = some (.map (some bm)) ∧ (Instr.lookup 36 (.map (some bm)) (.string wt) false).run Try.prog w = .ok (.slice a n cap) w ∧ IsPairs w a n N S
def RetSite (e : Ending) (w : World) (wt : ByteArray) (n : Nat) (N S : Nat → ByteArray) : Prop := ∃ B, e = .returned (.pointer (some ⟨B, 0, none⟩)) ∧ SiteHas w B wt n N S

theorem site_cell (w : World) (m : Option Nat) : (w.alloc (siteObj m)).cell? ⟨w.heap.size, 2, none⟩ = some (.map m) := by
  simp [siteObj, World.cell?_alloc_new]

theorem ret_site {w : World} {bm k n : Nat} {D : DataW Value} {wt : ByteArray} {a : Option Addr} {cap : Nat} {N S : Nat → ByteArray} (hown : w.ownsMap Try.prog 9 R bm k D) (hs : wt.size ≤ maxLen)
    (hat : D.atKey (kl wt) (.held (.slice none 0 0)) = .held (.slice a n cap)) (hp : IsPairs w a n N S) :
    RetSite (.returned (.pointer (some ⟨w.heap.size, 0, none⟩))) (w.alloc (siteObj (some bm))) wt n N S :=
  ⟨_, rfl, bm, a, cap, site_cell _ _, look_of (hown.alloc _) hs hat, hp.below ((Below.refl w.heap.size w).alloc (Nat.le_refl _) _) (Nat.le_refl _)⟩

theorem at_empty (s : ByteArray) : (DataW.map [] : DataW Value).atKey (kl s) (.held (.slice none 0 0)) = .held (.slice none 0 0) := rfl
theorem bytes_ne {s t : ByteArray} (h : s ≠ t) : (s.toList == t.toList) = false := by
  simp only [beq_eq_false_iff_ne, ne_eq]
  intro e
  rw [ByteArray.toList_eq, ByteArray.toList_eq] at e
  exact h (ByteArray.ext (Array.toList_inj.1 e))
theorem isKey (s : ByteArray) : WideAt.IsKeyLit (kl s) := by simp [kl, WideAt.IsKeyLit]
theorem at_same (D : DataW Value) (hD : IsMap D) (s : ByteArray) (v z : DataW Value) : (D.put (kl s) v).atKey (kl s) z = v := atKey_put_same hD (isKey s) v z
theorem at_other (D : DataW Value) (s t : ByteArray) (h : s ≠ t) (v z : DataW Value) : (D.put (kl t) v).atKey (kl s) z = D.atKey (kl s) z := atKey_put_other (kl_ne h) v z
theorem isMap_put {D : DataW Value} (hD : IsMap D) (k : Lit) (v : DataW Value) : IsMap (D.put k v) := by
  obtain ⟨es, rfl⟩ := hD
  exact ⟨_, rfl⟩

/-- behind a store into the call's own map (block B) -/
theorem below_store {B : Nat} {w w2 w3 : World} {bm : Nat} (h : Below B w w2) (hg : w2.grownBy w3 (some bm)) (hB : B ≤ bm) (hB2 : B ≤ w2.heap.size) : Below B w w3 :=
  h.grown hg hB2 (fun j hj => by cases hj; exact hB)
/-- pairs that lie apart from the map's block are as they were -/
theorem IsPairs.kept {w w' : World} {a : Option Addr} {n : Nat} {N S : Nat → ByteArray} {bm : Nat} {es : Array MapEntry} {c : Nat} (h : IsPairs w a n N S) (hm : w.heap[bm]? = some (.map es c)) (hg : w.grownBy w' (some bm)) : IsPairs w' a n N S := by
  rcases h with h | ⟨b, off, ha, hlt, hc⟩
  · exact .inl h
  · by_cases hn : n = 0
    · exact .inl hn
    · have hne : b ≠ bm := by
        intro e
        subst e
        have := (hc 0 (by omega)).1
        simp [World.cell?, hm] at this
      refine .inr ⟨b, off, ha, Nat.lt_of_lt_of_le hlt hg.size, fun i hi => ?_⟩
      obtain ⟨h1, h2⟩ := hc i hi
      exact ⟨(hg.cell_far ⟨b, off + i * 2, none⟩ hlt (by simpa using hne)).trans h1, (hg.cell_far ⟨b, off + i * 2 + 1, none⟩ hlt (by simpa using hne)).trans h2⟩

set_option maxHeartbeats 400000 in
theorem siteof (wt : ByteArray) (a : Option Addr) (n cap : Nat) (N S : Nat → ByteArray) (w : World) (hs : wt.size ≤ maxLen) (hp : IsPairs w a n N S) (hn : n ≤ 4398046511104) :
    Calls Try.prog 9 #[.string wt, .slice a n cap] w fun e w' => RetSite e w' wt n N S ∧ Below w.heap.size w w' := by
  have hmm := @run_makeMap Try.prog
  have hb0 : Below w.heap.size w (w.alloc (.map #[] 0)) := (Below.refl _ _).alloc (Nat.le_refl _) _
  have C14 := proclist a n cap N S (w.alloc (.map #[] 0)) (hp.below hb0 (Nat.le_refl _)) hn
  have hown0 := World.ownsMap_made w Try.prog 9 R
  go_enter Try.func9, Try.ntmps9
  go_wp2_with fail
  refine C14.mono ?_
  rintro e w2 ⟨⟨a', cap', rfl, hp2⟩, hb2⟩
  have hown2 := hown0.kept (grown_of_below hb2) (by simp)
  have hbb : Below w.heap.size w w2 := hb0.trans (hb2.mono (by simp))
  clear C14 hown0 hb0 hb2
  go_wp2_with (at_mapUpdate; refine wpList_mapUpdate_own _ rfl _ _ _ 36 rfl 9 37 law Try.underlying36 R w.heap.size 0 _ rfl hown2 (by unfold maxLen; omega) _ _ _ rfl rfl (hkey hs) _ [] rfl ?_; intro w3 hown3 hg3)
  have hb3 := below_store hbb hg3 (Nat.le_refl _) hbb.size
  have hp3 : IsPairs w3 a' n N S := by obtain ⟨es, c, hm, _⟩ := hown2; exact hp2.kept hm hg3
  have HR := ret_site hown3 hs (at_same _ ⟨_, rfl⟩ _ _ _) hp3
  have hb4 := hb3.alloc hb3.size (siteObj (some w.heap.size))
  clear hown2 hown3 hg3 hbb hp2 hp3
  refine (newsite _ _).mono ?_
  rintro e w' ⟨rfl, rfl⟩
  go_wp2
  go_ret
  exact ⟨HR, hb4⟩

set_option maxHeartbeats 400000 in
theorem sitetwo (wt ot : ByteArray) (a a' : Option Addr) (n cap n' cap' : Nat) (N S N' S' : Nat → ByteArray) (w : World) (hs : wt.size ≤ maxLen) (hs' : ot.size ≤ maxLen) (hp : IsPairs w a n N S) (hn : n ≤ 4398046511104) (hp' : IsPairs w a' n' N' S') (hn' : n' ≤ 4398046511104) :
    Calls Try.prog 7 #[.string wt, .slice a n cap, .string ot, .slice a' n' cap'] w fun e w' => RetSite e w' wt n N S ∧ Below w.heap.size w w' := by
  have hmm := @run_makeMap Try.prog
  have hb0 : Below w.heap.size w (w.alloc (.map #[] 0)) := (Below.refl _ _).alloc (Nat.le_refl _) _
  have hown0 := World.ownsMap_made w Try.prog 9 R
  by_cases heq : ot = wt
  · subst heq
    have C14 := proclist a n cap N S (w.alloc (.map #[] 0)) (hp.below hb0 (Nat.le_refl _)) hn
    go_enter Try.func7, Try.ntmps7
    go_wp2_with fail
    refine C14.mono ?_
    rintro e w2 ⟨⟨a', cap', rfl, hp2⟩, hb2⟩
    have hown2 := hown0.kept (grown_of_below hb2) (by simp)
    have hbb : Below w.heap.size w w2 := hb0.trans (hb2.mono (by simp))
    clear C14 hown0 hb0 hb2
    go_wp2_with (at_mapUpdate; refine wpList_mapUpdate_own _ rfl _ _ _ 36 rfl 9 37 law Try.underlying36 R w.heap.size 0 _ rfl hown2 (by unfold maxLen; omega) _ _ _ rfl rfl (hkey hs) _ [] rfl ?_; intro w3 hown3 hg3)
    have hb3 := below_store hbb hg3 (Nat.le_refl _) hbb.size
    have hp3 : IsPairs w3 a' n N S := by obtain ⟨es, c, hm, _⟩ := hown2; exact hp2.kept hm hg3
    have HR := ret_site hown3 hs (at_same _ ⟨_, rfl⟩ _ _ _) hp3
    have hb4 := hb3.alloc hb3.size (siteObj (some w.heap.size))
    clear hown2 hown3 hg3 hbb hp2 hp3
    refine (newsite _ _).mono ?_
    rintro e w' ⟨rfl, rfl⟩
    go_wp2
    go_ret
    exact ⟨HR, hb4⟩
  · have hne : (ot.toList == wt.toList) = false := by
      exact bytes_ne heq
    have C14 := proclist a' n' cap' N' S' (w.alloc (.map #[] 0)) (hp'.below hb0 (Nat.le_refl _)) hn'
    clear heq
    go_enter Try.func7, Try.ntmps7
    go_wp2_with fail
    refine C14.mono ?_
    rintro e w2 ⟨⟨a2, cap2, rfl, hp2⟩, hb2⟩
    have hown2 := hown0.kept (grown_of_below hb2) (by simp)
    have hbb : Below w.heap.size w w2 := hb0.trans (hb2.mono (by simp))
    clear C14 hown0 hb0 hb2 hp2
    go_wp2_with (at_mapUpdate; refine wpList_mapUpdate_own _ rfl _ _ _ 36 rfl 9 37 law Try.underlying36 R w.heap.size 0 _ rfl hown2 (by unfold maxLen; omega) _ _ _ rfl rfl (hkey hs') _ [] rfl ?_; intro w3 hown3 hg3)
    have hb3 := below_store hbb hg3 (Nat.le_refl _) hbb.size
    have hlt3 : w.heap.size < w3.heap.size := hown3.lt
    have C14 := proclist a n cap N S w3 (hp.below hb3 (Nat.le_refl _)) hn
    clear hown2 hbb hg3
    refine C14.mono ?_
    rintro e w4 ⟨⟨a4, cap4, rfl, hp4⟩, hb4⟩
    have hown4 := hown3.kept (grown_of_below hb4) (by simp)
    have hbb : Below w.heap.size w w4 := hb3.trans (hb4.mono (by omega))
    clear C14 hown3 hb3 hb4
    go_wp2_with (at_mapUpdate; refine wpList_mapUpdate_own _ rfl _ _ _ 36 rfl 9 37 law Try.underlying36 R w.heap.size 1 _ rfl hown4 (by unfold maxLen; omega) _ _ _ rfl rfl (hkey hs) _ [] rfl ?_; intro w5 hown5 hg5)
    have hb5 := below_store hbb hg5 (Nat.le_refl _) hbb.size
    have hp5 : IsPairs w5 a4 n N S := by obtain ⟨es, c, hm, _⟩ := hown4; exact hp4.kept hm hg5
    have HR := ret_site hown5 hs (at_same _ (isMap_put ⟨_, rfl⟩ _ _) _ _ _) hp5
    have hb6 := hb5.alloc hb5.size (siteObj (some w.heap.size))
    clear hown4 hown5 hg5 hbb hp4 hp5
    refine (newsite _ _).mono ?_
    rintro e w' ⟨rfl, rfl⟩
    go_wp2
    go_ret
    exact ⟨HR, hb6⟩

set_option maxHeartbeats 400000 in
theorem sitewithout (wt ot : ByteArray) (a' : Option Addr) (n' cap' : Nat) (N' S' : Nat → ByteArray) (w : World) (hs : wt.size ≤ maxLen) (hs' : ot.size ≤ maxLen) (hp' : IsPairs w a' n' N' S') (hn' : n' ≤ 4398046511104) :
    Calls Try.prog 10 #[.string wt, .string ot, .slice a' n' cap'] w fun e w' => RetSite e w' wt 0 N' S' ∧ Below w.heap.size w w' := by
  have hmm := @run_makeMap Try.prog
  have hb0 : Below w.heap.size w (w.alloc (.map #[] 0)) := (Below.refl _ _).alloc (Nat.le_refl _) _
  have hown0 := World.ownsMap_made w Try.prog 9 R
  by_cases heq : ot = wt
  · subst heq
    have HR := ret_site (N := N') (S := S') hown0 hs (at_empty ot) (.inl rfl)
    have hb1 := hb0.alloc hb0.size (siteObj (some w.heap.size))
    rw [show (w.alloc (.map #[] 0)).heap.size = w.heap.size + 1 by simp] at HR
    clear hown0 hb0
    go_enter Try.func10, Try.ntmps10
    go_wp2_with fail
    refine (newsite _ _).mono ?_
    rintro e w' ⟨rfl, rfl⟩
    go_wp2
    go_ret
    exact ⟨HR, hb1⟩
  · have hne : (ot.toList == wt.toList) = false := by
      exact bytes_ne heq
    have C14 := proclist a' n' cap' N' S' (w.alloc (.map #[] 0)) (hp'.below hb0 (Nat.le_refl _)) hn'
    have HNE : Hid (wt ≠ ot) := fun h => heq h.symm
    clear heq
    go_enter Try.func10, Try.ntmps10
    go_wp2_with fail
    refine C14.mono ?_
    rintro e w2 ⟨⟨a2, cap2, rfl, hp2⟩, hb2⟩
    have hown2 := hown0.kept (grown_of_below hb2) (by simp)
    have hbb : Below w.heap.size w w2 := hb0.trans (hb2.mono (by simp))
    clear C14 hown0 hb0 hb2 hp2
    go_wp2_with (at_mapUpdate; refine wpList_mapUpdate_own _ rfl _ _ _ 36 rfl 9 37 law Try.underlying36 R w.heap.size 0 _ rfl hown2 (by unfold maxLen; omega) _ _ _ rfl rfl (hkey hs') _ [] rfl ?_; intro w3 hown3 hg3)
    have hb3 := below_store hbb hg3 (Nat.le_refl _) hbb.size
    have HR := ret_site (N := N') (S := S') hown3 hs ((at_other _ _ _ HNE.out _ _).trans (at_empty wt)) (.inl rfl)
    have hb4 := hb3.alloc hb3.size (siteObj (some w.heap.size))
    clear hown2 hown3 hg3 hbb
    refine (newsite _ _).mono ?_
    rintro e w' ⟨rfl, rfl⟩
    go_wp2
    go_ret
    exact ⟨HR, hb4⟩
end Go.Proofs.Qxb6627500a
