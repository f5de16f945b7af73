/- Punctuation: back, sing. -/
import Derived.Test.YtghmbpogniopoaaDoorF5
namespace Go.Proofs.YtghmbpogniopoaaDoor
open Go.RowKit
set_option linter.unusedVariables false
set_option linter.unusedSimpArgs false

def backR (m : Nat) (f : Nat → Int) (p : Int) (s d : Bool) : HR :=
  if 2 ≤ m ∧ f 1 = 96 then ⟨1, qout 100 (qop p (if 3 ≤ m then f 2 else 0) d) false, s, qop p (if 3 ≤ m then f 2 else 0) d⟩
  else ⟨0, [f 0], s, d⟩
set_option maxHeartbeats 8000000 in
set_option maxRecDepth 100000 in
theorem back_any (q tb : Nat) (s d : Bool) (T : Nat → Value) (b off m c : Nat) (f : Nat → Int) (p : Int) (w : World) (h : HPre q tb s d T b off m c f w) (hm : 1 ≤ m) :
    Calls Tryd.prog 26 #[.pointer (some ⟨q, 0, none⟩), .pointer (some ⟨tb, 0, none⟩), .int .u8 p, .slice (some ⟨b, off, none⟩) m c] w fun e w' => HPost q tb T (backR m f p s d) w e w' := by
  have HH := Lib.hid h
  have HT := Lib.hid h.buf
  have HB := Lib.hid (Below.refl tb w)
  have hmc := h.mc
  have hcm := h.cm
  have hcell := h.cell
  unfold maxLen at hcm
  clear h
  rcases (by omega : m = 1 ∨ m = 2 ∨ 3 ≤ m) with rfl | rfl | hm'
  · have c0 : w.cell? ⟨b, off, none⟩ = some (.int .u8 (f 0)) := hcell 0 (by omega)
    clear hcell
    go_enter Tryd.func26, Tryd.ntmps26
    go_wp2_with (first
      | (go_at_call 30; refine (tolower_any _ _ (HH.out.rng _)).mono ?_; rintro e w' ⟨rfl, rfl⟩)
      | (go_at_call 32; refine (wordB_any _ _).mono ?_; rintro e wn ⟨rfl, hbn⟩; have HB := Lib.hid (HB.out.trans (hbn.mono (Nat.le_of_lt HT.out.lt))); have HT : Hid (TBuf tb [] wn) := Lib.hid (HT.out.old hbn); have c0 := (hbn.cell (World.block_lt_of_cell? _ _ c0)).trans c0; clear hbn)
      | (go_at_call 33; refine (wC tb [] _ _ HT.out (by decide) (by decide)).mono ?_; rintro e w1 ⟨rfl, HT1, hb1⟩; have HB1 := Lib.hid (HB.out.trans hb1); clear hb1)
      | (go_at_call 34; refine (wB tb [] _ _ HT.out (by decide)).mono ?_; rintro e w1 ⟨rfl, HT1, hb1⟩; have HB1 := Lib.hid (HB.out.trans hb1); clear hb1))
    all_goals first
      | (go_ret; exact leaf 0 (by unfold backR; ((repeat' split) <;> first | rfl | (exfalso; simp at *; omega) | (exfalso; simp_all; done) | (exfalso; simp_all; omega) | (exfalso; rcases (by assumption : (m : Int) < 4 ∨ wbd (f 3) = true) with hw | hw <;> (first | omega | (simp only [hw, or_true, and_true] at *; omega))))) rfl HT1.out HB1.out HH.out.tab HH.out.qtb)
  · have c0 : w.cell? ⟨b, off, none⟩ = some (.int .u8 (f 0)) := hcell 0 (by omega)
    have c1 : w.cell? ⟨b, off + 1, none⟩ = some (.int .u8 (f 1)) := hcell 1 (by omega)
    clear hcell
    by_cases x1 : f 1 = 96
    · go_enter Tryd.func26, Tryd.ntmps26
      go_wp2_with (first
      | (go_at_call 30; refine (tolower_any _ _ (HH.out.rng _)).mono ?_; rintro e w' ⟨rfl, rfl⟩)
      | (go_at_call 32; refine (wordB_any _ _).mono ?_; rintro e wn ⟨rfl, hbn⟩; have HB := Lib.hid (HB.out.trans (hbn.mono (Nat.le_of_lt HT.out.lt))); have HT : Hid (TBuf tb [] wn) := Lib.hid (HT.out.old hbn); have c0 := (hbn.cell (World.block_lt_of_cell? _ _ c0)).trans c0; have c1 := (hbn.cell (World.block_lt_of_cell? _ _ c1)).trans c1; clear hbn)
      | (go_at_call 33; refine (wC tb [] _ _ HT.out (by decide) (by decide)).mono ?_; rintro e w1 ⟨rfl, HT1, hb1⟩; have HB1 := Lib.hid (HB.out.trans hb1); clear hb1)
      | (go_at_call 34; refine (wB tb [] _ _ HT.out (by decide)).mono ?_; rintro e w1 ⟨rfl, HT1, hb1⟩; have HB1 := Lib.hid (HB.out.trans hb1); clear hb1))
      refine (helper_any tb q 1 _ _ _ d _ [] _ HT.out HH.out.qtb ((HB.out.cell (p := ⟨q, 1, none⟩) HH.out.qtb).trans HH.out.tab.cellD) (below_frozen HB.out (p := ⟨q, 1, none⟩) HH.out.qtb (HH.out.tab.frozen 1)) (by decide)).mono ?_
      rintro e w1 ⟨rfl, HT1, hb1⟩
      have HQ1 := Lib.hid hb1
      clear hb1
      go_wp2
      go_ret
      exact leafD 1 (by unfold backR; ((repeat' split) <;> first | rfl | (exfalso; simp at *; omega) | (exfalso; simp_all; done) | (exfalso; simp_all; omega) | (exfalso; rcases (by assumption : (m : Int) < 4 ∨ wbd (f 3) = true) with hw | hw <;> (first | omega | (simp only [hw, or_true, and_true] at *; omega))))) rfl HT1.out HB.out HQ1.out HH.out.tab HH.out.qtb
    · go_enter Tryd.func26, Tryd.ntmps26
      go_wp2_with (first
      | (go_at_call 30; refine (tolower_any _ _ (HH.out.rng _)).mono ?_; rintro e w' ⟨rfl, rfl⟩)
      | (go_at_call 32; refine (wordB_any _ _).mono ?_; rintro e wn ⟨rfl, hbn⟩; have HB := Lib.hid (HB.out.trans (hbn.mono (Nat.le_of_lt HT.out.lt))); have HT : Hid (TBuf tb [] wn) := Lib.hid (HT.out.old hbn); have c0 := (hbn.cell (World.block_lt_of_cell? _ _ c0)).trans c0; have c1 := (hbn.cell (World.block_lt_of_cell? _ _ c1)).trans c1; clear hbn)
      | (go_at_call 33; refine (wC tb [] _ _ HT.out (by decide) (by decide)).mono ?_; rintro e w1 ⟨rfl, HT1, hb1⟩; have HB1 := Lib.hid (HB.out.trans hb1); clear hb1)
      | (go_at_call 34; refine (wB tb [] _ _ HT.out (by decide)).mono ?_; rintro e w1 ⟨rfl, HT1, hb1⟩; have HB1 := Lib.hid (HB.out.trans hb1); clear hb1))
      all_goals first
        | (go_ret; exact leaf 0 (by unfold backR; ((repeat' split) <;> first | rfl | (exfalso; simp at *; omega) | (exfalso; simp_all; done) | (exfalso; simp_all; omega) | (exfalso; rcases (by assumption : (m : Int) < 4 ∨ wbd (f 3) = true) with hw | hw <;> (first | omega | (simp only [hw, or_true, and_true] at *; omega))))) rfl HT1.out HB1.out HH.out.tab HH.out.qtb)
  · have c0 : w.cell? ⟨b, off, none⟩ = some (.int .u8 (f 0)) := hcell 0 (by omega)
    have c1 : w.cell? ⟨b, off + 1, none⟩ = some (.int .u8 (f 1)) := hcell 1 (by omega)
    have c2 : w.cell? ⟨b, off + 2, none⟩ = some (.int .u8 (f 2)) := hcell 2 (by omega)
    have hmi : ((3 : Nat) : Int) ≤ m := by omega
    clear hcell
    by_cases x1 : f 1 = 96
    · go_enter Tryd.func26, Tryd.ntmps26
      go_wp2_with (first
      | (go_at_call 30; refine (tolower_any _ _ (HH.out.rng _)).mono ?_; rintro e w' ⟨rfl, rfl⟩)
      | (go_at_call 32; refine (wordB_any _ _).mono ?_; rintro e wn ⟨rfl, hbn⟩; have HB := Lib.hid (HB.out.trans (hbn.mono (Nat.le_of_lt HT.out.lt))); have HT : Hid (TBuf tb [] wn) := Lib.hid (HT.out.old hbn); have c0 := (hbn.cell (World.block_lt_of_cell? _ _ c0)).trans c0; have c1 := (hbn.cell (World.block_lt_of_cell? _ _ c1)).trans c1; have c2 := (hbn.cell (World.block_lt_of_cell? _ _ c2)).trans c2; clear hbn)
      | (go_at_call 33; refine (wC tb [] _ _ HT.out (by decide) (by decide)).mono ?_; rintro e w1 ⟨rfl, HT1, hb1⟩; have HB1 := Lib.hid (HB.out.trans hb1); clear hb1)
      | (go_at_call 34; refine (wB tb [] _ _ HT.out (by decide)).mono ?_; rintro e w1 ⟨rfl, HT1, hb1⟩; have HB1 := Lib.hid (HB.out.trans hb1); clear hb1))
      refine (helper_any tb q 1 _ _ _ d _ [] _ HT.out HH.out.qtb ((HB.out.cell (p := ⟨q, 1, none⟩) HH.out.qtb).trans HH.out.tab.cellD) (below_frozen HB.out (p := ⟨q, 1, none⟩) HH.out.qtb (HH.out.tab.frozen 1)) (by decide)).mono ?_
      rintro e w1 ⟨rfl, HT1, hb1⟩
      have HQ1 := Lib.hid hb1
      clear hb1
      go_wp2
      go_ret
      exact leafD 1 (by unfold backR; ((repeat' split) <;> first | rfl | (exfalso; simp at *; omega) | (exfalso; simp_all; done) | (exfalso; simp_all; omega) | (exfalso; rcases (by assumption : (m : Int) < 4 ∨ wbd (f 3) = true) with hw | hw <;> (first | omega | (simp only [hw, or_true, and_true] at *; omega))))) rfl HT1.out HB.out HQ1.out HH.out.tab HH.out.qtb
    · go_enter Tryd.func26, Tryd.ntmps26
      go_wp2_with (first
      | (go_at_call 30; refine (tolower_any _ _ (HH.out.rng _)).mono ?_; rintro e w' ⟨rfl, rfl⟩)
      | (go_at_call 32; refine (wordB_any _ _).mono ?_; rintro e wn ⟨rfl, hbn⟩; have HB := Lib.hid (HB.out.trans (hbn.mono (Nat.le_of_lt HT.out.lt))); have HT : Hid (TBuf tb [] wn) := Lib.hid (HT.out.old hbn); have c0 := (hbn.cell (World.block_lt_of_cell? _ _ c0)).trans c0; have c1 := (hbn.cell (World.block_lt_of_cell? _ _ c1)).trans c1; have c2 := (hbn.cell (World.block_lt_of_cell? _ _ c2)).trans c2; clear hbn)
      | (go_at_call 33; refine (wC tb [] _ _ HT.out (by decide) (by decide)).mono ?_; rintro e w1 ⟨rfl, HT1, hb1⟩; have HB1 := Lib.hid (HB.out.trans hb1); clear hb1)
      | (go_at_call 34; refine (wB tb [] _ _ HT.out (by decide)).mono ?_; rintro e w1 ⟨rfl, HT1, hb1⟩; have HB1 := Lib.hid (HB.out.trans hb1); clear hb1))
      all_goals first
        | (go_ret; exact leaf 0 (by unfold backR; ((repeat' split) <;> first | rfl | (exfalso; simp at *; omega) | (exfalso; simp_all; done) | (exfalso; simp_all; omega) | (exfalso; rcases (by assumption : (m : Int) < 4 ∨ wbd (f 3) = true) with hw | hw <;> (first | omega | (simp only [hw, or_true, and_true] at *; omega))))) rfl HT1.out HB1.out HH.out.tab HH.out.qtb)

def singR (m : Nat) (f : Nat → Int) (p : Int) (s d : Bool) : HR :=
  if 2 ≤ m ∧ low (f 1) = 39 then ⟨1, qout 100 (qop p (if 3 ≤ m then f 2 else 0) d) false, s, qop p (if 3 ≤ m then f 2 else 0) d⟩
  else if 2 ≤ m ∧ (low (f 1) = 115 ∨ low (f 1) = 116 ∨ low (f 1) = 109 ∨ low (f 1) = 100) ∧ (m < 3 ∨ wbd (f 2) = true) then ⟨0, strI ⟨#[38, 114, 115, 113, 117, 111, 59]⟩, s, d⟩
  else if 3 ≤ m ∧ ((low (f 1) = 114 ∧ low (f 2) = 101) ∨ (low (f 1) = 108 ∧ low (f 2) = 108) ∨ (low (f 1) = 118 ∧ low (f 2) = 101)) ∧ (m < 4 ∨ wbd (f 3) = true) then ⟨0, strI ⟨#[38, 114, 115, 113, 117, 111, 59]⟩, s, d⟩
  else ⟨0, qout 115 (qop p (if 2 ≤ m then f 1 else 0) s) false, qop p (if 2 ≤ m then f 1 else 0) s, d⟩
set_option maxHeartbeats 8000000 in
set_option maxRecDepth 100000 in
theorem sing_any (q tb : Nat) (s d : Bool) (T : Nat → Value) (b off m c : Nat) (f : Nat → Int) (p : Int) (w : World) (h : HPre q tb s d T b off m c f w) (hm : 1 ≤ m) :
    Calls Tryd.prog 18 #[.pointer (some ⟨q, 0, none⟩), .pointer (some ⟨tb, 0, none⟩), .int .u8 p, .slice (some ⟨b, off, none⟩) m c] w fun e w' => HPost q tb T (singR m f p s d) w e w' := by
  have HH := Lib.hid h
  have HT := Lib.hid h.buf
  have HB := Lib.hid (Below.refl tb w)
  have hmc := h.mc
  have hcm := h.cm
  have hcell := h.cell
  unfold maxLen at hcm
  clear h
  rcases (by omega : m = 1 ∨ m = 2 ∨ m = 3 ∨ 4 ≤ m) with rfl | rfl | rfl | hm'
  · have c0 : w.cell? ⟨b, off, none⟩ = some (.int .u8 (f 0)) := hcell 0 (by omega)
    clear hcell
    go_enter Tryd.func18, Tryd.ntmps18
    go_wp2_with (first
      | (go_at_call 30; refine (tolower_any _ _ (HH.out.rng _)).mono ?_; rintro e w' ⟨rfl, rfl⟩)
      | (go_at_call 32; refine (wordB_any _ _).mono ?_; rintro e wn ⟨rfl, hbn⟩; have HB := Lib.hid (HB.out.trans (hbn.mono (Nat.le_of_lt HT.out.lt))); have HT : Hid (TBuf tb [] wn) := Lib.hid (HT.out.old hbn); have c0 := (hbn.cell (World.block_lt_of_cell? _ _ c0)).trans c0; clear hbn)
      | (go_at_call 33; refine (wC tb [] _ _ HT.out (by decide) (by decide)).mono ?_; rintro e w1 ⟨rfl, HT1, hb1⟩; have HB1 := Lib.hid (HB.out.trans hb1); clear hb1)
      | (go_at_call 34; refine (wB tb [] _ _ HT.out (by decide)).mono ?_; rintro e w1 ⟨rfl, HT1, hb1⟩; have HB1 := Lib.hid (HB.out.trans hb1); clear hb1))
    all_goals first
      | (go_ret; exact leaf 0 (by unfold singR; ((repeat' split) <;> first | rfl | (exfalso; simp at *; omega) | (exfalso; simp_all; done) | (exfalso; simp_all; omega) | (exfalso; rcases (by assumption : (m : Int) < 4 ∨ wbd (f 3) = true) with hw | hw <;> (first | omega | (simp only [hw, or_true, and_true] at *; omega))))) rfl HT1.out HB1.out HH.out.tab HH.out.qtb)
      | (
        refine (helper_any tb q 0 _ _ _ s _ [] _ HT.out HH.out.qtb ((HB.out.cell (p := ⟨q, 0, none⟩) HH.out.qtb).trans HH.out.tab.cellS) (below_frozen HB.out (p := ⟨q, 0, none⟩) HH.out.qtb (HH.out.tab.frozen 0)) (by decide)).mono ?_
        rintro e w1 ⟨rfl, HT1, hb1⟩
        have HQ1 := Lib.hid hb1
        clear hb1
        go_wp2
        go_ret
        exact leafS 0 (by unfold singR; ((repeat' split) <;> first | rfl | (exfalso; simp at *; omega) | (exfalso; simp_all; done) | (exfalso; simp_all; omega) | (exfalso; rcases (by assumption : (m : Int) < 4 ∨ wbd (f 3) = true) with hw | hw <;> (first | omega | (simp only [hw, or_true, and_true] at *; omega))))) rfl HT1.out HB.out HQ1.out HH.out.tab HH.out.qtb)
  · have c0 : w.cell? ⟨b, off, none⟩ = some (.int .u8 (f 0)) := hcell 0 (by omega)
    have c1 : w.cell? ⟨b, off + 1, none⟩ = some (.int .u8 (f 1)) := hcell 1 (by omega)
    clear hcell
    by_cases x1 : low (f 1) = 39
    · go_enter Tryd.func18, Tryd.ntmps18
      go_wp2_with (first
      | (go_at_call 30; refine (tolower_any _ _ (HH.out.rng _)).mono ?_; rintro e w' ⟨rfl, rfl⟩)
      | (go_at_call 32; refine (wordB_any _ _).mono ?_; rintro e wn ⟨rfl, hbn⟩; have HB := Lib.hid (HB.out.trans (hbn.mono (Nat.le_of_lt HT.out.lt))); have HT : Hid (TBuf tb [] wn) := Lib.hid (HT.out.old hbn); have c0 := (hbn.cell (World.block_lt_of_cell? _ _ c0)).trans c0; have c1 := (hbn.cell (World.block_lt_of_cell? _ _ c1)).trans c1; clear hbn)
      | (go_at_call 33; refine (wC tb [] _ _ HT.out (by decide) (by decide)).mono ?_; rintro e w1 ⟨rfl, HT1, hb1⟩; have HB1 := Lib.hid (HB.out.trans hb1); clear hb1)
      | (go_at_call 34; refine (wB tb [] _ _ HT.out (by decide)).mono ?_; rintro e w1 ⟨rfl, HT1, hb1⟩; have HB1 := Lib.hid (HB.out.trans hb1); clear hb1))
      refine (helper_any tb q 1 _ _ _ d _ [] _ HT.out HH.out.qtb ((HB.out.cell (p := ⟨q, 1, none⟩) HH.out.qtb).trans HH.out.tab.cellD) (below_frozen HB.out (p := ⟨q, 1, none⟩) HH.out.qtb (HH.out.tab.frozen 1)) (by decide)).mono ?_
      rintro e w1 ⟨rfl, HT1, hb1⟩
      have HQ1 := Lib.hid hb1
      clear hb1
      go_wp2
      go_ret
      exact leafD 1 (by unfold singR; ((repeat' split) <;> first | rfl | (exfalso; simp at *; omega) | (exfalso; simp_all; done) | (exfalso; simp_all; omega) | (exfalso; rcases (by assumption : (m : Int) < 4 ∨ wbd (f 3) = true) with hw | hw <;> (first | omega | (simp only [hw, or_true, and_true] at *; omega))))) rfl HT1.out HB.out HQ1.out HH.out.tab HH.out.qtb
    · go_enter Tryd.func18, Tryd.ntmps18
      go_wp2_with (first
      | (go_at_call 30; refine (tolower_any _ _ (HH.out.rng _)).mono ?_; rintro e w' ⟨rfl, rfl⟩)
      | (go_at_call 32; refine (wordB_any _ _).mono ?_; rintro e wn ⟨rfl, hbn⟩; have HB := Lib.hid (HB.out.trans (hbn.mono (Nat.le_of_lt HT.out.lt))); have HT : Hid (TBuf tb [] wn) := Lib.hid (HT.out.old hbn); have c0 := (hbn.cell (World.block_lt_of_cell? _ _ c0)).trans c0; have c1 := (hbn.cell (World.block_lt_of_cell? _ _ c1)).trans c1; clear hbn)
      | (go_at_call 33; refine (wC tb [] _ _ HT.out (by decide) (by decide)).mono ?_; rintro e w1 ⟨rfl, HT1, hb1⟩; have HB1 := Lib.hid (HB.out.trans hb1); clear hb1)
      | (go_at_call 34; refine (wB tb [] _ _ HT.out (by decide)).mono ?_; rintro e w1 ⟨rfl, HT1, hb1⟩; have HB1 := Lib.hid (HB.out.trans hb1); clear hb1))
      all_goals first
        | (go_ret; exact leaf 0 (by unfold singR; ((repeat' split) <;> first | rfl | (exfalso; simp at *; omega) | (exfalso; simp_all; done) | (exfalso; simp_all; omega) | (exfalso; rcases (by assumption : (m : Int) < 4 ∨ wbd (f 3) = true) with hw | hw <;> (first | omega | (simp only [hw, or_true, and_true] at *; omega))))) rfl HT1.out HB1.out HH.out.tab HH.out.qtb)
        | (
          refine (helper_any tb q 0 _ _ _ s _ [] _ HT.out HH.out.qtb ((HB.out.cell (p := ⟨q, 0, none⟩) HH.out.qtb).trans HH.out.tab.cellS) (below_frozen HB.out (p := ⟨q, 0, none⟩) HH.out.qtb (HH.out.tab.frozen 0)) (by decide)).mono ?_
          rintro e w1 ⟨rfl, HT1, hb1⟩
          have HQ1 := Lib.hid hb1
          clear hb1
          go_wp2
          go_ret
          exact leafS 0 (by unfold singR; ((repeat' split) <;> first | rfl | (exfalso; simp at *; omega) | (exfalso; simp_all; done) | (exfalso; simp_all; omega) | (exfalso; rcases (by assumption : (m : Int) < 4 ∨ wbd (f 3) = true) with hw | hw <;> (first | omega | (simp only [hw, or_true, and_true] at *; omega))))) rfl HT1.out HB.out HQ1.out HH.out.tab HH.out.qtb)
  · have c0 : w.cell? ⟨b, off, none⟩ = some (.int .u8 (f 0)) := hcell 0 (by omega)
    have c1 : w.cell? ⟨b, off + 1, none⟩ = some (.int .u8 (f 1)) := hcell 1 (by omega)
    have c2 : w.cell? ⟨b, off + 2, none⟩ = some (.int .u8 (f 2)) := hcell 2 (by omega)
    clear hcell
    by_cases x1 : low (f 1) = 39
    · go_enter Tryd.func18, Tryd.ntmps18
      go_wp2_with (first
      | (go_at_call 30; refine (tolower_any _ _ (HH.out.rng _)).mono ?_; rintro e w' ⟨rfl, rfl⟩)
      | (go_at_call 32; refine (wordB_any _ _).mono ?_; rintro e wn ⟨rfl, hbn⟩; have HB := Lib.hid (HB.out.trans (hbn.mono (Nat.le_of_lt HT.out.lt))); have HT : Hid (TBuf tb [] wn) := Lib.hid (HT.out.old hbn); have c0 := (hbn.cell (World.block_lt_of_cell? _ _ c0)).trans c0; have c1 := (hbn.cell (World.block_lt_of_cell? _ _ c1)).trans c1; have c2 := (hbn.cell (World.block_lt_of_cell? _ _ c2)).trans c2; clear hbn)
      | (go_at_call 33; refine (wC tb [] _ _ HT.out (by decide) (by decide)).mono ?_; rintro e w1 ⟨rfl, HT1, hb1⟩; have HB1 := Lib.hid (HB.out.trans hb1); clear hb1)
      | (go_at_call 34; refine (wB tb [] _ _ HT.out (by decide)).mono ?_; rintro e w1 ⟨rfl, HT1, hb1⟩; have HB1 := Lib.hid (HB.out.trans hb1); clear hb1))
      refine (helper_any tb q 1 _ _ _ d _ [] _ HT.out HH.out.qtb ((HB.out.cell (p := ⟨q, 1, none⟩) HH.out.qtb).trans HH.out.tab.cellD) (below_frozen HB.out (p := ⟨q, 1, none⟩) HH.out.qtb (HH.out.tab.frozen 1)) (by decide)).mono ?_
      rintro e w1 ⟨rfl, HT1, hb1⟩
      have HQ1 := Lib.hid hb1
      clear hb1
      go_wp2
      go_ret
      exact leafD 1 (by unfold singR; ((repeat' split) <;> first | rfl | (exfalso; simp at *; omega) | (exfalso; simp_all; done) | (exfalso; simp_all; omega) | (exfalso; rcases (by assumption : (m : Int) < 4 ∨ wbd (f 3) = true) with hw | hw <;> (first | omega | (simp only [hw, or_true, and_true] at *; omega))))) rfl HT1.out HB.out HQ1.out HH.out.tab HH.out.qtb
    · go_enter Tryd.func18, Tryd.ntmps18
      go_wp2_with (first
      | (go_at_call 30; refine (tolower_any _ _ (HH.out.rng _)).mono ?_; rintro e w' ⟨rfl, rfl⟩)
      | (go_at_call 32; refine (wordB_any _ _).mono ?_; rintro e wn ⟨rfl, hbn⟩; have HB := Lib.hid (HB.out.trans (hbn.mono (Nat.le_of_lt HT.out.lt))); have HT : Hid (TBuf tb [] wn) := Lib.hid (HT.out.old hbn); have c0 := (hbn.cell (World.block_lt_of_cell? _ _ c0)).trans c0; have c1 := (hbn.cell (World.block_lt_of_cell? _ _ c1)).trans c1; have c2 := (hbn.cell (World.block_lt_of_cell? _ _ c2)).trans c2; clear hbn)
      | (go_at_call 33; refine (wC tb [] _ _ HT.out (by decide) (by decide)).mono ?_; rintro e w1 ⟨rfl, HT1, hb1⟩; have HB1 := Lib.hid (HB.out.trans hb1); clear hb1)
      | (go_at_call 34; refine (wB tb [] _ _ HT.out (by decide)).mono ?_; rintro e w1 ⟨rfl, HT1, hb1⟩; have HB1 := Lib.hid (HB.out.trans hb1); clear hb1))
      all_goals first
        | (go_ret; exact leaf 0 (by unfold singR; ((repeat' split) <;> first | rfl | (exfalso; simp at *; omega) | (exfalso; simp_all; done) | (exfalso; simp_all; omega) | (exfalso; rcases (by assumption : (m : Int) < 4 ∨ wbd (f 3) = true) with hw | hw <;> (first | omega | (simp only [hw, or_true, and_true] at *; omega))))) rfl HT1.out HB1.out HH.out.tab HH.out.qtb)
        | (
          refine (helper_any tb q 0 _ _ _ s _ [] _ HT.out HH.out.qtb ((HB.out.cell (p := ⟨q, 0, none⟩) HH.out.qtb).trans HH.out.tab.cellS) (below_frozen HB.out (p := ⟨q, 0, none⟩) HH.out.qtb (HH.out.tab.frozen 0)) (by decide)).mono ?_
          rintro e w1 ⟨rfl, HT1, hb1⟩
          have HQ1 := Lib.hid hb1
          clear hb1
          go_wp2
          go_ret
          exact leafS 0 (by unfold singR; ((repeat' split) <;> first | rfl | (exfalso; simp at *; omega) | (exfalso; simp_all; done) | (exfalso; simp_all; omega) | (exfalso; rcases (by assumption : (m : Int) < 4 ∨ wbd (f 3) = true) with hw | hw <;> (first | omega | (simp only [hw, or_true, and_true] at *; omega))))) rfl HT1.out HB.out HQ1.out HH.out.tab HH.out.qtb)
  · have c0 : w.cell? ⟨b, off, none⟩ = some (.int .u8 (f 0)) := hcell 0 (by omega)
    have c1 : w.cell? ⟨b, off + 1, none⟩ = some (.int .u8 (f 1)) := hcell 1 (by omega)
    have c2 : w.cell? ⟨b, off + 2, none⟩ = some (.int .u8 (f 2)) := hcell 2 (by omega)
    have c3 : w.cell? ⟨b, off + 3, none⟩ = some (.int .u8 (f 3)) := hcell 3 (by omega)
    have hmi : ((4 : Nat) : Int) ≤ m := by omega
    clear hcell
    by_cases x1 : low (f 1) = 39
    · go_enter Tryd.func18, Tryd.ntmps18
      go_wp2_with (first
      | (go_at_call 30; refine (tolower_any _ _ (HH.out.rng _)).mono ?_; rintro e w' ⟨rfl, rfl⟩)
      | (go_at_call 32; refine (wordB_any _ _).mono ?_; rintro e wn ⟨rfl, hbn⟩; have HB := Lib.hid (HB.out.trans (hbn.mono (Nat.le_of_lt HT.out.lt))); have HT : Hid (TBuf tb [] wn) := Lib.hid (HT.out.old hbn); have c0 := (hbn.cell (World.block_lt_of_cell? _ _ c0)).trans c0; have c1 := (hbn.cell (World.block_lt_of_cell? _ _ c1)).trans c1; have c2 := (hbn.cell (World.block_lt_of_cell? _ _ c2)).trans c2; have c3 := (hbn.cell (World.block_lt_of_cell? _ _ c3)).trans c3; clear hbn)
      | (go_at_call 33; refine (wC tb [] _ _ HT.out (by decide) (by decide)).mono ?_; rintro e w1 ⟨rfl, HT1, hb1⟩; have HB1 := Lib.hid (HB.out.trans hb1); clear hb1)
      | (go_at_call 34; refine (wB tb [] _ _ HT.out (by decide)).mono ?_; rintro e w1 ⟨rfl, HT1, hb1⟩; have HB1 := Lib.hid (HB.out.trans hb1); clear hb1))
      refine (helper_any tb q 1 _ _ _ d _ [] _ HT.out HH.out.qtb ((HB.out.cell (p := ⟨q, 1, none⟩) HH.out.qtb).trans HH.out.tab.cellD) (below_frozen HB.out (p := ⟨q, 1, none⟩) HH.out.qtb (HH.out.tab.frozen 1)) (by decide)).mono ?_
      rintro e w1 ⟨rfl, HT1, hb1⟩
      have HQ1 := Lib.hid hb1
      clear hb1
      go_wp2
      go_ret
      exact leafD 1 (by unfold singR; ((repeat' split) <;> first | rfl | (exfalso; simp at *; omega) | (exfalso; simp_all; done) | (exfalso; simp_all; omega) | (exfalso; rcases (by assumption : (m : Int) < 4 ∨ wbd (f 3) = true) with hw | hw <;> (first | omega | (simp only [hw, or_true, and_true] at *; omega))))) rfl HT1.out HB.out HQ1.out HH.out.tab HH.out.qtb
    · go_enter Tryd.func18, Tryd.ntmps18
      go_wp2_with (first
      | (go_at_call 30; refine (tolower_any _ _ (HH.out.rng _)).mono ?_; rintro e w' ⟨rfl, rfl⟩)
      | (go_at_call 32; refine (wordB_any _ _).mono ?_; rintro e wn ⟨rfl, hbn⟩; have HB := Lib.hid (HB.out.trans (hbn.mono (Nat.le_of_lt HT.out.lt))); have HT : Hid (TBuf tb [] wn) := Lib.hid (HT.out.old hbn); have c0 := (hbn.cell (World.block_lt_of_cell? _ _ c0)).trans c0; have c1 := (hbn.cell (World.block_lt_of_cell? _ _ c1)).trans c1; have c2 := (hbn.cell (World.block_lt_of_cell? _ _ c2)).trans c2; have c3 := (hbn.cell (World.block_lt_of_cell? _ _ c3)).trans c3; clear hbn)
      | (go_at_call 33; refine (wC tb [] _ _ HT.out (by decide) (by decide)).mono ?_; rintro e w1 ⟨rfl, HT1, hb1⟩; have HB1 := Lib.hid (HB.out.trans hb1); clear hb1)
      | (go_at_call 34; refine (wB tb [] _ _ HT.out (by decide)).mono ?_; rintro e w1 ⟨rfl, HT1, hb1⟩; have HB1 := Lib.hid (HB.out.trans hb1); clear hb1))
      all_goals first
        | (go_ret; exact leaf 0 (by unfold singR; ((repeat' split) <;> first | rfl | (exfalso; simp at *; omega) | (exfalso; simp_all; done) | (exfalso; simp_all; omega) | (exfalso; rcases (by assumption : (m : Int) < 4 ∨ wbd (f 3) = true) with hw | hw <;> (first | omega | (simp only [hw, or_true, and_true] at *; omega))))) rfl HT1.out HB1.out HH.out.tab HH.out.qtb)
        | (
          refine (helper_any tb q 0 _ _ _ s _ [] _ HT.out HH.out.qtb ((HB.out.cell (p := ⟨q, 0, none⟩) HH.out.qtb).trans HH.out.tab.cellS) (below_frozen HB.out (p := ⟨q, 0, none⟩) HH.out.qtb (HH.out.tab.frozen 0)) (by decide)).mono ?_
          rintro e w1 ⟨rfl, HT1, hb1⟩
          have HQ1 := Lib.hid hb1
          clear hb1
          go_wp2
          go_ret
          exact leafS 0 (by unfold singR; ((repeat' split) <;> first | rfl | (exfalso; simp at *; omega) | (exfalso; simp_all; done) | (exfalso; simp_all; omega) | (exfalso; rcases (by assumption : (m : Int) < 4 ∨ wbd (f 3) = true) with hw | hw <;> (first | omega | (simp only [hw, or_true, and_true] at *; omega))))) rfl HT1.out HB.out HQ1.out HH.out.tab HH.out.qtb)

end Go.Proofs.YtghmbpogniopoaaDoor
