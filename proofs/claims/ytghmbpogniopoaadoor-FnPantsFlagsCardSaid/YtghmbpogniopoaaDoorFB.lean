/- Punctuation: num2a. -/
import Derived.Test.YtghmbpogniopoaaDoorF5
namespace Go.Proofs.YtghmbpogniopoaaDoor
open Go.RowKit
set_option linter.unusedVariables false
set_option linter.unusedSimpArgs false

def numR (m : Nat) (f : Nat → Int) (p : Int) (s d : Bool) : HR :=
  if wbd p = true ∧ ¬ p = 47 ∧ 3 ≤ m ∧ f 0 = 49 ∧ f 1 = 47 ∧ f 2 = 50 ∧ (m < 4 ∨ (wbd (f 3) = true ∧ ¬ f 3 = 47)) then ⟨2, strI ⟨#[38, 102, 114, 97, 99, 49, 50, 59]⟩, s, d⟩
  else if wbd p = true ∧ ¬ p = 47 ∧ 3 ≤ m ∧ f 0 = 49 ∧ f 1 = 47 ∧ f 2 = 52 ∧ (m < 4 ∨ (wbd (f 3) = true ∧ ¬ f 3 = 47) ∨ (5 ≤ m ∧ low (f 3) = 116 ∧ low (f 4) = 104)) then ⟨2, strI ⟨#[38, 102, 114, 97, 99, 49, 52, 59]⟩, s, d⟩
  else if wbd p = true ∧ ¬ p = 47 ∧ 3 ≤ m ∧ f 0 = 51 ∧ f 1 = 47 ∧ f 2 = 52 ∧ (m < 4 ∨ (wbd (f 3) = true ∧ ¬ f 3 = 47) ∨ (6 ≤ m ∧ low (f 3) = 116 ∧ low (f 4) = 104 ∧ low (f 5) = 115)) then ⟨2, strI ⟨#[38, 102, 114, 97, 99, 51, 52, 59]⟩, s, d⟩
  else ⟨0, [f 0], s, d⟩
set_option maxHeartbeats 8000000 in
set_option maxRecDepth 100000 in
theorem num1_any (q tb : Nat) (s d : Bool) (T : Nat → Value) (b off c : Nat) (f : Nat → Int) (p : Int) (w : World) (h : HPre q tb s d T b off 1 c f w) (h0 : f 0 = 49 ∨ f 0 = 51) :
    Calls Tryd.prog 23 #[.pointer (some ⟨q, 0, none⟩), .pointer (some ⟨tb, 0, none⟩), .int .u8 p, .slice (some ⟨b, off, none⟩) 1 c] w fun e w' => HPost q tb T (numR 1 f p s d) w e w' := by
  have HH := Lib.hid h
  have HT := Lib.hid h.buf
  have HB := Lib.hid (Below.refl tb w)
  have hmc := h.mc
  have hcm := h.cm
  have hcell := h.cell
  unfold maxLen at hcm
  clear h
  have l47 : low 47 = 47 := by decide
  have c0 : w.cell? ⟨b, off, none⟩ = some (.int .u8 (f 0)) := hcell 0 (by omega)
  clear hcell
  clear h0
  cases hwp : wbd p
  · have HR : Hid (numR 1 f p s d = ⟨0, [f 0], s, d⟩) := Lib.hid (by simp [numR, hwp])
    go_enter Tryd.func23, Tryd.ntmps23
    go_wp2_with (first
      | (go_at_call 30; refine (tolower_any _ _ (HH.out.rng _)).mono ?_; rintro e w' ⟨rfl, rfl⟩)
      | (go_at_call 32; refine (wordB_any _ _).mono ?_; rintro e wn ⟨rfl, hbn⟩; have HB := Lib.hid (HB.out.trans (hbn.mono (Nat.le_of_lt HT.out.lt))); have HT : Hid (TBuf tb [] wn) := Lib.hid (HT.out.old hbn); have c0 := (hbn.cell (World.block_lt_of_cell? _ _ c0)).trans c0; clear hbn)
      | (go_at_call 33; refine (wC tb [] _ _ HT.out (by decide) (by decide)).mono ?_; rintro e w1 ⟨rfl, HT1, hb1⟩; have HB1 := Lib.hid (HB.out.trans hb1); clear hb1)
      | (go_at_call 34; refine (wB tb [] _ _ HT.out (by decide)).mono ?_; rintro e w1 ⟨rfl, HT1, hb1⟩; have HB1 := Lib.hid (HB.out.trans hb1); clear hb1))
    all_goals go_ret
    all_goals exact leaf 0 (HR.out.trans (by first | rfl | (rw [h0]; rfl))) rfl HT1.out HB1.out HH.out.tab HH.out.qtb
  · have HR : Hid (numR 1 f p s d = ⟨0, [f 0], s, d⟩) := Lib.hid (by simp [numR, hwp])
    go_enter Tryd.func23, Tryd.ntmps23
    go_wp2_with (first
      | (go_at_call 30; refine (tolower_any _ _ (HH.out.rng _)).mono ?_; rintro e w' ⟨rfl, rfl⟩)
      | (go_at_call 32; refine (wordB_any _ _).mono ?_; rintro e wn ⟨rfl, hbn⟩; have HB := Lib.hid (HB.out.trans (hbn.mono (Nat.le_of_lt HT.out.lt))); have HT : Hid (TBuf tb [] wn) := Lib.hid (HT.out.old hbn); have c0 := (hbn.cell (World.block_lt_of_cell? _ _ c0)).trans c0; clear hbn)
      | (go_at_call 33; refine (wC tb [] _ _ HT.out (by decide) (by decide)).mono ?_; rintro e w1 ⟨rfl, HT1, hb1⟩; have HB1 := Lib.hid (HB.out.trans hb1); clear hb1)
      | (go_at_call 34; refine (wB tb [] _ _ HT.out (by decide)).mono ?_; rintro e w1 ⟨rfl, HT1, hb1⟩; have HB1 := Lib.hid (HB.out.trans hb1); clear hb1))
    all_goals go_ret
    all_goals exact leaf 0 (HR.out.trans (by first | rfl | (rw [h0]; rfl))) rfl HT1.out HB1.out HH.out.tab HH.out.qtb
set_option maxHeartbeats 8000000 in
set_option maxRecDepth 100000 in
theorem num2_any (q tb : Nat) (s d : Bool) (T : Nat → Value) (b off c : Nat) (f : Nat → Int) (p : Int) (w : World) (h : HPre q tb s d T b off 2 c f w) (h0 : f 0 = 49 ∨ f 0 = 51) :
    Calls Tryd.prog 23 #[.pointer (some ⟨q, 0, none⟩), .pointer (some ⟨tb, 0, none⟩), .int .u8 p, .slice (some ⟨b, off, none⟩) 2 c] w fun e w' => HPost q tb T (numR 2 f p s d) w e w' := by
  have HH := Lib.hid h
  have HT := Lib.hid h.buf
  have HB := Lib.hid (Below.refl tb w)
  have hmc := h.mc
  have hcm := h.cm
  have hcell := h.cell
  unfold maxLen at hcm
  clear h
  have l47 : low 47 = 47 := by decide
  have c0 : w.cell? ⟨b, off, none⟩ = some (.int .u8 (f 0)) := hcell 0 (by omega)
  have c1 : w.cell? ⟨b, off + 1, none⟩ = some (.int .u8 (f 1)) := hcell 1 (by omega)
  clear hcell
  clear h0
  cases hwp : wbd p
  · have HR : Hid (numR 2 f p s d = ⟨0, [f 0], s, d⟩) := Lib.hid (by simp [numR, hwp])
    go_enter Tryd.func23, Tryd.ntmps23
    go_wp2_with (first
      | (go_at_call 30; refine (tolower_any _ _ (HH.out.rng _)).mono ?_; rintro e w' ⟨rfl, rfl⟩)
      | (go_at_call 32; refine (wordB_any _ _).mono ?_; rintro e wn ⟨rfl, hbn⟩; have HB := Lib.hid (HB.out.trans (hbn.mono (Nat.le_of_lt HT.out.lt))); have HT : Hid (TBuf tb [] wn) := Lib.hid (HT.out.old hbn); have c0 := (hbn.cell (World.block_lt_of_cell? _ _ c0)).trans c0; have c1 := (hbn.cell (World.block_lt_of_cell? _ _ c1)).trans c1; clear hbn)
      | (go_at_call 33; refine (wC tb [] _ _ HT.out (by decide) (by decide)).mono ?_; rintro e w1 ⟨rfl, HT1, hb1⟩; have HB1 := Lib.hid (HB.out.trans hb1); clear hb1)
      | (go_at_call 34; refine (wB tb [] _ _ HT.out (by decide)).mono ?_; rintro e w1 ⟨rfl, HT1, hb1⟩; have HB1 := Lib.hid (HB.out.trans hb1); clear hb1))
    all_goals go_ret
    all_goals exact leaf 0 (HR.out.trans (by first | rfl | (rw [h0]; rfl))) rfl HT1.out HB1.out HH.out.tab HH.out.qtb
  · have HR : Hid (numR 2 f p s d = ⟨0, [f 0], s, d⟩) := Lib.hid (by simp [numR, hwp])
    go_enter Tryd.func23, Tryd.ntmps23
    go_wp2_with (first
      | (go_at_call 30; refine (tolower_any _ _ (HH.out.rng _)).mono ?_; rintro e w' ⟨rfl, rfl⟩)
      | (go_at_call 32; refine (wordB_any _ _).mono ?_; rintro e wn ⟨rfl, hbn⟩; have HB := Lib.hid (HB.out.trans (hbn.mono (Nat.le_of_lt HT.out.lt))); have HT : Hid (TBuf tb [] wn) := Lib.hid (HT.out.old hbn); have c0 := (hbn.cell (World.block_lt_of_cell? _ _ c0)).trans c0; have c1 := (hbn.cell (World.block_lt_of_cell? _ _ c1)).trans c1; clear hbn)
      | (go_at_call 33; refine (wC tb [] _ _ HT.out (by decide) (by decide)).mono ?_; rintro e w1 ⟨rfl, HT1, hb1⟩; have HB1 := Lib.hid (HB.out.trans hb1); clear hb1)
      | (go_at_call 34; refine (wB tb [] _ _ HT.out (by decide)).mono ?_; rintro e w1 ⟨rfl, HT1, hb1⟩; have HB1 := Lib.hid (HB.out.trans hb1); clear hb1))
    all_goals go_ret
    all_goals exact leaf 0 (HR.out.trans (by first | rfl | (rw [h0]; rfl))) rfl HT1.out HB1.out HH.out.tab HH.out.qtb
set_option maxHeartbeats 8000000 in
set_option maxRecDepth 100000 in
theorem num3_any (q tb : Nat) (s d : Bool) (T : Nat → Value) (b off c : Nat) (f : Nat → Int) (p : Int) (w : World) (h : HPre q tb s d T b off 3 c f w) (h0 : f 0 = 49 ∨ f 0 = 51) :
    Calls Tryd.prog 23 #[.pointer (some ⟨q, 0, none⟩), .pointer (some ⟨tb, 0, none⟩), .int .u8 p, .slice (some ⟨b, off, none⟩) 3 c] w fun e w' => HPost q tb T (numR 3 f p s d) w e w' := by
  have HH := Lib.hid h
  have HT := Lib.hid h.buf
  have HB := Lib.hid (Below.refl tb w)
  have hmc := h.mc
  have hcm := h.cm
  have hcell := h.cell
  unfold maxLen at hcm
  clear h
  have l47 : low 47 = 47 := by decide
  have c0 : w.cell? ⟨b, off, none⟩ = some (.int .u8 (f 0)) := hcell 0 (by omega)
  have c1 : w.cell? ⟨b, off + 1, none⟩ = some (.int .u8 (f 1)) := hcell 1 (by omega)
  have c2 : w.cell? ⟨b, off + 2, none⟩ = some (.int .u8 (f 2)) := hcell 2 (by omega)
  clear hcell
  cases hwp : wbd p
  · have HR : Hid (numR 3 f p s d = ⟨0, [f 0], s, d⟩) := Lib.hid (by simp [numR, hwp])
    go_enter Tryd.func23, Tryd.ntmps23
    go_wp2_with (first
      | (go_at_call 30; refine (tolower_any _ _ (HH.out.rng _)).mono ?_; rintro e w' ⟨rfl, rfl⟩)
      | (go_at_call 32; refine (wordB_any _ _).mono ?_; rintro e wn ⟨rfl, hbn⟩; have HB := Lib.hid (HB.out.trans (hbn.mono (Nat.le_of_lt HT.out.lt))); have HT : Hid (TBuf tb [] wn) := Lib.hid (HT.out.old hbn); have c0 := (hbn.cell (World.block_lt_of_cell? _ _ c0)).trans c0; have c1 := (hbn.cell (World.block_lt_of_cell? _ _ c1)).trans c1; have c2 := (hbn.cell (World.block_lt_of_cell? _ _ c2)).trans c2; clear hbn)
      | (go_at_call 33; refine (wC tb [] _ _ HT.out (by decide) (by decide)).mono ?_; rintro e w1 ⟨rfl, HT1, hb1⟩; have HB1 := Lib.hid (HB.out.trans hb1); clear hb1)
      | (go_at_call 34; refine (wB tb [] _ _ HT.out (by decide)).mono ?_; rintro e w1 ⟨rfl, HT1, hb1⟩; have HB1 := Lib.hid (HB.out.trans hb1); clear hb1))
    all_goals go_ret
    all_goals exact leaf 0 (HR.out.trans (by first | rfl | (rw [h0]; rfl))) rfl HT1.out HB1.out HH.out.tab HH.out.qtb
  by_cases hp : p = 47
  · have HR : Hid (numR 3 f p s d = ⟨0, [f 0], s, d⟩) := Lib.hid (by simp [numR, hwp, hp])
    go_enter Tryd.func23, Tryd.ntmps23
    go_wp2_with (first
      | (go_at_call 30; refine (tolower_any _ _ (HH.out.rng _)).mono ?_; rintro e w' ⟨rfl, rfl⟩)
      | (go_at_call 32; refine (wordB_any _ _).mono ?_; rintro e wn ⟨rfl, hbn⟩; have HB := Lib.hid (HB.out.trans (hbn.mono (Nat.le_of_lt HT.out.lt))); have HT : Hid (TBuf tb [] wn) := Lib.hid (HT.out.old hbn); have c0 := (hbn.cell (World.block_lt_of_cell? _ _ c0)).trans c0; have c1 := (hbn.cell (World.block_lt_of_cell? _ _ c1)).trans c1; have c2 := (hbn.cell (World.block_lt_of_cell? _ _ c2)).trans c2; clear hbn)
      | (go_at_call 33; refine (wC tb [] _ _ HT.out (by decide) (by decide)).mono ?_; rintro e w1 ⟨rfl, HT1, hb1⟩; have HB1 := Lib.hid (HB.out.trans hb1); clear hb1)
      | (go_at_call 34; refine (wB tb [] _ _ HT.out (by decide)).mono ?_; rintro e w1 ⟨rfl, HT1, hb1⟩; have HB1 := Lib.hid (HB.out.trans hb1); clear hb1))
    all_goals go_ret
    all_goals exact leaf 0 (HR.out.trans (by first | rfl | (rw [h0]; rfl))) rfl HT1.out HB1.out HH.out.tab HH.out.qtb
  have hpb : (p != 47) = true := by simpa using hp
  by_cases h1 : f 1 = 47
  case neg =>
    rcases h0 with h0 | h0
    · have HR : Hid (numR 3 f p s d = ⟨0, [f 0], s, d⟩) := Lib.hid (by simp [numR, hwp, hp, h1, h0])
      go_enter Tryd.func23, Tryd.ntmps23
      go_wp2_with (first
      | (go_at_call 30; refine (tolower_any _ _ (HH.out.rng _)).mono ?_; rintro e w' ⟨rfl, rfl⟩)
      | (go_at_call 32; refine (wordB_any _ _).mono ?_; rintro e wn ⟨rfl, hbn⟩; have HB := Lib.hid (HB.out.trans (hbn.mono (Nat.le_of_lt HT.out.lt))); have HT : Hid (TBuf tb [] wn) := Lib.hid (HT.out.old hbn); have c0 := (hbn.cell (World.block_lt_of_cell? _ _ c0)).trans c0; have c1 := (hbn.cell (World.block_lt_of_cell? _ _ c1)).trans c1; have c2 := (hbn.cell (World.block_lt_of_cell? _ _ c2)).trans c2; clear hbn)
      | (go_at_call 33; refine (wC tb [] _ _ HT.out (by decide) (by decide)).mono ?_; rintro e w1 ⟨rfl, HT1, hb1⟩; have HB1 := Lib.hid (HB.out.trans hb1); clear hb1)
      | (go_at_call 34; refine (wB tb [] _ _ HT.out (by decide)).mono ?_; rintro e w1 ⟨rfl, HT1, hb1⟩; have HB1 := Lib.hid (HB.out.trans hb1); clear hb1))
      all_goals go_ret
      all_goals exact leaf 0 (HR.out.trans (by first | rfl | (rw [h0]; rfl))) rfl HT1.out HB1.out HH.out.tab HH.out.qtb
    · have HR : Hid (numR 3 f p s d = ⟨0, [f 0], s, d⟩) := Lib.hid (by simp [numR, hwp, hp, h1, h0])
      go_enter Tryd.func23, Tryd.ntmps23
      go_wp2_with (first
      | (go_at_call 30; refine (tolower_any _ _ (HH.out.rng _)).mono ?_; rintro e w' ⟨rfl, rfl⟩)
      | (go_at_call 32; refine (wordB_any _ _).mono ?_; rintro e wn ⟨rfl, hbn⟩; have HB := Lib.hid (HB.out.trans (hbn.mono (Nat.le_of_lt HT.out.lt))); have HT : Hid (TBuf tb [] wn) := Lib.hid (HT.out.old hbn); have c0 := (hbn.cell (World.block_lt_of_cell? _ _ c0)).trans c0; have c1 := (hbn.cell (World.block_lt_of_cell? _ _ c1)).trans c1; have c2 := (hbn.cell (World.block_lt_of_cell? _ _ c2)).trans c2; clear hbn)
      | (go_at_call 33; refine (wC tb [] _ _ HT.out (by decide) (by decide)).mono ?_; rintro e w1 ⟨rfl, HT1, hb1⟩; have HB1 := Lib.hid (HB.out.trans hb1); clear hb1)
      | (go_at_call 34; refine (wB tb [] _ _ HT.out (by decide)).mono ?_; rintro e w1 ⟨rfl, HT1, hb1⟩; have HB1 := Lib.hid (HB.out.trans hb1); clear hb1))
      all_goals go_ret
      all_goals exact leaf 0 (HR.out.trans (by first | rfl | (rw [h0]; rfl))) rfl HT1.out HB1.out HH.out.tab HH.out.qtb
  rcases h0 with h0 | h0
  · by_cases h2 : f 2 = 50
    · have HR : Hid (numR 3 f p s d = ⟨2, strI ⟨#[38, 102, 114, 97, 99, 49, 50, 59]⟩, s, d⟩) := Lib.hid (by simp [numR, hwp, hp, h1, h0, h2])
      go_enter Tryd.func23, Tryd.ntmps23
      go_wp2_with (first
      | (go_at_call 30; refine (tolower_any _ _ (HH.out.rng _)).mono ?_; rintro e w' ⟨rfl, rfl⟩)
      | (go_at_call 32; refine (wordB_any _ _).mono ?_; rintro e wn ⟨rfl, hbn⟩; have HB := Lib.hid (HB.out.trans (hbn.mono (Nat.le_of_lt HT.out.lt))); have HT : Hid (TBuf tb [] wn) := Lib.hid (HT.out.old hbn); have c0 := (hbn.cell (World.block_lt_of_cell? _ _ c0)).trans c0; have c1 := (hbn.cell (World.block_lt_of_cell? _ _ c1)).trans c1; have c2 := (hbn.cell (World.block_lt_of_cell? _ _ c2)).trans c2; clear hbn)
      | (go_at_call 33; refine (wC tb [] _ _ HT.out (by decide) (by decide)).mono ?_; rintro e w1 ⟨rfl, HT1, hb1⟩; have HB1 := Lib.hid (HB.out.trans hb1); clear hb1)
      | (go_at_call 34; refine (wB tb [] _ _ HT.out (by decide)).mono ?_; rintro e w1 ⟨rfl, HT1, hb1⟩; have HB1 := Lib.hid (HB.out.trans hb1); clear hb1))
      all_goals go_ret
      all_goals exact leaf 2 (HR.out.trans (by first | rfl | (rw [h0]; rfl))) rfl HT1.out HB1.out HH.out.tab HH.out.qtb
    by_cases h3 : f 2 = 52
    · have HR : Hid (numR 3 f p s d = ⟨2, strI ⟨#[38, 102, 114, 97, 99, 49, 52, 59]⟩, s, d⟩) := Lib.hid (by simp [numR, hwp, hp, h1, h0, h3])
      go_enter Tryd.func23, Tryd.ntmps23
      go_wp2_with (first
      | (go_at_call 30; refine (tolower_any _ _ (HH.out.rng _)).mono ?_; rintro e w' ⟨rfl, rfl⟩)
      | (go_at_call 32; refine (wordB_any _ _).mono ?_; rintro e wn ⟨rfl, hbn⟩; have HB := Lib.hid (HB.out.trans (hbn.mono (Nat.le_of_lt HT.out.lt))); have HT : Hid (TBuf tb [] wn) := Lib.hid (HT.out.old hbn); have c0 := (hbn.cell (World.block_lt_of_cell? _ _ c0)).trans c0; have c1 := (hbn.cell (World.block_lt_of_cell? _ _ c1)).trans c1; have c2 := (hbn.cell (World.block_lt_of_cell? _ _ c2)).trans c2; clear hbn)
      | (go_at_call 33; refine (wC tb [] _ _ HT.out (by decide) (by decide)).mono ?_; rintro e w1 ⟨rfl, HT1, hb1⟩; have HB1 := Lib.hid (HB.out.trans hb1); clear hb1)
      | (go_at_call 34; refine (wB tb [] _ _ HT.out (by decide)).mono ?_; rintro e w1 ⟨rfl, HT1, hb1⟩; have HB1 := Lib.hid (HB.out.trans hb1); clear hb1))
      all_goals go_ret
      all_goals exact leaf 2 (HR.out.trans (by first | rfl | (rw [h0]; rfl))) rfl HT1.out HB1.out HH.out.tab HH.out.qtb
    have HR : Hid (numR 3 f p s d = ⟨0, [f 0], s, d⟩) := Lib.hid (by simp [numR, hwp, hp, h1, h0, h2, h3])
    go_enter Tryd.func23, Tryd.ntmps23
    go_wp2_with (first
      | (go_at_call 30; refine (tolower_any _ _ (HH.out.rng _)).mono ?_; rintro e w' ⟨rfl, rfl⟩)
      | (go_at_call 32; refine (wordB_any _ _).mono ?_; rintro e wn ⟨rfl, hbn⟩; have HB := Lib.hid (HB.out.trans (hbn.mono (Nat.le_of_lt HT.out.lt))); have HT : Hid (TBuf tb [] wn) := Lib.hid (HT.out.old hbn); have c0 := (hbn.cell (World.block_lt_of_cell? _ _ c0)).trans c0; have c1 := (hbn.cell (World.block_lt_of_cell? _ _ c1)).trans c1; have c2 := (hbn.cell (World.block_lt_of_cell? _ _ c2)).trans c2; clear hbn)
      | (go_at_call 33; refine (wC tb [] _ _ HT.out (by decide) (by decide)).mono ?_; rintro e w1 ⟨rfl, HT1, hb1⟩; have HB1 := Lib.hid (HB.out.trans hb1); clear hb1)
      | (go_at_call 34; refine (wB tb [] _ _ HT.out (by decide)).mono ?_; rintro e w1 ⟨rfl, HT1, hb1⟩; have HB1 := Lib.hid (HB.out.trans hb1); clear hb1))
    all_goals go_ret
    all_goals exact leaf 0 (HR.out.trans (by first | rfl | (rw [h0]; rfl))) rfl HT1.out HB1.out HH.out.tab HH.out.qtb
  · by_cases h2 : f 2 = 50
    · have HR : Hid (numR 3 f p s d = ⟨0, [f 0], s, d⟩) := Lib.hid (by simp [numR, hwp, hp, h1, h0, h2])
      go_enter Tryd.func23, Tryd.ntmps23
      go_wp2_with (first
      | (go_at_call 30; refine (tolower_any _ _ (HH.out.rng _)).mono ?_; rintro e w' ⟨rfl, rfl⟩)
      | (go_at_call 32; refine (wordB_any _ _).mono ?_; rintro e wn ⟨rfl, hbn⟩; have HB := Lib.hid (HB.out.trans (hbn.mono (Nat.le_of_lt HT.out.lt))); have HT : Hid (TBuf tb [] wn) := Lib.hid (HT.out.old hbn); have c0 := (hbn.cell (World.block_lt_of_cell? _ _ c0)).trans c0; have c1 := (hbn.cell (World.block_lt_of_cell? _ _ c1)).trans c1; have c2 := (hbn.cell (World.block_lt_of_cell? _ _ c2)).trans c2; clear hbn)
      | (go_at_call 33; refine (wC tb [] _ _ HT.out (by decide) (by decide)).mono ?_; rintro e w1 ⟨rfl, HT1, hb1⟩; have HB1 := Lib.hid (HB.out.trans hb1); clear hb1)
      | (go_at_call 34; refine (wB tb [] _ _ HT.out (by decide)).mono ?_; rintro e w1 ⟨rfl, HT1, hb1⟩; have HB1 := Lib.hid (HB.out.trans hb1); clear hb1))
      all_goals go_ret
      all_goals exact leaf 0 (HR.out.trans (by first | rfl | (rw [h0]; rfl))) rfl HT1.out HB1.out HH.out.tab HH.out.qtb
    by_cases h3 : f 2 = 52
    · have HR : Hid (numR 3 f p s d = ⟨2, strI ⟨#[38, 102, 114, 97, 99, 51, 52, 59]⟩, s, d⟩) := Lib.hid (by simp [numR, hwp, hp, h1, h0, h3])
      go_enter Tryd.func23, Tryd.ntmps23
      go_wp2_with (first
      | (go_at_call 30; refine (tolower_any _ _ (HH.out.rng _)).mono ?_; rintro e w' ⟨rfl, rfl⟩)
      | (go_at_call 32; refine (wordB_any _ _).mono ?_; rintro e wn ⟨rfl, hbn⟩; have HB := Lib.hid (HB.out.trans (hbn.mono (Nat.le_of_lt HT.out.lt))); have HT : Hid (TBuf tb [] wn) := Lib.hid (HT.out.old hbn); have c0 := (hbn.cell (World.block_lt_of_cell? _ _ c0)).trans c0; have c1 := (hbn.cell (World.block_lt_of_cell? _ _ c1)).trans c1; have c2 := (hbn.cell (World.block_lt_of_cell? _ _ c2)).trans c2; clear hbn)
      | (go_at_call 33; refine (wC tb [] _ _ HT.out (by decide) (by decide)).mono ?_; rintro e w1 ⟨rfl, HT1, hb1⟩; have HB1 := Lib.hid (HB.out.trans hb1); clear hb1)
      | (go_at_call 34; refine (wB tb [] _ _ HT.out (by decide)).mono ?_; rintro e w1 ⟨rfl, HT1, hb1⟩; have HB1 := Lib.hid (HB.out.trans hb1); clear hb1))
      all_goals go_ret
      all_goals exact leaf 2 (HR.out.trans (by first | rfl | (rw [h0]; rfl))) rfl HT1.out HB1.out HH.out.tab HH.out.qtb
    have HR : Hid (numR 3 f p s d = ⟨0, [f 0], s, d⟩) := Lib.hid (by simp [numR, hwp, hp, h1, h0, h2, h3])
    go_enter Tryd.func23, Tryd.ntmps23
    go_wp2_with (first
      | (go_at_call 30; refine (tolower_any _ _ (HH.out.rng _)).mono ?_; rintro e w' ⟨rfl, rfl⟩)
      | (go_at_call 32; refine (wordB_any _ _).mono ?_; rintro e wn ⟨rfl, hbn⟩; have HB := Lib.hid (HB.out.trans (hbn.mono (Nat.le_of_lt HT.out.lt))); have HT : Hid (TBuf tb [] wn) := Lib.hid (HT.out.old hbn); have c0 := (hbn.cell (World.block_lt_of_cell? _ _ c0)).trans c0; have c1 := (hbn.cell (World.block_lt_of_cell? _ _ c1)).trans c1; have c2 := (hbn.cell (World.block_lt_of_cell? _ _ c2)).trans c2; clear hbn)
      | (go_at_call 33; refine (wC tb [] _ _ HT.out (by decide) (by decide)).mono ?_; rintro e w1 ⟨rfl, HT1, hb1⟩; have HB1 := Lib.hid (HB.out.trans hb1); clear hb1)
      | (go_at_call 34; refine (wB tb [] _ _ HT.out (by decide)).mono ?_; rintro e w1 ⟨rfl, HT1, hb1⟩; have HB1 := Lib.hid (HB.out.trans hb1); clear hb1))
    all_goals go_ret
    all_goals exact leaf 0 (HR.out.trans (by first | rfl | (rw [h0]; rfl))) rfl HT1.out HB1.out HH.out.tab HH.out.qtb
set_option maxHeartbeats 8000000 in
set_option maxRecDepth 100000 in
theorem num4_any (q tb : Nat) (s d : Bool) (T : Nat → Value) (b off c : Nat) (f : Nat → Int) (p : Int) (w : World) (h : HPre q tb s d T b off 4 c f w) (h0 : f 0 = 49 ∨ f 0 = 51) :
    Calls Tryd.prog 23 #[.pointer (some ⟨q, 0, none⟩), .pointer (some ⟨tb, 0, none⟩), .int .u8 p, .slice (some ⟨b, off, none⟩) 4 c] w fun e w' => HPost q tb T (numR 4 f p s d) w e w' := by
  have HH := Lib.hid h
  have HT := Lib.hid h.buf
  have HB := Lib.hid (Below.refl tb w)
  have hmc := h.mc
  have hcm := h.cm
  have hcell := h.cell
  unfold maxLen at hcm
  clear h
  have l47 : low 47 = 47 := by decide
  have c0 : w.cell? ⟨b, off, none⟩ = some (.int .u8 (f 0)) := hcell 0 (by omega)
  have c1 : w.cell? ⟨b, off + 1, none⟩ = some (.int .u8 (f 1)) := hcell 1 (by omega)
  have c2 : w.cell? ⟨b, off + 2, none⟩ = some (.int .u8 (f 2)) := hcell 2 (by omega)
  have c3 : w.cell? ⟨b, off + 3, none⟩ = some (.int .u8 (f 3)) := hcell 3 (by omega)
  clear hcell
  cases hwp : wbd p
  · have HR : Hid (numR 4 f p s d = ⟨0, [f 0], s, d⟩) := Lib.hid (by simp [numR, hwp])
    go_enter Tryd.func23, Tryd.ntmps23
    go_wp2_with (first
      | (go_at_call 30; refine (tolower_any _ _ (HH.out.rng _)).mono ?_; rintro e w' ⟨rfl, rfl⟩)
      | (go_at_call 32; refine (wordB_any _ _).mono ?_; rintro e wn ⟨rfl, hbn⟩; have HB := Lib.hid (HB.out.trans (hbn.mono (Nat.le_of_lt HT.out.lt))); have HT : Hid (TBuf tb [] wn) := Lib.hid (HT.out.old hbn); have c0 := (hbn.cell (World.block_lt_of_cell? _ _ c0)).trans c0; have c1 := (hbn.cell (World.block_lt_of_cell? _ _ c1)).trans c1; have c2 := (hbn.cell (World.block_lt_of_cell? _ _ c2)).trans c2; have c3 := (hbn.cell (World.block_lt_of_cell? _ _ c3)).trans c3; clear hbn)
      | (go_at_call 33; refine (wC tb [] _ _ HT.out (by decide) (by decide)).mono ?_; rintro e w1 ⟨rfl, HT1, hb1⟩; have HB1 := Lib.hid (HB.out.trans hb1); clear hb1)
      | (go_at_call 34; refine (wB tb [] _ _ HT.out (by decide)).mono ?_; rintro e w1 ⟨rfl, HT1, hb1⟩; have HB1 := Lib.hid (HB.out.trans hb1); clear hb1))
    all_goals go_ret
    all_goals exact leaf 0 (HR.out.trans (by first | rfl | (rw [h0]; rfl))) rfl HT1.out HB1.out HH.out.tab HH.out.qtb
  by_cases hp : p = 47
  · have HR : Hid (numR 4 f p s d = ⟨0, [f 0], s, d⟩) := Lib.hid (by simp [numR, hwp, hp])
    go_enter Tryd.func23, Tryd.ntmps23
    go_wp2_with (first
      | (go_at_call 30; refine (tolower_any _ _ (HH.out.rng _)).mono ?_; rintro e w' ⟨rfl, rfl⟩)
      | (go_at_call 32; refine (wordB_any _ _).mono ?_; rintro e wn ⟨rfl, hbn⟩; have HB := Lib.hid (HB.out.trans (hbn.mono (Nat.le_of_lt HT.out.lt))); have HT : Hid (TBuf tb [] wn) := Lib.hid (HT.out.old hbn); have c0 := (hbn.cell (World.block_lt_of_cell? _ _ c0)).trans c0; have c1 := (hbn.cell (World.block_lt_of_cell? _ _ c1)).trans c1; have c2 := (hbn.cell (World.block_lt_of_cell? _ _ c2)).trans c2; have c3 := (hbn.cell (World.block_lt_of_cell? _ _ c3)).trans c3; clear hbn)
      | (go_at_call 33; refine (wC tb [] _ _ HT.out (by decide) (by decide)).mono ?_; rintro e w1 ⟨rfl, HT1, hb1⟩; have HB1 := Lib.hid (HB.out.trans hb1); clear hb1)
      | (go_at_call 34; refine (wB tb [] _ _ HT.out (by decide)).mono ?_; rintro e w1 ⟨rfl, HT1, hb1⟩; have HB1 := Lib.hid (HB.out.trans hb1); clear hb1))
    all_goals go_ret
    all_goals exact leaf 0 (HR.out.trans (by first | rfl | (rw [h0]; rfl))) rfl HT1.out HB1.out HH.out.tab HH.out.qtb
  have hpb : (p != 47) = true := by simpa using hp
  by_cases h1 : f 1 = 47
  case neg =>
    rcases h0 with h0 | h0
    · have HR : Hid (numR 4 f p s d = ⟨0, [f 0], s, d⟩) := Lib.hid (by simp [numR, hwp, hp, h1, h0])
      go_enter Tryd.func23, Tryd.ntmps23
      go_wp2_with (first
      | (go_at_call 30; refine (tolower_any _ _ (HH.out.rng _)).mono ?_; rintro e w' ⟨rfl, rfl⟩)
      | (go_at_call 32; refine (wordB_any _ _).mono ?_; rintro e wn ⟨rfl, hbn⟩; have HB := Lib.hid (HB.out.trans (hbn.mono (Nat.le_of_lt HT.out.lt))); have HT : Hid (TBuf tb [] wn) := Lib.hid (HT.out.old hbn); have c0 := (hbn.cell (World.block_lt_of_cell? _ _ c0)).trans c0; have c1 := (hbn.cell (World.block_lt_of_cell? _ _ c1)).trans c1; have c2 := (hbn.cell (World.block_lt_of_cell? _ _ c2)).trans c2; have c3 := (hbn.cell (World.block_lt_of_cell? _ _ c3)).trans c3; clear hbn)
      | (go_at_call 33; refine (wC tb [] _ _ HT.out (by decide) (by decide)).mono ?_; rintro e w1 ⟨rfl, HT1, hb1⟩; have HB1 := Lib.hid (HB.out.trans hb1); clear hb1)
      | (go_at_call 34; refine (wB tb [] _ _ HT.out (by decide)).mono ?_; rintro e w1 ⟨rfl, HT1, hb1⟩; have HB1 := Lib.hid (HB.out.trans hb1); clear hb1))
      all_goals go_ret
      all_goals exact leaf 0 (HR.out.trans (by first | rfl | (rw [h0]; rfl))) rfl HT1.out HB1.out HH.out.tab HH.out.qtb
    · have HR : Hid (numR 4 f p s d = ⟨0, [f 0], s, d⟩) := Lib.hid (by simp [numR, hwp, hp, h1, h0])
      go_enter Tryd.func23, Tryd.ntmps23
      go_wp2_with (first
      | (go_at_call 30; refine (tolower_any _ _ (HH.out.rng _)).mono ?_; rintro e w' ⟨rfl, rfl⟩)
      | (go_at_call 32; refine (wordB_any _ _).mono ?_; rintro e wn ⟨rfl, hbn⟩; have HB := Lib.hid (HB.out.trans (hbn.mono (Nat.le_of_lt HT.out.lt))); have HT : Hid (TBuf tb [] wn) := Lib.hid (HT.out.old hbn); have c0 := (hbn.cell (World.block_lt_of_cell? _ _ c0)).trans c0; have c1 := (hbn.cell (World.block_lt_of_cell? _ _ c1)).trans c1; have c2 := (hbn.cell (World.block_lt_of_cell? _ _ c2)).trans c2; have c3 := (hbn.cell (World.block_lt_of_cell? _ _ c3)).trans c3; clear hbn)
      | (go_at_call 33; refine (wC tb [] _ _ HT.out (by decide) (by decide)).mono ?_; rintro e w1 ⟨rfl, HT1, hb1⟩; have HB1 := Lib.hid (HB.out.trans hb1); clear hb1)
      | (go_at_call 34; refine (wB tb [] _ _ HT.out (by decide)).mono ?_; rintro e w1 ⟨rfl, HT1, hb1⟩; have HB1 := Lib.hid (HB.out.trans hb1); clear hb1))
      all_goals go_ret
      all_goals exact leaf 0 (HR.out.trans (by first | rfl | (rw [h0]; rfl))) rfl HT1.out HB1.out HH.out.tab HH.out.qtb
  rcases h0 with h0 | h0
  · by_cases h2 : f 2 = 50
    · cases hw3 : wbd (f 3)
      · have HR : Hid (numR 4 f p s d = ⟨0, [f 0], s, d⟩) := Lib.hid (by simp [numR, hwp, hp, h1, h0, h2, hw3])
        go_enter Tryd.func23, Tryd.ntmps23
        go_wp2_with (first
      | (go_at_call 30; refine (tolower_any _ _ (HH.out.rng _)).mono ?_; rintro e w' ⟨rfl, rfl⟩)
      | (go_at_call 32; refine (wordB_any _ _).mono ?_; rintro e wn ⟨rfl, hbn⟩; have HB := Lib.hid (HB.out.trans (hbn.mono (Nat.le_of_lt HT.out.lt))); have HT : Hid (TBuf tb [] wn) := Lib.hid (HT.out.old hbn); have c0 := (hbn.cell (World.block_lt_of_cell? _ _ c0)).trans c0; have c1 := (hbn.cell (World.block_lt_of_cell? _ _ c1)).trans c1; have c2 := (hbn.cell (World.block_lt_of_cell? _ _ c2)).trans c2; have c3 := (hbn.cell (World.block_lt_of_cell? _ _ c3)).trans c3; clear hbn)
      | (go_at_call 33; refine (wC tb [] _ _ HT.out (by decide) (by decide)).mono ?_; rintro e w1 ⟨rfl, HT1, hb1⟩; have HB1 := Lib.hid (HB.out.trans hb1); clear hb1)
      | (go_at_call 34; refine (wB tb [] _ _ HT.out (by decide)).mono ?_; rintro e w1 ⟨rfl, HT1, hb1⟩; have HB1 := Lib.hid (HB.out.trans hb1); clear hb1))
        all_goals go_ret
        all_goals exact leaf 0 (HR.out.trans (by first | rfl | (rw [h0]; rfl))) rfl HT1.out HB1.out HH.out.tab HH.out.qtb
      · by_cases h47 : f 3 = 47
        · have HR : Hid (numR 4 f p s d = ⟨0, [f 0], s, d⟩) := Lib.hid (by simp [numR, hwp, hp, h1, h0, h2, hw3, h47, l47])
          have hb47 : (f 3 != 47) = false := by simp [h47]
          have hl0 : ¬ low (f 3) = 116 := by rw [h47]; decide
          clear h47 l47
          go_enter Tryd.func23, Tryd.ntmps23
          go_wp2_with (first
      | (go_at_call 30; refine (tolower_any _ _ (HH.out.rng _)).mono ?_; rintro e w' ⟨rfl, rfl⟩)
      | (go_at_call 32; refine (wordB_any _ _).mono ?_; rintro e wn ⟨rfl, hbn⟩; have HB := Lib.hid (HB.out.trans (hbn.mono (Nat.le_of_lt HT.out.lt))); have HT : Hid (TBuf tb [] wn) := Lib.hid (HT.out.old hbn); have c0 := (hbn.cell (World.block_lt_of_cell? _ _ c0)).trans c0; have c1 := (hbn.cell (World.block_lt_of_cell? _ _ c1)).trans c1; have c2 := (hbn.cell (World.block_lt_of_cell? _ _ c2)).trans c2; have c3 := (hbn.cell (World.block_lt_of_cell? _ _ c3)).trans c3; clear hbn)
      | (go_at_call 33; refine (wC tb [] _ _ HT.out (by decide) (by decide)).mono ?_; rintro e w1 ⟨rfl, HT1, hb1⟩; have HB1 := Lib.hid (HB.out.trans hb1); clear hb1)
      | (go_at_call 34; refine (wB tb [] _ _ HT.out (by decide)).mono ?_; rintro e w1 ⟨rfl, HT1, hb1⟩; have HB1 := Lib.hid (HB.out.trans hb1); clear hb1))
          all_goals go_ret
          all_goals exact leaf 0 (HR.out.trans (by first | rfl | (rw [h0]; rfl))) rfl HT1.out HB1.out HH.out.tab HH.out.qtb
        · have HR : Hid (numR 4 f p s d = ⟨2, strI ⟨#[38, 102, 114, 97, 99, 49, 50, 59]⟩, s, d⟩) := Lib.hid (by simp [numR, hwp, hp, h1, h0, h2, hw3, h47])
          have hb47 : (f 3 != 47) = true := by simpa using h47
          go_enter Tryd.func23, Tryd.ntmps23
          go_wp2_with (first
      | (go_at_call 30; refine (tolower_any _ _ (HH.out.rng _)).mono ?_; rintro e w' ⟨rfl, rfl⟩)
      | (go_at_call 32; refine (wordB_any _ _).mono ?_; rintro e wn ⟨rfl, hbn⟩; have HB := Lib.hid (HB.out.trans (hbn.mono (Nat.le_of_lt HT.out.lt))); have HT : Hid (TBuf tb [] wn) := Lib.hid (HT.out.old hbn); have c0 := (hbn.cell (World.block_lt_of_cell? _ _ c0)).trans c0; have c1 := (hbn.cell (World.block_lt_of_cell? _ _ c1)).trans c1; have c2 := (hbn.cell (World.block_lt_of_cell? _ _ c2)).trans c2; have c3 := (hbn.cell (World.block_lt_of_cell? _ _ c3)).trans c3; clear hbn)
      | (go_at_call 33; refine (wC tb [] _ _ HT.out (by decide) (by decide)).mono ?_; rintro e w1 ⟨rfl, HT1, hb1⟩; have HB1 := Lib.hid (HB.out.trans hb1); clear hb1)
      | (go_at_call 34; refine (wB tb [] _ _ HT.out (by decide)).mono ?_; rintro e w1 ⟨rfl, HT1, hb1⟩; have HB1 := Lib.hid (HB.out.trans hb1); clear hb1))
          all_goals go_ret
          all_goals exact leaf 2 (HR.out.trans (by first | rfl | (rw [h0]; rfl))) rfl HT1.out HB1.out HH.out.tab HH.out.qtb
    by_cases h3 : f 2 = 52
    · cases hw3 : wbd (f 3)
      · have HR : Hid (numR 4 f p s d = ⟨0, [f 0], s, d⟩) := Lib.hid (by simp [numR, hwp, hp, h1, h0, h3, hw3])
        go_enter Tryd.func23, Tryd.ntmps23
        go_wp2_with (first
      | (go_at_call 30; refine (tolower_any _ _ (HH.out.rng _)).mono ?_; rintro e w' ⟨rfl, rfl⟩)
      | (go_at_call 32; refine (wordB_any _ _).mono ?_; rintro e wn ⟨rfl, hbn⟩; have HB := Lib.hid (HB.out.trans (hbn.mono (Nat.le_of_lt HT.out.lt))); have HT : Hid (TBuf tb [] wn) := Lib.hid (HT.out.old hbn); have c0 := (hbn.cell (World.block_lt_of_cell? _ _ c0)).trans c0; have c1 := (hbn.cell (World.block_lt_of_cell? _ _ c1)).trans c1; have c2 := (hbn.cell (World.block_lt_of_cell? _ _ c2)).trans c2; have c3 := (hbn.cell (World.block_lt_of_cell? _ _ c3)).trans c3; clear hbn)
      | (go_at_call 33; refine (wC tb [] _ _ HT.out (by decide) (by decide)).mono ?_; rintro e w1 ⟨rfl, HT1, hb1⟩; have HB1 := Lib.hid (HB.out.trans hb1); clear hb1)
      | (go_at_call 34; refine (wB tb [] _ _ HT.out (by decide)).mono ?_; rintro e w1 ⟨rfl, HT1, hb1⟩; have HB1 := Lib.hid (HB.out.trans hb1); clear hb1))
        all_goals go_ret
        all_goals exact leaf 0 (HR.out.trans (by first | rfl | (rw [h0]; rfl))) rfl HT1.out HB1.out HH.out.tab HH.out.qtb
      · by_cases h47 : f 3 = 47
        · have HR : Hid (numR 4 f p s d = ⟨0, [f 0], s, d⟩) := Lib.hid (by simp [numR, hwp, hp, h1, h0, h3, hw3, h47, l47])
          have hb47 : (f 3 != 47) = false := by simp [h47]
          have hl0 : ¬ low (f 3) = 116 := by rw [h47]; decide
          clear h47 l47
          go_enter Tryd.func23, Tryd.ntmps23
          go_wp2_with (first
      | (go_at_call 30; refine (tolower_any _ _ (HH.out.rng _)).mono ?_; rintro e w' ⟨rfl, rfl⟩)
      | (go_at_call 32; refine (wordB_any _ _).mono ?_; rintro e wn ⟨rfl, hbn⟩; have HB := Lib.hid (HB.out.trans (hbn.mono (Nat.le_of_lt HT.out.lt))); have HT : Hid (TBuf tb [] wn) := Lib.hid (HT.out.old hbn); have c0 := (hbn.cell (World.block_lt_of_cell? _ _ c0)).trans c0; have c1 := (hbn.cell (World.block_lt_of_cell? _ _ c1)).trans c1; have c2 := (hbn.cell (World.block_lt_of_cell? _ _ c2)).trans c2; have c3 := (hbn.cell (World.block_lt_of_cell? _ _ c3)).trans c3; clear hbn)
      | (go_at_call 33; refine (wC tb [] _ _ HT.out (by decide) (by decide)).mono ?_; rintro e w1 ⟨rfl, HT1, hb1⟩; have HB1 := Lib.hid (HB.out.trans hb1); clear hb1)
      | (go_at_call 34; refine (wB tb [] _ _ HT.out (by decide)).mono ?_; rintro e w1 ⟨rfl, HT1, hb1⟩; have HB1 := Lib.hid (HB.out.trans hb1); clear hb1))
          all_goals go_ret
          all_goals exact leaf 0 (HR.out.trans (by first | rfl | (rw [h0]; rfl))) rfl HT1.out HB1.out HH.out.tab HH.out.qtb
        · have HR : Hid (numR 4 f p s d = ⟨2, strI ⟨#[38, 102, 114, 97, 99, 49, 52, 59]⟩, s, d⟩) := Lib.hid (by simp [numR, hwp, hp, h1, h0, h3, hw3, h47])
          have hb47 : (f 3 != 47) = true := by simpa using h47
          go_enter Tryd.func23, Tryd.ntmps23
          go_wp2_with (first
      | (go_at_call 30; refine (tolower_any _ _ (HH.out.rng _)).mono ?_; rintro e w' ⟨rfl, rfl⟩)
      | (go_at_call 32; refine (wordB_any _ _).mono ?_; rintro e wn ⟨rfl, hbn⟩; have HB := Lib.hid (HB.out.trans (hbn.mono (Nat.le_of_lt HT.out.lt))); have HT : Hid (TBuf tb [] wn) := Lib.hid (HT.out.old hbn); have c0 := (hbn.cell (World.block_lt_of_cell? _ _ c0)).trans c0; have c1 := (hbn.cell (World.block_lt_of_cell? _ _ c1)).trans c1; have c2 := (hbn.cell (World.block_lt_of_cell? _ _ c2)).trans c2; have c3 := (hbn.cell (World.block_lt_of_cell? _ _ c3)).trans c3; clear hbn)
      | (go_at_call 33; refine (wC tb [] _ _ HT.out (by decide) (by decide)).mono ?_; rintro e w1 ⟨rfl, HT1, hb1⟩; have HB1 := Lib.hid (HB.out.trans hb1); clear hb1)
      | (go_at_call 34; refine (wB tb [] _ _ HT.out (by decide)).mono ?_; rintro e w1 ⟨rfl, HT1, hb1⟩; have HB1 := Lib.hid (HB.out.trans hb1); clear hb1))
          all_goals go_ret
          all_goals exact leaf 2 (HR.out.trans (by first | rfl | (rw [h0]; rfl))) rfl HT1.out HB1.out HH.out.tab HH.out.qtb
    have HR : Hid (numR 4 f p s d = ⟨0, [f 0], s, d⟩) := Lib.hid (by simp [numR, hwp, hp, h1, h0, h2, h3])
    go_enter Tryd.func23, Tryd.ntmps23
    go_wp2_with (first
      | (go_at_call 30; refine (tolower_any _ _ (HH.out.rng _)).mono ?_; rintro e w' ⟨rfl, rfl⟩)
      | (go_at_call 32; refine (wordB_any _ _).mono ?_; rintro e wn ⟨rfl, hbn⟩; have HB := Lib.hid (HB.out.trans (hbn.mono (Nat.le_of_lt HT.out.lt))); have HT : Hid (TBuf tb [] wn) := Lib.hid (HT.out.old hbn); have c0 := (hbn.cell (World.block_lt_of_cell? _ _ c0)).trans c0; have c1 := (hbn.cell (World.block_lt_of_cell? _ _ c1)).trans c1; have c2 := (hbn.cell (World.block_lt_of_cell? _ _ c2)).trans c2; have c3 := (hbn.cell (World.block_lt_of_cell? _ _ c3)).trans c3; clear hbn)
      | (go_at_call 33; refine (wC tb [] _ _ HT.out (by decide) (by decide)).mono ?_; rintro e w1 ⟨rfl, HT1, hb1⟩; have HB1 := Lib.hid (HB.out.trans hb1); clear hb1)
      | (go_at_call 34; refine (wB tb [] _ _ HT.out (by decide)).mono ?_; rintro e w1 ⟨rfl, HT1, hb1⟩; have HB1 := Lib.hid (HB.out.trans hb1); clear hb1))
    all_goals go_ret
    all_goals exact leaf 0 (HR.out.trans (by first | rfl | (rw [h0]; rfl))) rfl HT1.out HB1.out HH.out.tab HH.out.qtb
  · by_cases h2 : f 2 = 50
    · have HR : Hid (numR 4 f p s d = ⟨0, [f 0], s, d⟩) := Lib.hid (by simp [numR, hwp, hp, h1, h0, h2])
      go_enter Tryd.func23, Tryd.ntmps23
      go_wp2_with (first
      | (go_at_call 30; refine (tolower_any _ _ (HH.out.rng _)).mono ?_; rintro e w' ⟨rfl, rfl⟩)
      | (go_at_call 32; refine (wordB_any _ _).mono ?_; rintro e wn ⟨rfl, hbn⟩; have HB := Lib.hid (HB.out.trans (hbn.mono (Nat.le_of_lt HT.out.lt))); have HT : Hid (TBuf tb [] wn) := Lib.hid (HT.out.old hbn); have c0 := (hbn.cell (World.block_lt_of_cell? _ _ c0)).trans c0; have c1 := (hbn.cell (World.block_lt_of_cell? _ _ c1)).trans c1; have c2 := (hbn.cell (World.block_lt_of_cell? _ _ c2)).trans c2; have c3 := (hbn.cell (World.block_lt_of_cell? _ _ c3)).trans c3; clear hbn)
      | (go_at_call 33; refine (wC tb [] _ _ HT.out (by decide) (by decide)).mono ?_; rintro e w1 ⟨rfl, HT1, hb1⟩; have HB1 := Lib.hid (HB.out.trans hb1); clear hb1)
      | (go_at_call 34; refine (wB tb [] _ _ HT.out (by decide)).mono ?_; rintro e w1 ⟨rfl, HT1, hb1⟩; have HB1 := Lib.hid (HB.out.trans hb1); clear hb1))
      all_goals go_ret
      all_goals exact leaf 0 (HR.out.trans (by first | rfl | (rw [h0]; rfl))) rfl HT1.out HB1.out HH.out.tab HH.out.qtb
    by_cases h3 : f 2 = 52
    · cases hw3 : wbd (f 3)
      · have HR : Hid (numR 4 f p s d = ⟨0, [f 0], s, d⟩) := Lib.hid (by simp [numR, hwp, hp, h1, h0, h3, hw3])
        go_enter Tryd.func23, Tryd.ntmps23
        go_wp2_with (first
      | (go_at_call 30; refine (tolower_any _ _ (HH.out.rng _)).mono ?_; rintro e w' ⟨rfl, rfl⟩)
      | (go_at_call 32; refine (wordB_any _ _).mono ?_; rintro e wn ⟨rfl, hbn⟩; have HB := Lib.hid (HB.out.trans (hbn.mono (Nat.le_of_lt HT.out.lt))); have HT : Hid (TBuf tb [] wn) := Lib.hid (HT.out.old hbn); have c0 := (hbn.cell (World.block_lt_of_cell? _ _ c0)).trans c0; have c1 := (hbn.cell (World.block_lt_of_cell? _ _ c1)).trans c1; have c2 := (hbn.cell (World.block_lt_of_cell? _ _ c2)).trans c2; have c3 := (hbn.cell (World.block_lt_of_cell? _ _ c3)).trans c3; clear hbn)
      | (go_at_call 33; refine (wC tb [] _ _ HT.out (by decide) (by decide)).mono ?_; rintro e w1 ⟨rfl, HT1, hb1⟩; have HB1 := Lib.hid (HB.out.trans hb1); clear hb1)
      | (go_at_call 34; refine (wB tb [] _ _ HT.out (by decide)).mono ?_; rintro e w1 ⟨rfl, HT1, hb1⟩; have HB1 := Lib.hid (HB.out.trans hb1); clear hb1))
        all_goals go_ret
        all_goals exact leaf 0 (HR.out.trans (by first | rfl | (rw [h0]; rfl))) rfl HT1.out HB1.out HH.out.tab HH.out.qtb
      · by_cases h47 : f 3 = 47
        · have HR : Hid (numR 4 f p s d = ⟨0, [f 0], s, d⟩) := Lib.hid (by simp [numR, hwp, hp, h1, h0, h3, hw3, h47, l47])
          have hb47 : (f 3 != 47) = false := by simp [h47]
          have hl0 : ¬ low (f 3) = 116 := by rw [h47]; decide
          clear h47 l47
          go_enter Tryd.func23, Tryd.ntmps23
          go_wp2_with (first
      | (go_at_call 30; refine (tolower_any _ _ (HH.out.rng _)).mono ?_; rintro e w' ⟨rfl, rfl⟩)
      | (go_at_call 32; refine (wordB_any _ _).mono ?_; rintro e wn ⟨rfl, hbn⟩; have HB := Lib.hid (HB.out.trans (hbn.mono (Nat.le_of_lt HT.out.lt))); have HT : Hid (TBuf tb [] wn) := Lib.hid (HT.out.old hbn); have c0 := (hbn.cell (World.block_lt_of_cell? _ _ c0)).trans c0; have c1 := (hbn.cell (World.block_lt_of_cell? _ _ c1)).trans c1; have c2 := (hbn.cell (World.block_lt_of_cell? _ _ c2)).trans c2; have c3 := (hbn.cell (World.block_lt_of_cell? _ _ c3)).trans c3; clear hbn)
      | (go_at_call 33; refine (wC tb [] _ _ HT.out (by decide) (by decide)).mono ?_; rintro e w1 ⟨rfl, HT1, hb1⟩; have HB1 := Lib.hid (HB.out.trans hb1); clear hb1)
      | (go_at_call 34; refine (wB tb [] _ _ HT.out (by decide)).mono ?_; rintro e w1 ⟨rfl, HT1, hb1⟩; have HB1 := Lib.hid (HB.out.trans hb1); clear hb1))
          all_goals go_ret
          all_goals exact leaf 0 (HR.out.trans (by first | rfl | (rw [h0]; rfl))) rfl HT1.out HB1.out HH.out.tab HH.out.qtb
        · have HR : Hid (numR 4 f p s d = ⟨2, strI ⟨#[38, 102, 114, 97, 99, 51, 52, 59]⟩, s, d⟩) := Lib.hid (by simp [numR, hwp, hp, h1, h0, h3, hw3, h47])
          have hb47 : (f 3 != 47) = true := by simpa using h47
          go_enter Tryd.func23, Tryd.ntmps23
          go_wp2_with (first
      | (go_at_call 30; refine (tolower_any _ _ (HH.out.rng _)).mono ?_; rintro e w' ⟨rfl, rfl⟩)
      | (go_at_call 32; refine (wordB_any _ _).mono ?_; rintro e wn ⟨rfl, hbn⟩; have HB := Lib.hid (HB.out.trans (hbn.mono (Nat.le_of_lt HT.out.lt))); have HT : Hid (TBuf tb [] wn) := Lib.hid (HT.out.old hbn); have c0 := (hbn.cell (World.block_lt_of_cell? _ _ c0)).trans c0; have c1 := (hbn.cell (World.block_lt_of_cell? _ _ c1)).trans c1; have c2 := (hbn.cell (World.block_lt_of_cell? _ _ c2)).trans c2; have c3 := (hbn.cell (World.block_lt_of_cell? _ _ c3)).trans c3; clear hbn)
      | (go_at_call 33; refine (wC tb [] _ _ HT.out (by decide) (by decide)).mono ?_; rintro e w1 ⟨rfl, HT1, hb1⟩; have HB1 := Lib.hid (HB.out.trans hb1); clear hb1)
      | (go_at_call 34; refine (wB tb [] _ _ HT.out (by decide)).mono ?_; rintro e w1 ⟨rfl, HT1, hb1⟩; have HB1 := Lib.hid (HB.out.trans hb1); clear hb1))
          all_goals go_ret
          all_goals exact leaf 2 (HR.out.trans (by first | rfl | (rw [h0]; rfl))) rfl HT1.out HB1.out HH.out.tab HH.out.qtb
    have HR : Hid (numR 4 f p s d = ⟨0, [f 0], s, d⟩) := Lib.hid (by simp [numR, hwp, hp, h1, h0, h2, h3])
    go_enter Tryd.func23, Tryd.ntmps23
    go_wp2_with (first
      | (go_at_call 30; refine (tolower_any _ _ (HH.out.rng _)).mono ?_; rintro e w' ⟨rfl, rfl⟩)
      | (go_at_call 32; refine (wordB_any _ _).mono ?_; rintro e wn ⟨rfl, hbn⟩; have HB := Lib.hid (HB.out.trans (hbn.mono (Nat.le_of_lt HT.out.lt))); have HT : Hid (TBuf tb [] wn) := Lib.hid (HT.out.old hbn); have c0 := (hbn.cell (World.block_lt_of_cell? _ _ c0)).trans c0; have c1 := (hbn.cell (World.block_lt_of_cell? _ _ c1)).trans c1; have c2 := (hbn.cell (World.block_lt_of_cell? _ _ c2)).trans c2; have c3 := (hbn.cell (World.block_lt_of_cell? _ _ c3)).trans c3; clear hbn)
      | (go_at_call 33; refine (wC tb [] _ _ HT.out (by decide) (by decide)).mono ?_; rintro e w1 ⟨rfl, HT1, hb1⟩; have HB1 := Lib.hid (HB.out.trans hb1); clear hb1)
      | (go_at_call 34; refine (wB tb [] _ _ HT.out (by decide)).mono ?_; rintro e w1 ⟨rfl, HT1, hb1⟩; have HB1 := Lib.hid (HB.out.trans hb1); clear hb1))
    all_goals go_ret
    all_goals exact leaf 0 (HR.out.trans (by first | rfl | (rw [h0]; rfl))) rfl HT1.out HB1.out HH.out.tab HH.out.qtb
set_option maxHeartbeats 8000000 in
set_option maxRecDepth 100000 in
theorem num5_any (q tb : Nat) (s d : Bool) (T : Nat → Value) (b off c : Nat) (f : Nat → Int) (p : Int) (w : World) (h : HPre q tb s d T b off 5 c f w) (h0 : f 0 = 49 ∨ f 0 = 51) :
    Calls Tryd.prog 23 #[.pointer (some ⟨q, 0, none⟩), .pointer (some ⟨tb, 0, none⟩), .int .u8 p, .slice (some ⟨b, off, none⟩) 5 c] w fun e w' => HPost q tb T (numR 5 f p s d) w e w' := by
  have HH := Lib.hid h
  have HT := Lib.hid h.buf
  have HB := Lib.hid (Below.refl tb w)
  have hmc := h.mc
  have hcm := h.cm
  have hcell := h.cell
  unfold maxLen at hcm
  clear h
  have l47 : low 47 = 47 := by decide
  have c0 : w.cell? ⟨b, off, none⟩ = some (.int .u8 (f 0)) := hcell 0 (by omega)
  have c1 : w.cell? ⟨b, off + 1, none⟩ = some (.int .u8 (f 1)) := hcell 1 (by omega)
  have c2 : w.cell? ⟨b, off + 2, none⟩ = some (.int .u8 (f 2)) := hcell 2 (by omega)
  have c3 : w.cell? ⟨b, off + 3, none⟩ = some (.int .u8 (f 3)) := hcell 3 (by omega)
  have c4 : w.cell? ⟨b, off + 4, none⟩ = some (.int .u8 (f 4)) := hcell 4 (by omega)
  clear hcell
  cases hwp : wbd p
  · have HR : Hid (numR 5 f p s d = ⟨0, [f 0], s, d⟩) := Lib.hid (by simp [numR, hwp])
    go_enter Tryd.func23, Tryd.ntmps23
    go_wp2_with (first
      | (go_at_call 30; refine (tolower_any _ _ (HH.out.rng _)).mono ?_; rintro e w' ⟨rfl, rfl⟩)
      | (go_at_call 32; refine (wordB_any _ _).mono ?_; rintro e wn ⟨rfl, hbn⟩; have HB := Lib.hid (HB.out.trans (hbn.mono (Nat.le_of_lt HT.out.lt))); have HT : Hid (TBuf tb [] wn) := Lib.hid (HT.out.old hbn); have c0 := (hbn.cell (World.block_lt_of_cell? _ _ c0)).trans c0; have c1 := (hbn.cell (World.block_lt_of_cell? _ _ c1)).trans c1; have c2 := (hbn.cell (World.block_lt_of_cell? _ _ c2)).trans c2; have c3 := (hbn.cell (World.block_lt_of_cell? _ _ c3)).trans c3; have c4 := (hbn.cell (World.block_lt_of_cell? _ _ c4)).trans c4; clear hbn)
      | (go_at_call 33; refine (wC tb [] _ _ HT.out (by decide) (by decide)).mono ?_; rintro e w1 ⟨rfl, HT1, hb1⟩; have HB1 := Lib.hid (HB.out.trans hb1); clear hb1)
      | (go_at_call 34; refine (wB tb [] _ _ HT.out (by decide)).mono ?_; rintro e w1 ⟨rfl, HT1, hb1⟩; have HB1 := Lib.hid (HB.out.trans hb1); clear hb1))
    all_goals go_ret
    all_goals exact leaf 0 (HR.out.trans (by first | rfl | (rw [h0]; rfl))) rfl HT1.out HB1.out HH.out.tab HH.out.qtb
  by_cases hp : p = 47
  · have HR : Hid (numR 5 f p s d = ⟨0, [f 0], s, d⟩) := Lib.hid (by simp [numR, hwp, hp])
    go_enter Tryd.func23, Tryd.ntmps23
    go_wp2_with (first
      | (go_at_call 30; refine (tolower_any _ _ (HH.out.rng _)).mono ?_; rintro e w' ⟨rfl, rfl⟩)
      | (go_at_call 32; refine (wordB_any _ _).mono ?_; rintro e wn ⟨rfl, hbn⟩; have HB := Lib.hid (HB.out.trans (hbn.mono (Nat.le_of_lt HT.out.lt))); have HT : Hid (TBuf tb [] wn) := Lib.hid (HT.out.old hbn); have c0 := (hbn.cell (World.block_lt_of_cell? _ _ c0)).trans c0; have c1 := (hbn.cell (World.block_lt_of_cell? _ _ c1)).trans c1; have c2 := (hbn.cell (World.block_lt_of_cell? _ _ c2)).trans c2; have c3 := (hbn.cell (World.block_lt_of_cell? _ _ c3)).trans c3; have c4 := (hbn.cell (World.block_lt_of_cell? _ _ c4)).trans c4; clear hbn)
      | (go_at_call 33; refine (wC tb [] _ _ HT.out (by decide) (by decide)).mono ?_; rintro e w1 ⟨rfl, HT1, hb1⟩; have HB1 := Lib.hid (HB.out.trans hb1); clear hb1)
      | (go_at_call 34; refine (wB tb [] _ _ HT.out (by decide)).mono ?_; rintro e w1 ⟨rfl, HT1, hb1⟩; have HB1 := Lib.hid (HB.out.trans hb1); clear hb1))
    all_goals go_ret
    all_goals exact leaf 0 (HR.out.trans (by first | rfl | (rw [h0]; rfl))) rfl HT1.out HB1.out HH.out.tab HH.out.qtb
  have hpb : (p != 47) = true := by simpa using hp
  by_cases h1 : f 1 = 47
  case neg =>
    rcases h0 with h0 | h0
    · have HR : Hid (numR 5 f p s d = ⟨0, [f 0], s, d⟩) := Lib.hid (by simp [numR, hwp, hp, h1, h0])
      go_enter Tryd.func23, Tryd.ntmps23
      go_wp2_with (first
      | (go_at_call 30; refine (tolower_any _ _ (HH.out.rng _)).mono ?_; rintro e w' ⟨rfl, rfl⟩)
      | (go_at_call 32; refine (wordB_any _ _).mono ?_; rintro e wn ⟨rfl, hbn⟩; have HB := Lib.hid (HB.out.trans (hbn.mono (Nat.le_of_lt HT.out.lt))); have HT : Hid (TBuf tb [] wn) := Lib.hid (HT.out.old hbn); have c0 := (hbn.cell (World.block_lt_of_cell? _ _ c0)).trans c0; have c1 := (hbn.cell (World.block_lt_of_cell? _ _ c1)).trans c1; have c2 := (hbn.cell (World.block_lt_of_cell? _ _ c2)).trans c2; have c3 := (hbn.cell (World.block_lt_of_cell? _ _ c3)).trans c3; have c4 := (hbn.cell (World.block_lt_of_cell? _ _ c4)).trans c4; clear hbn)
      | (go_at_call 33; refine (wC tb [] _ _ HT.out (by decide) (by decide)).mono ?_; rintro e w1 ⟨rfl, HT1, hb1⟩; have HB1 := Lib.hid (HB.out.trans hb1); clear hb1)
      | (go_at_call 34; refine (wB tb [] _ _ HT.out (by decide)).mono ?_; rintro e w1 ⟨rfl, HT1, hb1⟩; have HB1 := Lib.hid (HB.out.trans hb1); clear hb1))
      all_goals go_ret
      all_goals exact leaf 0 (HR.out.trans (by first | rfl | (rw [h0]; rfl))) rfl HT1.out HB1.out HH.out.tab HH.out.qtb
    · have HR : Hid (numR 5 f p s d = ⟨0, [f 0], s, d⟩) := Lib.hid (by simp [numR, hwp, hp, h1, h0])
      go_enter Tryd.func23, Tryd.ntmps23
      go_wp2_with (first
      | (go_at_call 30; refine (tolower_any _ _ (HH.out.rng _)).mono ?_; rintro e w' ⟨rfl, rfl⟩)
      | (go_at_call 32; refine (wordB_any _ _).mono ?_; rintro e wn ⟨rfl, hbn⟩; have HB := Lib.hid (HB.out.trans (hbn.mono (Nat.le_of_lt HT.out.lt))); have HT : Hid (TBuf tb [] wn) := Lib.hid (HT.out.old hbn); have c0 := (hbn.cell (World.block_lt_of_cell? _ _ c0)).trans c0; have c1 := (hbn.cell (World.block_lt_of_cell? _ _ c1)).trans c1; have c2 := (hbn.cell (World.block_lt_of_cell? _ _ c2)).trans c2; have c3 := (hbn.cell (World.block_lt_of_cell? _ _ c3)).trans c3; have c4 := (hbn.cell (World.block_lt_of_cell? _ _ c4)).trans c4; clear hbn)
      | (go_at_call 33; refine (wC tb [] _ _ HT.out (by decide) (by decide)).mono ?_; rintro e w1 ⟨rfl, HT1, hb1⟩; have HB1 := Lib.hid (HB.out.trans hb1); clear hb1)
      | (go_at_call 34; refine (wB tb [] _ _ HT.out (by decide)).mono ?_; rintro e w1 ⟨rfl, HT1, hb1⟩; have HB1 := Lib.hid (HB.out.trans hb1); clear hb1))
      all_goals go_ret
      all_goals exact leaf 0 (HR.out.trans (by first | rfl | (rw [h0]; rfl))) rfl HT1.out HB1.out HH.out.tab HH.out.qtb
  rcases h0 with h0 | h0
  · by_cases h2 : f 2 = 50
    · cases hw3 : wbd (f 3)
      · have HR : Hid (numR 5 f p s d = ⟨0, [f 0], s, d⟩) := Lib.hid (by simp [numR, hwp, hp, h1, h0, h2, hw3])
        go_enter Tryd.func23, Tryd.ntmps23
        go_wp2_with (first
      | (go_at_call 30; refine (tolower_any _ _ (HH.out.rng _)).mono ?_; rintro e w' ⟨rfl, rfl⟩)
      | (go_at_call 32; refine (wordB_any _ _).mono ?_; rintro e wn ⟨rfl, hbn⟩; have HB := Lib.hid (HB.out.trans (hbn.mono (Nat.le_of_lt HT.out.lt))); have HT : Hid (TBuf tb [] wn) := Lib.hid (HT.out.old hbn); have c0 := (hbn.cell (World.block_lt_of_cell? _ _ c0)).trans c0; have c1 := (hbn.cell (World.block_lt_of_cell? _ _ c1)).trans c1; have c2 := (hbn.cell (World.block_lt_of_cell? _ _ c2)).trans c2; have c3 := (hbn.cell (World.block_lt_of_cell? _ _ c3)).trans c3; have c4 := (hbn.cell (World.block_lt_of_cell? _ _ c4)).trans c4; clear hbn)
      | (go_at_call 33; refine (wC tb [] _ _ HT.out (by decide) (by decide)).mono ?_; rintro e w1 ⟨rfl, HT1, hb1⟩; have HB1 := Lib.hid (HB.out.trans hb1); clear hb1)
      | (go_at_call 34; refine (wB tb [] _ _ HT.out (by decide)).mono ?_; rintro e w1 ⟨rfl, HT1, hb1⟩; have HB1 := Lib.hid (HB.out.trans hb1); clear hb1))
        all_goals go_ret
        all_goals exact leaf 0 (HR.out.trans (by first | rfl | (rw [h0]; rfl))) rfl HT1.out HB1.out HH.out.tab HH.out.qtb
      · by_cases h47 : f 3 = 47
        · have HR : Hid (numR 5 f p s d = ⟨0, [f 0], s, d⟩) := Lib.hid (by simp [numR, hwp, hp, h1, h0, h2, hw3, h47, l47])
          have hb47 : (f 3 != 47) = false := by simp [h47]
          have hl0 : ¬ low (f 3) = 116 := by rw [h47]; decide
          clear h47 l47
          go_enter Tryd.func23, Tryd.ntmps23
          go_wp2_with (first
      | (go_at_call 30; refine (tolower_any _ _ (HH.out.rng _)).mono ?_; rintro e w' ⟨rfl, rfl⟩)
      | (go_at_call 32; refine (wordB_any _ _).mono ?_; rintro e wn ⟨rfl, hbn⟩; have HB := Lib.hid (HB.out.trans (hbn.mono (Nat.le_of_lt HT.out.lt))); have HT : Hid (TBuf tb [] wn) := Lib.hid (HT.out.old hbn); have c0 := (hbn.cell (World.block_lt_of_cell? _ _ c0)).trans c0; have c1 := (hbn.cell (World.block_lt_of_cell? _ _ c1)).trans c1; have c2 := (hbn.cell (World.block_lt_of_cell? _ _ c2)).trans c2; have c3 := (hbn.cell (World.block_lt_of_cell? _ _ c3)).trans c3; have c4 := (hbn.cell (World.block_lt_of_cell? _ _ c4)).trans c4; clear hbn)
      | (go_at_call 33; refine (wC tb [] _ _ HT.out (by decide) (by decide)).mono ?_; rintro e w1 ⟨rfl, HT1, hb1⟩; have HB1 := Lib.hid (HB.out.trans hb1); clear hb1)
      | (go_at_call 34; refine (wB tb [] _ _ HT.out (by decide)).mono ?_; rintro e w1 ⟨rfl, HT1, hb1⟩; have HB1 := Lib.hid (HB.out.trans hb1); clear hb1))
          all_goals go_ret
          all_goals exact leaf 0 (HR.out.trans (by first | rfl | (rw [h0]; rfl))) rfl HT1.out HB1.out HH.out.tab HH.out.qtb
        · have HR : Hid (numR 5 f p s d = ⟨2, strI ⟨#[38, 102, 114, 97, 99, 49, 50, 59]⟩, s, d⟩) := Lib.hid (by simp [numR, hwp, hp, h1, h0, h2, hw3, h47])
          have hb47 : (f 3 != 47) = true := by simpa using h47
          go_enter Tryd.func23, Tryd.ntmps23
          go_wp2_with (first
      | (go_at_call 30; refine (tolower_any _ _ (HH.out.rng _)).mono ?_; rintro e w' ⟨rfl, rfl⟩)
      | (go_at_call 32; refine (wordB_any _ _).mono ?_; rintro e wn ⟨rfl, hbn⟩; have HB := Lib.hid (HB.out.trans (hbn.mono (Nat.le_of_lt HT.out.lt))); have HT : Hid (TBuf tb [] wn) := Lib.hid (HT.out.old hbn); have c0 := (hbn.cell (World.block_lt_of_cell? _ _ c0)).trans c0; have c1 := (hbn.cell (World.block_lt_of_cell? _ _ c1)).trans c1; have c2 := (hbn.cell (World.block_lt_of_cell? _ _ c2)).trans c2; have c3 := (hbn.cell (World.block_lt_of_cell? _ _ c3)).trans c3; have c4 := (hbn.cell (World.block_lt_of_cell? _ _ c4)).trans c4; clear hbn)
      | (go_at_call 33; refine (wC tb [] _ _ HT.out (by decide) (by decide)).mono ?_; rintro e w1 ⟨rfl, HT1, hb1⟩; have HB1 := Lib.hid (HB.out.trans hb1); clear hb1)
      | (go_at_call 34; refine (wB tb [] _ _ HT.out (by decide)).mono ?_; rintro e w1 ⟨rfl, HT1, hb1⟩; have HB1 := Lib.hid (HB.out.trans hb1); clear hb1))
          all_goals go_ret
          all_goals exact leaf 2 (HR.out.trans (by first | rfl | (rw [h0]; rfl))) rfl HT1.out HB1.out HH.out.tab HH.out.qtb
    by_cases h3 : f 2 = 52
    · cases hw3 : wbd (f 3)
      · by_cases hl0 : low (f 3) = 116
        · by_cases hl1 : low (f 4) = 104
          · have HR : Hid (numR 5 f p s d = ⟨2, strI ⟨#[38, 102, 114, 97, 99, 49, 52, 59]⟩, s, d⟩) := Lib.hid (by simp [numR, hwp, hp, h1, h0, h3, hw3, hl0, hl1])
            go_enter Tryd.func23, Tryd.ntmps23
            go_wp2_with (first
      | (go_at_call 30; refine (tolower_any _ _ (HH.out.rng _)).mono ?_; rintro e w' ⟨rfl, rfl⟩)
      | (go_at_call 32; refine (wordB_any _ _).mono ?_; rintro e wn ⟨rfl, hbn⟩; have HB := Lib.hid (HB.out.trans (hbn.mono (Nat.le_of_lt HT.out.lt))); have HT : Hid (TBuf tb [] wn) := Lib.hid (HT.out.old hbn); have c0 := (hbn.cell (World.block_lt_of_cell? _ _ c0)).trans c0; have c1 := (hbn.cell (World.block_lt_of_cell? _ _ c1)).trans c1; have c2 := (hbn.cell (World.block_lt_of_cell? _ _ c2)).trans c2; have c3 := (hbn.cell (World.block_lt_of_cell? _ _ c3)).trans c3; have c4 := (hbn.cell (World.block_lt_of_cell? _ _ c4)).trans c4; clear hbn)
      | (go_at_call 33; refine (wC tb [] _ _ HT.out (by decide) (by decide)).mono ?_; rintro e w1 ⟨rfl, HT1, hb1⟩; have HB1 := Lib.hid (HB.out.trans hb1); clear hb1)
      | (go_at_call 34; refine (wB tb [] _ _ HT.out (by decide)).mono ?_; rintro e w1 ⟨rfl, HT1, hb1⟩; have HB1 := Lib.hid (HB.out.trans hb1); clear hb1))
            all_goals go_ret
            all_goals exact leaf 2 (HR.out.trans (by first | rfl | (rw [h0]; rfl))) rfl HT1.out HB1.out HH.out.tab HH.out.qtb
          · have HR : Hid (numR 5 f p s d = ⟨0, [f 0], s, d⟩) := Lib.hid (by simp [numR, hwp, hp, h1, h0, h3, hw3, hl0, hl1])
            go_enter Tryd.func23, Tryd.ntmps23
            go_wp2_with (first
      | (go_at_call 30; refine (tolower_any _ _ (HH.out.rng _)).mono ?_; rintro e w' ⟨rfl, rfl⟩)
      | (go_at_call 32; refine (wordB_any _ _).mono ?_; rintro e wn ⟨rfl, hbn⟩; have HB := Lib.hid (HB.out.trans (hbn.mono (Nat.le_of_lt HT.out.lt))); have HT : Hid (TBuf tb [] wn) := Lib.hid (HT.out.old hbn); have c0 := (hbn.cell (World.block_lt_of_cell? _ _ c0)).trans c0; have c1 := (hbn.cell (World.block_lt_of_cell? _ _ c1)).trans c1; have c2 := (hbn.cell (World.block_lt_of_cell? _ _ c2)).trans c2; have c3 := (hbn.cell (World.block_lt_of_cell? _ _ c3)).trans c3; have c4 := (hbn.cell (World.block_lt_of_cell? _ _ c4)).trans c4; clear hbn)
      | (go_at_call 33; refine (wC tb [] _ _ HT.out (by decide) (by decide)).mono ?_; rintro e w1 ⟨rfl, HT1, hb1⟩; have HB1 := Lib.hid (HB.out.trans hb1); clear hb1)
      | (go_at_call 34; refine (wB tb [] _ _ HT.out (by decide)).mono ?_; rintro e w1 ⟨rfl, HT1, hb1⟩; have HB1 := Lib.hid (HB.out.trans hb1); clear hb1))
            all_goals go_ret
            all_goals exact leaf 0 (HR.out.trans (by first | rfl | (rw [h0]; rfl))) rfl HT1.out HB1.out HH.out.tab HH.out.qtb
        · have HR : Hid (numR 5 f p s d = ⟨0, [f 0], s, d⟩) := Lib.hid (by simp [numR, hwp, hp, h1, h0, h3, hw3, hl0])
          go_enter Tryd.func23, Tryd.ntmps23
          go_wp2_with (first
      | (go_at_call 30; refine (tolower_any _ _ (HH.out.rng _)).mono ?_; rintro e w' ⟨rfl, rfl⟩)
      | (go_at_call 32; refine (wordB_any _ _).mono ?_; rintro e wn ⟨rfl, hbn⟩; have HB := Lib.hid (HB.out.trans (hbn.mono (Nat.le_of_lt HT.out.lt))); have HT : Hid (TBuf tb [] wn) := Lib.hid (HT.out.old hbn); have c0 := (hbn.cell (World.block_lt_of_cell? _ _ c0)).trans c0; have c1 := (hbn.cell (World.block_lt_of_cell? _ _ c1)).trans c1; have c2 := (hbn.cell (World.block_lt_of_cell? _ _ c2)).trans c2; have c3 := (hbn.cell (World.block_lt_of_cell? _ _ c3)).trans c3; have c4 := (hbn.cell (World.block_lt_of_cell? _ _ c4)).trans c4; clear hbn)
      | (go_at_call 33; refine (wC tb [] _ _ HT.out (by decide) (by decide)).mono ?_; rintro e w1 ⟨rfl, HT1, hb1⟩; have HB1 := Lib.hid (HB.out.trans hb1); clear hb1)
      | (go_at_call 34; refine (wB tb [] _ _ HT.out (by decide)).mono ?_; rintro e w1 ⟨rfl, HT1, hb1⟩; have HB1 := Lib.hid (HB.out.trans hb1); clear hb1))
          all_goals go_ret
          all_goals exact leaf 0 (HR.out.trans (by first | rfl | (rw [h0]; rfl))) rfl HT1.out HB1.out HH.out.tab HH.out.qtb
      · by_cases h47 : f 3 = 47
        · have HR : Hid (numR 5 f p s d = ⟨0, [f 0], s, d⟩) := Lib.hid (by simp [numR, hwp, hp, h1, h0, h3, hw3, h47, l47])
          have hb47 : (f 3 != 47) = false := by simp [h47]
          have hl0 : ¬ low (f 3) = 116 := by rw [h47]; decide
          clear h47 l47
          go_enter Tryd.func23, Tryd.ntmps23
          go_wp2_with (first
      | (go_at_call 30; refine (tolower_any _ _ (HH.out.rng _)).mono ?_; rintro e w' ⟨rfl, rfl⟩)
      | (go_at_call 32; refine (wordB_any _ _).mono ?_; rintro e wn ⟨rfl, hbn⟩; have HB := Lib.hid (HB.out.trans (hbn.mono (Nat.le_of_lt HT.out.lt))); have HT : Hid (TBuf tb [] wn) := Lib.hid (HT.out.old hbn); have c0 := (hbn.cell (World.block_lt_of_cell? _ _ c0)).trans c0; have c1 := (hbn.cell (World.block_lt_of_cell? _ _ c1)).trans c1; have c2 := (hbn.cell (World.block_lt_of_cell? _ _ c2)).trans c2; have c3 := (hbn.cell (World.block_lt_of_cell? _ _ c3)).trans c3; have c4 := (hbn.cell (World.block_lt_of_cell? _ _ c4)).trans c4; clear hbn)
      | (go_at_call 33; refine (wC tb [] _ _ HT.out (by decide) (by decide)).mono ?_; rintro e w1 ⟨rfl, HT1, hb1⟩; have HB1 := Lib.hid (HB.out.trans hb1); clear hb1)
      | (go_at_call 34; refine (wB tb [] _ _ HT.out (by decide)).mono ?_; rintro e w1 ⟨rfl, HT1, hb1⟩; have HB1 := Lib.hid (HB.out.trans hb1); clear hb1))
          all_goals go_ret
          all_goals exact leaf 0 (HR.out.trans (by first | rfl | (rw [h0]; rfl))) rfl HT1.out HB1.out HH.out.tab HH.out.qtb
        · have HR : Hid (numR 5 f p s d = ⟨2, strI ⟨#[38, 102, 114, 97, 99, 49, 52, 59]⟩, s, d⟩) := Lib.hid (by simp [numR, hwp, hp, h1, h0, h3, hw3, h47])
          have hb47 : (f 3 != 47) = true := by simpa using h47
          go_enter Tryd.func23, Tryd.ntmps23
          go_wp2_with (first
      | (go_at_call 30; refine (tolower_any _ _ (HH.out.rng _)).mono ?_; rintro e w' ⟨rfl, rfl⟩)
      | (go_at_call 32; refine (wordB_any _ _).mono ?_; rintro e wn ⟨rfl, hbn⟩; have HB := Lib.hid (HB.out.trans (hbn.mono (Nat.le_of_lt HT.out.lt))); have HT : Hid (TBuf tb [] wn) := Lib.hid (HT.out.old hbn); have c0 := (hbn.cell (World.block_lt_of_cell? _ _ c0)).trans c0; have c1 := (hbn.cell (World.block_lt_of_cell? _ _ c1)).trans c1; have c2 := (hbn.cell (World.block_lt_of_cell? _ _ c2)).trans c2; have c3 := (hbn.cell (World.block_lt_of_cell? _ _ c3)).trans c3; have c4 := (hbn.cell (World.block_lt_of_cell? _ _ c4)).trans c4; clear hbn)
      | (go_at_call 33; refine (wC tb [] _ _ HT.out (by decide) (by decide)).mono ?_; rintro e w1 ⟨rfl, HT1, hb1⟩; have HB1 := Lib.hid (HB.out.trans hb1); clear hb1)
      | (go_at_call 34; refine (wB tb [] _ _ HT.out (by decide)).mono ?_; rintro e w1 ⟨rfl, HT1, hb1⟩; have HB1 := Lib.hid (HB.out.trans hb1); clear hb1))
          all_goals go_ret
          all_goals exact leaf 2 (HR.out.trans (by first | rfl | (rw [h0]; rfl))) rfl HT1.out HB1.out HH.out.tab HH.out.qtb
    have HR : Hid (numR 5 f p s d = ⟨0, [f 0], s, d⟩) := Lib.hid (by simp [numR, hwp, hp, h1, h0, h2, h3])
    go_enter Tryd.func23, Tryd.ntmps23
    go_wp2_with (first
      | (go_at_call 30; refine (tolower_any _ _ (HH.out.rng _)).mono ?_; rintro e w' ⟨rfl, rfl⟩)
      | (go_at_call 32; refine (wordB_any _ _).mono ?_; rintro e wn ⟨rfl, hbn⟩; have HB := Lib.hid (HB.out.trans (hbn.mono (Nat.le_of_lt HT.out.lt))); have HT : Hid (TBuf tb [] wn) := Lib.hid (HT.out.old hbn); have c0 := (hbn.cell (World.block_lt_of_cell? _ _ c0)).trans c0; have c1 := (hbn.cell (World.block_lt_of_cell? _ _ c1)).trans c1; have c2 := (hbn.cell (World.block_lt_of_cell? _ _ c2)).trans c2; have c3 := (hbn.cell (World.block_lt_of_cell? _ _ c3)).trans c3; have c4 := (hbn.cell (World.block_lt_of_cell? _ _ c4)).trans c4; clear hbn)
      | (go_at_call 33; refine (wC tb [] _ _ HT.out (by decide) (by decide)).mono ?_; rintro e w1 ⟨rfl, HT1, hb1⟩; have HB1 := Lib.hid (HB.out.trans hb1); clear hb1)
      | (go_at_call 34; refine (wB tb [] _ _ HT.out (by decide)).mono ?_; rintro e w1 ⟨rfl, HT1, hb1⟩; have HB1 := Lib.hid (HB.out.trans hb1); clear hb1))
    all_goals go_ret
    all_goals exact leaf 0 (HR.out.trans (by first | rfl | (rw [h0]; rfl))) rfl HT1.out HB1.out HH.out.tab HH.out.qtb
  · by_cases h2 : f 2 = 50
    · have HR : Hid (numR 5 f p s d = ⟨0, [f 0], s, d⟩) := Lib.hid (by simp [numR, hwp, hp, h1, h0, h2])
      go_enter Tryd.func23, Tryd.ntmps23
      go_wp2_with (first
      | (go_at_call 30; refine (tolower_any _ _ (HH.out.rng _)).mono ?_; rintro e w' ⟨rfl, rfl⟩)
      | (go_at_call 32; refine (wordB_any _ _).mono ?_; rintro e wn ⟨rfl, hbn⟩; have HB := Lib.hid (HB.out.trans (hbn.mono (Nat.le_of_lt HT.out.lt))); have HT : Hid (TBuf tb [] wn) := Lib.hid (HT.out.old hbn); have c0 := (hbn.cell (World.block_lt_of_cell? _ _ c0)).trans c0; have c1 := (hbn.cell (World.block_lt_of_cell? _ _ c1)).trans c1; have c2 := (hbn.cell (World.block_lt_of_cell? _ _ c2)).trans c2; have c3 := (hbn.cell (World.block_lt_of_cell? _ _ c3)).trans c3; have c4 := (hbn.cell (World.block_lt_of_cell? _ _ c4)).trans c4; clear hbn)
      | (go_at_call 33; refine (wC tb [] _ _ HT.out (by decide) (by decide)).mono ?_; rintro e w1 ⟨rfl, HT1, hb1⟩; have HB1 := Lib.hid (HB.out.trans hb1); clear hb1)
      | (go_at_call 34; refine (wB tb [] _ _ HT.out (by decide)).mono ?_; rintro e w1 ⟨rfl, HT1, hb1⟩; have HB1 := Lib.hid (HB.out.trans hb1); clear hb1))
      all_goals go_ret
      all_goals exact leaf 0 (HR.out.trans (by first | rfl | (rw [h0]; rfl))) rfl HT1.out HB1.out HH.out.tab HH.out.qtb
    by_cases h3 : f 2 = 52
    · cases hw3 : wbd (f 3)
      · have HR : Hid (numR 5 f p s d = ⟨0, [f 0], s, d⟩) := Lib.hid (by simp [numR, hwp, hp, h1, h0, h3, hw3])
        go_enter Tryd.func23, Tryd.ntmps23
        go_wp2_with (first
      | (go_at_call 30; refine (tolower_any _ _ (HH.out.rng _)).mono ?_; rintro e w' ⟨rfl, rfl⟩)
      | (go_at_call 32; refine (wordB_any _ _).mono ?_; rintro e wn ⟨rfl, hbn⟩; have HB := Lib.hid (HB.out.trans (hbn.mono (Nat.le_of_lt HT.out.lt))); have HT : Hid (TBuf tb [] wn) := Lib.hid (HT.out.old hbn); have c0 := (hbn.cell (World.block_lt_of_cell? _ _ c0)).trans c0; have c1 := (hbn.cell (World.block_lt_of_cell? _ _ c1)).trans c1; have c2 := (hbn.cell (World.block_lt_of_cell? _ _ c2)).trans c2; have c3 := (hbn.cell (World.block_lt_of_cell? _ _ c3)).trans c3; have c4 := (hbn.cell (World.block_lt_of_cell? _ _ c4)).trans c4; clear hbn)
      | (go_at_call 33; refine (wC tb [] _ _ HT.out (by decide) (by decide)).mono ?_; rintro e w1 ⟨rfl, HT1, hb1⟩; have HB1 := Lib.hid (HB.out.trans hb1); clear hb1)
      | (go_at_call 34; refine (wB tb [] _ _ HT.out (by decide)).mono ?_; rintro e w1 ⟨rfl, HT1, hb1⟩; have HB1 := Lib.hid (HB.out.trans hb1); clear hb1))
        all_goals go_ret
        all_goals exact leaf 0 (HR.out.trans (by first | rfl | (rw [h0]; rfl))) rfl HT1.out HB1.out HH.out.tab HH.out.qtb
      · by_cases h47 : f 3 = 47
        · have HR : Hid (numR 5 f p s d = ⟨0, [f 0], s, d⟩) := Lib.hid (by simp [numR, hwp, hp, h1, h0, h3, hw3, h47, l47])
          have hb47 : (f 3 != 47) = false := by simp [h47]
          have hl0 : ¬ low (f 3) = 116 := by rw [h47]; decide
          clear h47 l47
          go_enter Tryd.func23, Tryd.ntmps23
          go_wp2_with (first
      | (go_at_call 30; refine (tolower_any _ _ (HH.out.rng _)).mono ?_; rintro e w' ⟨rfl, rfl⟩)
      | (go_at_call 32; refine (wordB_any _ _).mono ?_; rintro e wn ⟨rfl, hbn⟩; have HB := Lib.hid (HB.out.trans (hbn.mono (Nat.le_of_lt HT.out.lt))); have HT : Hid (TBuf tb [] wn) := Lib.hid (HT.out.old hbn); have c0 := (hbn.cell (World.block_lt_of_cell? _ _ c0)).trans c0; have c1 := (hbn.cell (World.block_lt_of_cell? _ _ c1)).trans c1; have c2 := (hbn.cell (World.block_lt_of_cell? _ _ c2)).trans c2; have c3 := (hbn.cell (World.block_lt_of_cell? _ _ c3)).trans c3; have c4 := (hbn.cell (World.block_lt_of_cell? _ _ c4)).trans c4; clear hbn)
      | (go_at_call 33; refine (wC tb [] _ _ HT.out (by decide) (by decide)).mono ?_; rintro e w1 ⟨rfl, HT1, hb1⟩; have HB1 := Lib.hid (HB.out.trans hb1); clear hb1)
      | (go_at_call 34; refine (wB tb [] _ _ HT.out (by decide)).mono ?_; rintro e w1 ⟨rfl, HT1, hb1⟩; have HB1 := Lib.hid (HB.out.trans hb1); clear hb1))
          all_goals go_ret
          all_goals exact leaf 0 (HR.out.trans (by first | rfl | (rw [h0]; rfl))) rfl HT1.out HB1.out HH.out.tab HH.out.qtb
        · have HR : Hid (numR 5 f p s d = ⟨2, strI ⟨#[38, 102, 114, 97, 99, 51, 52, 59]⟩, s, d⟩) := Lib.hid (by simp [numR, hwp, hp, h1, h0, h3, hw3, h47])
          have hb47 : (f 3 != 47) = true := by simpa using h47
          go_enter Tryd.func23, Tryd.ntmps23
          go_wp2_with (first
      | (go_at_call 30; refine (tolower_any _ _ (HH.out.rng _)).mono ?_; rintro e w' ⟨rfl, rfl⟩)
      | (go_at_call 32; refine (wordB_any _ _).mono ?_; rintro e wn ⟨rfl, hbn⟩; have HB := Lib.hid (HB.out.trans (hbn.mono (Nat.le_of_lt HT.out.lt))); have HT : Hid (TBuf tb [] wn) := Lib.hid (HT.out.old hbn); have c0 := (hbn.cell (World.block_lt_of_cell? _ _ c0)).trans c0; have c1 := (hbn.cell (World.block_lt_of_cell? _ _ c1)).trans c1; have c2 := (hbn.cell (World.block_lt_of_cell? _ _ c2)).trans c2; have c3 := (hbn.cell (World.block_lt_of_cell? _ _ c3)).trans c3; have c4 := (hbn.cell (World.block_lt_of_cell? _ _ c4)).trans c4; clear hbn)
      | (go_at_call 33; refine (wC tb [] _ _ HT.out (by decide) (by decide)).mono ?_; rintro e w1 ⟨rfl, HT1, hb1⟩; have HB1 := Lib.hid (HB.out.trans hb1); clear hb1)
      | (go_at_call 34; refine (wB tb [] _ _ HT.out (by decide)).mono ?_; rintro e w1 ⟨rfl, HT1, hb1⟩; have HB1 := Lib.hid (HB.out.trans hb1); clear hb1))
          all_goals go_ret
          all_goals exact leaf 2 (HR.out.trans (by first | rfl | (rw [h0]; rfl))) rfl HT1.out HB1.out HH.out.tab HH.out.qtb
    have HR : Hid (numR 5 f p s d = ⟨0, [f 0], s, d⟩) := Lib.hid (by simp [numR, hwp, hp, h1, h0, h2, h3])
    go_enter Tryd.func23, Tryd.ntmps23
    go_wp2_with (first
      | (go_at_call 30; refine (tolower_any _ _ (HH.out.rng _)).mono ?_; rintro e w' ⟨rfl, rfl⟩)
      | (go_at_call 32; refine (wordB_any _ _).mono ?_; rintro e wn ⟨rfl, hbn⟩; have HB := Lib.hid (HB.out.trans (hbn.mono (Nat.le_of_lt HT.out.lt))); have HT : Hid (TBuf tb [] wn) := Lib.hid (HT.out.old hbn); have c0 := (hbn.cell (World.block_lt_of_cell? _ _ c0)).trans c0; have c1 := (hbn.cell (World.block_lt_of_cell? _ _ c1)).trans c1; have c2 := (hbn.cell (World.block_lt_of_cell? _ _ c2)).trans c2; have c3 := (hbn.cell (World.block_lt_of_cell? _ _ c3)).trans c3; have c4 := (hbn.cell (World.block_lt_of_cell? _ _ c4)).trans c4; clear hbn)
      | (go_at_call 33; refine (wC tb [] _ _ HT.out (by decide) (by decide)).mono ?_; rintro e w1 ⟨rfl, HT1, hb1⟩; have HB1 := Lib.hid (HB.out.trans hb1); clear hb1)
      | (go_at_call 34; refine (wB tb [] _ _ HT.out (by decide)).mono ?_; rintro e w1 ⟨rfl, HT1, hb1⟩; have HB1 := Lib.hid (HB.out.trans hb1); clear hb1))
    all_goals go_ret
    all_goals exact leaf 0 (HR.out.trans (by first | rfl | (rw [h0]; rfl))) rfl HT1.out HB1.out HH.out.tab HH.out.qtb
end Go.Proofs.YtghmbpogniopoaaDoor
