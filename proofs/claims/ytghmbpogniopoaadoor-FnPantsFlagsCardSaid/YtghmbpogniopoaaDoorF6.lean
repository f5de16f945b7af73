/- Punctuation: parens, dash, latex, period. -/
import Derived.Test.YtghmbpogniopoaaDoorF5
namespace Go.Proofs.YtghmbpogniopoaaDoor
open Go.RowKit
set_option linter.unusedVariables false
set_option linter.unusedSimpArgs false

def parensR (m : Nat) (f : Nat → Int) (s d : Bool) : HR :=
  if 3 ≤ m ∧ low (f 1) = 99 ∧ low (f 2) = 41 then ⟨2, strI ⟨#[38, 99, 111, 112, 121, 59]⟩, s, d⟩
  else if 3 ≤ m ∧ low (f 1) = 114 ∧ low (f 2) = 41 then ⟨2, strI ⟨#[38, 114, 101, 103, 59]⟩, s, d⟩
  else if 4 ≤ m ∧ low (f 1) = 116 ∧ low (f 2) = 109 ∧ f 3 = 41 then ⟨3, strI ⟨#[38, 116, 114, 97, 100, 101, 59]⟩, s, d⟩
  else ⟨0, [f 0], s, d⟩
set_option maxHeartbeats 8000000 in
set_option maxRecDepth 100000 in
theorem parens_any (q tb : Nat) (s d : Bool) (T : Nat → Value) (b off m c : Nat) (f : Nat → Int) (p : Int) (w : World) (h : HPre q tb s d T b off m c f w) (hm : 1 ≤ m) :
    Calls Tryd.prog 19 #[.pointer (some ⟨q, 0, none⟩), .pointer (some ⟨tb, 0, none⟩), .int .u8 p, .slice (some ⟨b, off, none⟩) m c] w fun e w' => HPost q tb T (parensR m f s d) w e w' := by
  have HH := Lib.hid h
  have HT := Lib.hid h.buf
  have HB := Lib.hid (Below.refl tb w)
  have hmc := h.mc
  have hcm := h.cm
  have hcell := h.cell
  unfold maxLen at hcm
  clear h
  rcases (by omega : m = 1 ∨ m = 2 ∨ m = 3 ∨ 4 ≤ m) with rfl | rfl | rfl | hm'
  · have c0 : w.cell? ⟨b, off, none⟩ = some (.int .u8 (f 0)) := hcell 0 (by omega)
    clear hcell
    go_enter Tryd.func19, Tryd.ntmps19
    go_wp2_with (first
      | (go_at_call 30; refine (tolower_any _ _ (HH.out.rng _)).mono ?_; rintro e w' ⟨rfl, rfl⟩)
      | (go_at_call 32; refine (wordB_any _ _).mono ?_; rintro e wn ⟨rfl, hbn⟩; have HB := Lib.hid (HB.out.trans (hbn.mono (Nat.le_of_lt HT.out.lt))); have HT : Hid (TBuf tb [] wn) := Lib.hid (HT.out.old hbn); have c0 := (hbn.cell (World.block_lt_of_cell? _ _ c0)).trans c0; clear hbn)
      | (go_at_call 33; refine (wC tb [] _ _ HT.out (by decide) (by decide)).mono ?_; rintro e w1 ⟨rfl, HT1, hb1⟩; have HB1 := Lib.hid (HB.out.trans hb1); clear hb1)
      | (go_at_call 34; refine (wB tb [] _ _ HT.out (by decide)).mono ?_; rintro e w1 ⟨rfl, HT1, hb1⟩; have HB1 := Lib.hid (HB.out.trans hb1); clear hb1))
    all_goals go_ret
    all_goals first
      | exact leaf 0 (by unfold parensR; ((repeat' split) <;> first | rfl | (exfalso; simp at *; omega) | (exfalso; simp_all; done) | (exfalso; simp_all; omega))) rfl HT1.out HB1.out HH.out.tab HH.out.qtb
      | exact leaf 2 (by unfold parensR; ((repeat' split) <;> first | rfl | (exfalso; simp at *; omega) | (exfalso; simp_all; done) | (exfalso; simp_all; omega))) rfl HT1.out HB1.out HH.out.tab HH.out.qtb
      | exact leaf 3 (by unfold parensR; ((repeat' split) <;> first | rfl | (exfalso; simp at *; omega) | (exfalso; simp_all; done) | (exfalso; simp_all; omega))) rfl HT1.out HB1.out HH.out.tab HH.out.qtb
  · have c0 : w.cell? ⟨b, off, none⟩ = some (.int .u8 (f 0)) := hcell 0 (by omega)
    have c1 : w.cell? ⟨b, off + 1, none⟩ = some (.int .u8 (f 1)) := hcell 1 (by omega)
    clear hcell
    go_enter Tryd.func19, Tryd.ntmps19
    go_wp2_with (first
      | (go_at_call 30; refine (tolower_any _ _ (HH.out.rng _)).mono ?_; rintro e w' ⟨rfl, rfl⟩)
      | (go_at_call 32; refine (wordB_any _ _).mono ?_; rintro e wn ⟨rfl, hbn⟩; have HB := Lib.hid (HB.out.trans (hbn.mono (Nat.le_of_lt HT.out.lt))); have HT : Hid (TBuf tb [] wn) := Lib.hid (HT.out.old hbn); have c0 := (hbn.cell (World.block_lt_of_cell? _ _ c0)).trans c0; have c1 := (hbn.cell (World.block_lt_of_cell? _ _ c1)).trans c1; clear hbn)
      | (go_at_call 33; refine (wC tb [] _ _ HT.out (by decide) (by decide)).mono ?_; rintro e w1 ⟨rfl, HT1, hb1⟩; have HB1 := Lib.hid (HB.out.trans hb1); clear hb1)
      | (go_at_call 34; refine (wB tb [] _ _ HT.out (by decide)).mono ?_; rintro e w1 ⟨rfl, HT1, hb1⟩; have HB1 := Lib.hid (HB.out.trans hb1); clear hb1))
    all_goals go_ret
    all_goals first
      | exact leaf 0 (by unfold parensR; ((repeat' split) <;> first | rfl | (exfalso; simp at *; omega) | (exfalso; simp_all; done) | (exfalso; simp_all; omega))) rfl HT1.out HB1.out HH.out.tab HH.out.qtb
      | exact leaf 2 (by unfold parensR; ((repeat' split) <;> first | rfl | (exfalso; simp at *; omega) | (exfalso; simp_all; done) | (exfalso; simp_all; omega))) rfl HT1.out HB1.out HH.out.tab HH.out.qtb
      | exact leaf 3 (by unfold parensR; ((repeat' split) <;> first | rfl | (exfalso; simp at *; omega) | (exfalso; simp_all; done) | (exfalso; simp_all; omega))) rfl HT1.out HB1.out HH.out.tab HH.out.qtb
  · have c0 : w.cell? ⟨b, off, none⟩ = some (.int .u8 (f 0)) := hcell 0 (by omega)
    have c1 : w.cell? ⟨b, off + 1, none⟩ = some (.int .u8 (f 1)) := hcell 1 (by omega)
    have c2 : w.cell? ⟨b, off + 2, none⟩ = some (.int .u8 (f 2)) := hcell 2 (by omega)
    clear hcell
    go_enter Tryd.func19, Tryd.ntmps19
    go_wp2_with (first
      | (go_at_call 30; refine (tolower_any _ _ (HH.out.rng _)).mono ?_; rintro e w' ⟨rfl, rfl⟩)
      | (go_at_call 32; refine (wordB_any _ _).mono ?_; rintro e wn ⟨rfl, hbn⟩; have HB := Lib.hid (HB.out.trans (hbn.mono (Nat.le_of_lt HT.out.lt))); have HT : Hid (TBuf tb [] wn) := Lib.hid (HT.out.old hbn); have c0 := (hbn.cell (World.block_lt_of_cell? _ _ c0)).trans c0; have c1 := (hbn.cell (World.block_lt_of_cell? _ _ c1)).trans c1; have c2 := (hbn.cell (World.block_lt_of_cell? _ _ c2)).trans c2; clear hbn)
      | (go_at_call 33; refine (wC tb [] _ _ HT.out (by decide) (by decide)).mono ?_; rintro e w1 ⟨rfl, HT1, hb1⟩; have HB1 := Lib.hid (HB.out.trans hb1); clear hb1)
      | (go_at_call 34; refine (wB tb [] _ _ HT.out (by decide)).mono ?_; rintro e w1 ⟨rfl, HT1, hb1⟩; have HB1 := Lib.hid (HB.out.trans hb1); clear hb1))
    all_goals go_ret
    all_goals first
      | exact leaf 0 (by unfold parensR; ((repeat' split) <;> first | rfl | (exfalso; simp at *; omega) | (exfalso; simp_all; done) | (exfalso; simp_all; omega))) rfl HT1.out HB1.out HH.out.tab HH.out.qtb
      | exact leaf 2 (by unfold parensR; ((repeat' split) <;> first | rfl | (exfalso; simp at *; omega) | (exfalso; simp_all; done) | (exfalso; simp_all; omega))) rfl HT1.out HB1.out HH.out.tab HH.out.qtb
      | exact leaf 3 (by unfold parensR; ((repeat' split) <;> first | rfl | (exfalso; simp at *; omega) | (exfalso; simp_all; done) | (exfalso; simp_all; omega))) rfl HT1.out HB1.out HH.out.tab HH.out.qtb
  · have c0 : w.cell? ⟨b, off, none⟩ = some (.int .u8 (f 0)) := hcell 0 (by omega)
    have c1 : w.cell? ⟨b, off + 1, none⟩ = some (.int .u8 (f 1)) := hcell 1 (by omega)
    have c2 : w.cell? ⟨b, off + 2, none⟩ = some (.int .u8 (f 2)) := hcell 2 (by omega)
    have c3 : w.cell? ⟨b, off + 3, none⟩ = some (.int .u8 (f 3)) := hcell 3 (by omega)
    have hmi : ((4 : Nat) : Int) ≤ m := by omega
    clear hcell
    go_enter Tryd.func19, Tryd.ntmps19
    go_wp2_with (first
      | (go_at_call 30; refine (tolower_any _ _ (HH.out.rng _)).mono ?_; rintro e w' ⟨rfl, rfl⟩)
      | (go_at_call 32; refine (wordB_any _ _).mono ?_; rintro e wn ⟨rfl, hbn⟩; have HB := Lib.hid (HB.out.trans (hbn.mono (Nat.le_of_lt HT.out.lt))); have HT : Hid (TBuf tb [] wn) := Lib.hid (HT.out.old hbn); have c0 := (hbn.cell (World.block_lt_of_cell? _ _ c0)).trans c0; have c1 := (hbn.cell (World.block_lt_of_cell? _ _ c1)).trans c1; have c2 := (hbn.cell (World.block_lt_of_cell? _ _ c2)).trans c2; have c3 := (hbn.cell (World.block_lt_of_cell? _ _ c3)).trans c3; clear hbn)
      | (go_at_call 33; refine (wC tb [] _ _ HT.out (by decide) (by decide)).mono ?_; rintro e w1 ⟨rfl, HT1, hb1⟩; have HB1 := Lib.hid (HB.out.trans hb1); clear hb1)
      | (go_at_call 34; refine (wB tb [] _ _ HT.out (by decide)).mono ?_; rintro e w1 ⟨rfl, HT1, hb1⟩; have HB1 := Lib.hid (HB.out.trans hb1); clear hb1))
    all_goals go_ret
    all_goals first
      | exact leaf 0 (by unfold parensR; ((repeat' split) <;> first | rfl | (exfalso; simp at *; omega) | (exfalso; simp_all; done) | (exfalso; simp_all; omega))) rfl HT1.out HB1.out HH.out.tab HH.out.qtb
      | exact leaf 2 (by unfold parensR; ((repeat' split) <;> first | rfl | (exfalso; simp at *; omega) | (exfalso; simp_all; done) | (exfalso; simp_all; omega))) rfl HT1.out HB1.out HH.out.tab HH.out.qtb
      | exact leaf 3 (by unfold parensR; ((repeat' split) <;> first | rfl | (exfalso; simp at *; omega) | (exfalso; simp_all; done) | (exfalso; simp_all; omega))) rfl HT1.out HB1.out HH.out.tab HH.out.qtb

def dashR (m : Nat) (f : Nat → Int) (p : Int) (s d : Bool) : HR :=
  if 2 ≤ m ∧ f 1 = 45 then ⟨1, strI ⟨#[38, 109, 100, 97, 115, 104, 59]⟩, s, d⟩
  else if 2 ≤ m ∧ wbd p = true ∧ wbd (f 1) = true then ⟨0, strI ⟨#[38, 110, 100, 97, 115, 104, 59]⟩, s, d⟩
  else ⟨0, [f 0], s, d⟩
set_option maxHeartbeats 8000000 in
set_option maxRecDepth 100000 in
theorem dash_any (q tb : Nat) (s d : Bool) (T : Nat → Value) (b off m c : Nat) (f : Nat → Int) (p : Int) (w : World) (h : HPre q tb s d T b off m c f w) (hm : 1 ≤ m) :
    Calls Tryd.prog 20 #[.pointer (some ⟨q, 0, none⟩), .pointer (some ⟨tb, 0, none⟩), .int .u8 p, .slice (some ⟨b, off, none⟩) m c] w fun e w' => HPost q tb T (dashR m f p s d) w e w' := by
  have HH := Lib.hid h
  have HT := Lib.hid h.buf
  have HB := Lib.hid (Below.refl tb w)
  have hmc := h.mc
  have hcm := h.cm
  have hcell := h.cell
  unfold maxLen at hcm
  clear h
  rcases (by omega : m = 1 ∨ 2 ≤ m) with rfl | hm'
  · have c0 : w.cell? ⟨b, off, none⟩ = some (.int .u8 (f 0)) := hcell 0 (by omega)
    clear hcell
    go_enter Tryd.func20, Tryd.ntmps20
    go_wp2_with (first
      | (go_at_call 30; refine (tolower_any _ _ (HH.out.rng _)).mono ?_; rintro e w' ⟨rfl, rfl⟩)
      | (go_at_call 32; refine (wordB_any _ _).mono ?_; rintro e wn ⟨rfl, hbn⟩; have HB := Lib.hid (HB.out.trans (hbn.mono (Nat.le_of_lt HT.out.lt))); have HT : Hid (TBuf tb [] wn) := Lib.hid (HT.out.old hbn); have c0 := (hbn.cell (World.block_lt_of_cell? _ _ c0)).trans c0; clear hbn)
      | (go_at_call 33; refine (wC tb [] _ _ HT.out (by decide) (by decide)).mono ?_; rintro e w1 ⟨rfl, HT1, hb1⟩; have HB1 := Lib.hid (HB.out.trans hb1); clear hb1)
      | (go_at_call 34; refine (wB tb [] _ _ HT.out (by decide)).mono ?_; rintro e w1 ⟨rfl, HT1, hb1⟩; have HB1 := Lib.hid (HB.out.trans hb1); clear hb1))
    all_goals go_ret
    all_goals first
      | exact leaf 0 (by unfold dashR; ((repeat' split) <;> first | rfl | (exfalso; simp at *; omega) | (exfalso; simp_all; done) | (exfalso; simp_all; omega))) rfl HT1.out HB1.out HH.out.tab HH.out.qtb
      | exact leaf 1 (by unfold dashR; ((repeat' split) <;> first | rfl | (exfalso; simp at *; omega) | (exfalso; simp_all; done) | (exfalso; simp_all; omega))) rfl HT1.out HB1.out HH.out.tab HH.out.qtb
  · have c0 : w.cell? ⟨b, off, none⟩ = some (.int .u8 (f 0)) := hcell 0 (by omega)
    have c1 : w.cell? ⟨b, off + 1, none⟩ = some (.int .u8 (f 1)) := hcell 1 (by omega)
    have hmi : ((2 : Nat) : Int) ≤ m := by omega
    clear hcell
    go_enter Tryd.func20, Tryd.ntmps20
    go_wp2_with (first
      | (go_at_call 30; refine (tolower_any _ _ (HH.out.rng _)).mono ?_; rintro e w' ⟨rfl, rfl⟩)
      | (go_at_call 32; refine (wordB_any _ _).mono ?_; rintro e wn ⟨rfl, hbn⟩; have HB := Lib.hid (HB.out.trans (hbn.mono (Nat.le_of_lt HT.out.lt))); have HT : Hid (TBuf tb [] wn) := Lib.hid (HT.out.old hbn); have c0 := (hbn.cell (World.block_lt_of_cell? _ _ c0)).trans c0; have c1 := (hbn.cell (World.block_lt_of_cell? _ _ c1)).trans c1; clear hbn)
      | (go_at_call 33; refine (wC tb [] _ _ HT.out (by decide) (by decide)).mono ?_; rintro e w1 ⟨rfl, HT1, hb1⟩; have HB1 := Lib.hid (HB.out.trans hb1); clear hb1)
      | (go_at_call 34; refine (wB tb [] _ _ HT.out (by decide)).mono ?_; rintro e w1 ⟨rfl, HT1, hb1⟩; have HB1 := Lib.hid (HB.out.trans hb1); clear hb1))
    all_goals go_ret
    all_goals first
      | exact leaf 0 (by unfold dashR; ((repeat' split) <;> first | rfl | (exfalso; simp at *; omega) | (exfalso; simp_all; done) | (exfalso; simp_all; omega))) rfl HT1.out HB1.out HH.out.tab HH.out.qtb
      | exact leaf 1 (by unfold dashR; ((repeat' split) <;> first | rfl | (exfalso; simp at *; omega) | (exfalso; simp_all; done) | (exfalso; simp_all; omega))) rfl HT1.out HB1.out HH.out.tab HH.out.qtb

def latexR (m : Nat) (f : Nat → Int) (s d : Bool) : HR :=
  if 3 ≤ m ∧ f 1 = 45 ∧ f 2 = 45 then ⟨2, strI ⟨#[38, 109, 100, 97, 115, 104, 59]⟩, s, d⟩
  else if 2 ≤ m ∧ f 1 = 45 then ⟨1, strI ⟨#[38, 110, 100, 97, 115, 104, 59]⟩, s, d⟩
  else ⟨0, [f 0], s, d⟩
set_option maxHeartbeats 8000000 in
set_option maxRecDepth 100000 in
theorem latex_any (q tb : Nat) (s d : Bool) (T : Nat → Value) (b off m c : Nat) (f : Nat → Int) (p : Int) (w : World) (h : HPre q tb s d T b off m c f w) (hm : 1 ≤ m) :
    Calls Tryd.prog 21 #[.pointer (some ⟨q, 0, none⟩), .pointer (some ⟨tb, 0, none⟩), .int .u8 p, .slice (some ⟨b, off, none⟩) m c] w fun e w' => HPost q tb T (latexR m f s d) w e w' := by
  have HH := Lib.hid h
  have HT := Lib.hid h.buf
  have HB := Lib.hid (Below.refl tb w)
  have hmc := h.mc
  have hcm := h.cm
  have hcell := h.cell
  unfold maxLen at hcm
  clear h
  rcases (by omega : m = 1 ∨ m = 2 ∨ 3 ≤ m) with rfl | rfl | hm'
  · have c0 : w.cell? ⟨b, off, none⟩ = some (.int .u8 (f 0)) := hcell 0 (by omega)
    clear hcell
    go_enter Tryd.func21, Tryd.ntmps21
    go_wp2_with (first
      | (go_at_call 30; refine (tolower_any _ _ (HH.out.rng _)).mono ?_; rintro e w' ⟨rfl, rfl⟩)
      | (go_at_call 32; refine (wordB_any _ _).mono ?_; rintro e wn ⟨rfl, hbn⟩; have HB := Lib.hid (HB.out.trans (hbn.mono (Nat.le_of_lt HT.out.lt))); have HT : Hid (TBuf tb [] wn) := Lib.hid (HT.out.old hbn); have c0 := (hbn.cell (World.block_lt_of_cell? _ _ c0)).trans c0; clear hbn)
      | (go_at_call 33; refine (wC tb [] _ _ HT.out (by decide) (by decide)).mono ?_; rintro e w1 ⟨rfl, HT1, hb1⟩; have HB1 := Lib.hid (HB.out.trans hb1); clear hb1)
      | (go_at_call 34; refine (wB tb [] _ _ HT.out (by decide)).mono ?_; rintro e w1 ⟨rfl, HT1, hb1⟩; have HB1 := Lib.hid (HB.out.trans hb1); clear hb1))
    all_goals go_ret
    all_goals first
      | exact leaf 0 (by unfold latexR; ((repeat' split) <;> first | rfl | (exfalso; simp at *; omega) | (exfalso; simp_all; done) | (exfalso; simp_all; omega))) rfl HT1.out HB1.out HH.out.tab HH.out.qtb
      | exact leaf 1 (by unfold latexR; ((repeat' split) <;> first | rfl | (exfalso; simp at *; omega) | (exfalso; simp_all; done) | (exfalso; simp_all; omega))) rfl HT1.out HB1.out HH.out.tab HH.out.qtb
      | exact leaf 2 (by unfold latexR; ((repeat' split) <;> first | rfl | (exfalso; simp at *; omega) | (exfalso; simp_all; done) | (exfalso; simp_all; omega))) rfl HT1.out HB1.out HH.out.tab HH.out.qtb
  · have c0 : w.cell? ⟨b, off, none⟩ = some (.int .u8 (f 0)) := hcell 0 (by omega)
    have c1 : w.cell? ⟨b, off + 1, none⟩ = some (.int .u8 (f 1)) := hcell 1 (by omega)
    clear hcell
    go_enter Tryd.func21, Tryd.ntmps21
    go_wp2_with (first
      | (go_at_call 30; refine (tolower_any _ _ (HH.out.rng _)).mono ?_; rintro e w' ⟨rfl, rfl⟩)
      | (go_at_call 32; refine (wordB_any _ _).mono ?_; rintro e wn ⟨rfl, hbn⟩; have HB := Lib.hid (HB.out.trans (hbn.mono (Nat.le_of_lt HT.out.lt))); have HT : Hid (TBuf tb [] wn) := Lib.hid (HT.out.old hbn); have c0 := (hbn.cell (World.block_lt_of_cell? _ _ c0)).trans c0; have c1 := (hbn.cell (World.block_lt_of_cell? _ _ c1)).trans c1; clear hbn)
      | (go_at_call 33; refine (wC tb [] _ _ HT.out (by decide) (by decide)).mono ?_; rintro e w1 ⟨rfl, HT1, hb1⟩; have HB1 := Lib.hid (HB.out.trans hb1); clear hb1)
      | (go_at_call 34; refine (wB tb [] _ _ HT.out (by decide)).mono ?_; rintro e w1 ⟨rfl, HT1, hb1⟩; have HB1 := Lib.hid (HB.out.trans hb1); clear hb1))
    all_goals go_ret
    all_goals first
      | exact leaf 0 (by unfold latexR; ((repeat' split) <;> first | rfl | (exfalso; simp at *; omega) | (exfalso; simp_all; done) | (exfalso; simp_all; omega))) rfl HT1.out HB1.out HH.out.tab HH.out.qtb
      | exact leaf 1 (by unfold latexR; ((repeat' split) <;> first | rfl | (exfalso; simp at *; omega) | (exfalso; simp_all; done) | (exfalso; simp_all; omega))) rfl HT1.out HB1.out HH.out.tab HH.out.qtb
      | exact leaf 2 (by unfold latexR; ((repeat' split) <;> first | rfl | (exfalso; simp at *; omega) | (exfalso; simp_all; done) | (exfalso; simp_all; omega))) rfl HT1.out HB1.out HH.out.tab HH.out.qtb
  · have c0 : w.cell? ⟨b, off, none⟩ = some (.int .u8 (f 0)) := hcell 0 (by omega)
    have c1 : w.cell? ⟨b, off + 1, none⟩ = some (.int .u8 (f 1)) := hcell 1 (by omega)
    have c2 : w.cell? ⟨b, off + 2, none⟩ = some (.int .u8 (f 2)) := hcell 2 (by omega)
    have hmi : ((3 : Nat) : Int) ≤ m := by omega
    clear hcell
    go_enter Tryd.func21, Tryd.ntmps21
    go_wp2_with (first
      | (go_at_call 30; refine (tolower_any _ _ (HH.out.rng _)).mono ?_; rintro e w' ⟨rfl, rfl⟩)
      | (go_at_call 32; refine (wordB_any _ _).mono ?_; rintro e wn ⟨rfl, hbn⟩; have HB := Lib.hid (HB.out.trans (hbn.mono (Nat.le_of_lt HT.out.lt))); have HT : Hid (TBuf tb [] wn) := Lib.hid (HT.out.old hbn); have c0 := (hbn.cell (World.block_lt_of_cell? _ _ c0)).trans c0; have c1 := (hbn.cell (World.block_lt_of_cell? _ _ c1)).trans c1; have c2 := (hbn.cell (World.block_lt_of_cell? _ _ c2)).trans c2; clear hbn)
      | (go_at_call 33; refine (wC tb [] _ _ HT.out (by decide) (by decide)).mono ?_; rintro e w1 ⟨rfl, HT1, hb1⟩; have HB1 := Lib.hid (HB.out.trans hb1); clear hb1)
      | (go_at_call 34; refine (wB tb [] _ _ HT.out (by decide)).mono ?_; rintro e w1 ⟨rfl, HT1, hb1⟩; have HB1 := Lib.hid (HB.out.trans hb1); clear hb1))
    all_goals go_ret
    all_goals first
      | exact leaf 0 (by unfold latexR; ((repeat' split) <;> first | rfl | (exfalso; simp at *; omega) | (exfalso; simp_all; done) | (exfalso; simp_all; omega))) rfl HT1.out HB1.out HH.out.tab HH.out.qtb
      | exact leaf 1 (by unfold latexR; ((repeat' split) <;> first | rfl | (exfalso; simp at *; omega) | (exfalso; simp_all; done) | (exfalso; simp_all; omega))) rfl HT1.out HB1.out HH.out.tab HH.out.qtb
      | exact leaf 2 (by unfold latexR; ((repeat' split) <;> first | rfl | (exfalso; simp at *; omega) | (exfalso; simp_all; done) | (exfalso; simp_all; omega))) rfl HT1.out HB1.out HH.out.tab HH.out.qtb

def periodR (m : Nat) (f : Nat → Int) (s d : Bool) : HR :=
  if 3 ≤ m ∧ f 1 = 46 ∧ f 2 = 46 then ⟨2, strI ⟨#[38, 104, 101, 108, 108, 105, 112, 59]⟩, s, d⟩
  else if 5 ≤ m ∧ f 1 = 32 ∧ f 2 = 46 ∧ f 3 = 32 ∧ f 4 = 46 then ⟨4, strI ⟨#[38, 104, 101, 108, 108, 105, 112, 59]⟩, s, d⟩
  else ⟨0, [f 0], s, d⟩
set_option maxHeartbeats 8000000 in
set_option maxRecDepth 100000 in
theorem period_any (q tb : Nat) (s d : Bool) (T : Nat → Value) (b off m c : Nat) (f : Nat → Int) (p : Int) (w : World) (h : HPre q tb s d T b off m c f w) (hm : 1 ≤ m) :
    Calls Tryd.prog 22 #[.pointer (some ⟨q, 0, none⟩), .pointer (some ⟨tb, 0, none⟩), .int .u8 p, .slice (some ⟨b, off, none⟩) m c] w fun e w' => HPost q tb T (periodR m f s d) w e w' := by
  have HH := Lib.hid h
  have HT := Lib.hid h.buf
  have HB := Lib.hid (Below.refl tb w)
  have hmc := h.mc
  have hcm := h.cm
  have hcell := h.cell
  unfold maxLen at hcm
  clear h
  rcases (by omega : m = 1 ∨ m = 2 ∨ m = 3 ∨ m = 4 ∨ 5 ≤ m) with rfl | rfl | rfl | rfl | hm'
  · have c0 : w.cell? ⟨b, off, none⟩ = some (.int .u8 (f 0)) := hcell 0 (by omega)
    clear hcell
    go_enter Tryd.func22, Tryd.ntmps22
    go_wp2_with (first
      | (go_at_call 30; refine (tolower_any _ _ (HH.out.rng _)).mono ?_; rintro e w' ⟨rfl, rfl⟩)
      | (go_at_call 32; refine (wordB_any _ _).mono ?_; rintro e wn ⟨rfl, hbn⟩; have HB := Lib.hid (HB.out.trans (hbn.mono (Nat.le_of_lt HT.out.lt))); have HT : Hid (TBuf tb [] wn) := Lib.hid (HT.out.old hbn); have c0 := (hbn.cell (World.block_lt_of_cell? _ _ c0)).trans c0; clear hbn)
      | (go_at_call 33; refine (wC tb [] _ _ HT.out (by decide) (by decide)).mono ?_; rintro e w1 ⟨rfl, HT1, hb1⟩; have HB1 := Lib.hid (HB.out.trans hb1); clear hb1)
      | (go_at_call 34; refine (wB tb [] _ _ HT.out (by decide)).mono ?_; rintro e w1 ⟨rfl, HT1, hb1⟩; have HB1 := Lib.hid (HB.out.trans hb1); clear hb1))
    all_goals go_ret
    all_goals first
      | exact leaf 0 (by unfold periodR; ((repeat' split) <;> first | rfl | (exfalso; simp at *; omega) | (exfalso; simp_all; done) | (exfalso; simp_all; omega))) rfl HT1.out HB1.out HH.out.tab HH.out.qtb
      | exact leaf 2 (by unfold periodR; ((repeat' split) <;> first | rfl | (exfalso; simp at *; omega) | (exfalso; simp_all; done) | (exfalso; simp_all; omega))) rfl HT1.out HB1.out HH.out.tab HH.out.qtb
      | exact leaf 4 (by unfold periodR; ((repeat' split) <;> first | rfl | (exfalso; simp at *; omega) | (exfalso; simp_all; done) | (exfalso; simp_all; omega))) rfl HT1.out HB1.out HH.out.tab HH.out.qtb
  · have c0 : w.cell? ⟨b, off, none⟩ = some (.int .u8 (f 0)) := hcell 0 (by omega)
    have c1 : w.cell? ⟨b, off + 1, none⟩ = some (.int .u8 (f 1)) := hcell 1 (by omega)
    clear hcell
    go_enter Tryd.func22, Tryd.ntmps22
    go_wp2_with (first
      | (go_at_call 30; refine (tolower_any _ _ (HH.out.rng _)).mono ?_; rintro e w' ⟨rfl, rfl⟩)
      | (go_at_call 32; refine (wordB_any _ _).mono ?_; rintro e wn ⟨rfl, hbn⟩; have HB := Lib.hid (HB.out.trans (hbn.mono (Nat.le_of_lt HT.out.lt))); have HT : Hid (TBuf tb [] wn) := Lib.hid (HT.out.old hbn); have c0 := (hbn.cell (World.block_lt_of_cell? _ _ c0)).trans c0; have c1 := (hbn.cell (World.block_lt_of_cell? _ _ c1)).trans c1; clear hbn)
      | (go_at_call 33; refine (wC tb [] _ _ HT.out (by decide) (by decide)).mono ?_; rintro e w1 ⟨rfl, HT1, hb1⟩; have HB1 := Lib.hid (HB.out.trans hb1); clear hb1)
      | (go_at_call 34; refine (wB tb [] _ _ HT.out (by decide)).mono ?_; rintro e w1 ⟨rfl, HT1, hb1⟩; have HB1 := Lib.hid (HB.out.trans hb1); clear hb1))
    all_goals go_ret
    all_goals first
      | exact leaf 0 (by unfold periodR; ((repeat' split) <;> first | rfl | (exfalso; simp at *; omega) | (exfalso; simp_all; done) | (exfalso; simp_all; omega))) rfl HT1.out HB1.out HH.out.tab HH.out.qtb
      | exact leaf 2 (by unfold periodR; ((repeat' split) <;> first | rfl | (exfalso; simp at *; omega) | (exfalso; simp_all; done) | (exfalso; simp_all; omega))) rfl HT1.out HB1.out HH.out.tab HH.out.qtb
      | exact leaf 4 (by unfold periodR; ((repeat' split) <;> first | rfl | (exfalso; simp at *; omega) | (exfalso; simp_all; done) | (exfalso; simp_all; omega))) rfl HT1.out HB1.out HH.out.tab HH.out.qtb
  · have c0 : w.cell? ⟨b, off, none⟩ = some (.int .u8 (f 0)) := hcell 0 (by omega)
    have c1 : w.cell? ⟨b, off + 1, none⟩ = some (.int .u8 (f 1)) := hcell 1 (by omega)
    have c2 : w.cell? ⟨b, off + 2, none⟩ = some (.int .u8 (f 2)) := hcell 2 (by omega)
    clear hcell
    go_enter Tryd.func22, Tryd.ntmps22
    go_wp2_with (first
      | (go_at_call 30; refine (tolower_any _ _ (HH.out.rng _)).mono ?_; rintro e w' ⟨rfl, rfl⟩)
      | (go_at_call 32; refine (wordB_any _ _).mono ?_; rintro e wn ⟨rfl, hbn⟩; have HB := Lib.hid (HB.out.trans (hbn.mono (Nat.le_of_lt HT.out.lt))); have HT : Hid (TBuf tb [] wn) := Lib.hid (HT.out.old hbn); have c0 := (hbn.cell (World.block_lt_of_cell? _ _ c0)).trans c0; have c1 := (hbn.cell (World.block_lt_of_cell? _ _ c1)).trans c1; have c2 := (hbn.cell (World.block_lt_of_cell? _ _ c2)).trans c2; clear hbn)
      | (go_at_call 33; refine (wC tb [] _ _ HT.out (by decide) (by decide)).mono ?_; rintro e w1 ⟨rfl, HT1, hb1⟩; have HB1 := Lib.hid (HB.out.trans hb1); clear hb1)
      | (go_at_call 34; refine (wB tb [] _ _ HT.out (by decide)).mono ?_; rintro e w1 ⟨rfl, HT1, hb1⟩; have HB1 := Lib.hid (HB.out.trans hb1); clear hb1))
    all_goals go_ret
    all_goals first
      | exact leaf 0 (by unfold periodR; ((repeat' split) <;> first | rfl | (exfalso; simp at *; omega) | (exfalso; simp_all; done) | (exfalso; simp_all; omega))) rfl HT1.out HB1.out HH.out.tab HH.out.qtb
      | exact leaf 2 (by unfold periodR; ((repeat' split) <;> first | rfl | (exfalso; simp at *; omega) | (exfalso; simp_all; done) | (exfalso; simp_all; omega))) rfl HT1.out HB1.out HH.out.tab HH.out.qtb
      | exact leaf 4 (by unfold periodR; ((repeat' split) <;> first | rfl | (exfalso; simp at *; omega) | (exfalso; simp_all; done) | (exfalso; simp_all; omega))) rfl HT1.out HB1.out HH.out.tab HH.out.qtb
  · have c0 : w.cell? ⟨b, off, none⟩ = some (.int .u8 (f 0)) := hcell 0 (by omega)
    have c1 : w.cell? ⟨b, off + 1, none⟩ = some (.int .u8 (f 1)) := hcell 1 (by omega)
    have c2 : w.cell? ⟨b, off + 2, none⟩ = some (.int .u8 (f 2)) := hcell 2 (by omega)
    have c3 : w.cell? ⟨b, off + 3, none⟩ = some (.int .u8 (f 3)) := hcell 3 (by omega)
    clear hcell
    go_enter Tryd.func22, Tryd.ntmps22
    go_wp2_with (first
      | (go_at_call 30; refine (tolower_any _ _ (HH.out.rng _)).mono ?_; rintro e w' ⟨rfl, rfl⟩)
      | (go_at_call 32; refine (wordB_any _ _).mono ?_; rintro e wn ⟨rfl, hbn⟩; have HB := Lib.hid (HB.out.trans (hbn.mono (Nat.le_of_lt HT.out.lt))); have HT : Hid (TBuf tb [] wn) := Lib.hid (HT.out.old hbn); have c0 := (hbn.cell (World.block_lt_of_cell? _ _ c0)).trans c0; have c1 := (hbn.cell (World.block_lt_of_cell? _ _ c1)).trans c1; have c2 := (hbn.cell (World.block_lt_of_cell? _ _ c2)).trans c2; have c3 := (hbn.cell (World.block_lt_of_cell? _ _ c3)).trans c3; clear hbn)
      | (go_at_call 33; refine (wC tb [] _ _ HT.out (by decide) (by decide)).mono ?_; rintro e w1 ⟨rfl, HT1, hb1⟩; have HB1 := Lib.hid (HB.out.trans hb1); clear hb1)
      | (go_at_call 34; refine (wB tb [] _ _ HT.out (by decide)).mono ?_; rintro e w1 ⟨rfl, HT1, hb1⟩; have HB1 := Lib.hid (HB.out.trans hb1); clear hb1))
    all_goals go_ret
    all_goals first
      | exact leaf 0 (by unfold periodR; ((repeat' split) <;> first | rfl | (exfalso; simp at *; omega) | (exfalso; simp_all; done) | (exfalso; simp_all; omega))) rfl HT1.out HB1.out HH.out.tab HH.out.qtb
      | exact leaf 2 (by unfold periodR; ((repeat' split) <;> first | rfl | (exfalso; simp at *; omega) | (exfalso; simp_all; done) | (exfalso; simp_all; omega))) rfl HT1.out HB1.out HH.out.tab HH.out.qtb
      | exact leaf 4 (by unfold periodR; ((repeat' split) <;> first | rfl | (exfalso; simp at *; omega) | (exfalso; simp_all; done) | (exfalso; simp_all; omega))) rfl HT1.out HB1.out HH.out.tab HH.out.qtb
  · have c0 : w.cell? ⟨b, off, none⟩ = some (.int .u8 (f 0)) := hcell 0 (by omega)
    have c1 : w.cell? ⟨b, off + 1, none⟩ = some (.int .u8 (f 1)) := hcell 1 (by omega)
    have c2 : w.cell? ⟨b, off + 2, none⟩ = some (.int .u8 (f 2)) := hcell 2 (by omega)
    have c3 : w.cell? ⟨b, off + 3, none⟩ = some (.int .u8 (f 3)) := hcell 3 (by omega)
    have c4 : w.cell? ⟨b, off + 4, none⟩ = some (.int .u8 (f 4)) := hcell 4 (by omega)
    have hmi : ((5 : Nat) : Int) ≤ m := by omega
    clear hcell
    go_enter Tryd.func22, Tryd.ntmps22
    go_wp2_with (first
      | (go_at_call 30; refine (tolower_any _ _ (HH.out.rng _)).mono ?_; rintro e w' ⟨rfl, rfl⟩)
      | (go_at_call 32; refine (wordB_any _ _).mono ?_; rintro e wn ⟨rfl, hbn⟩; have HB := Lib.hid (HB.out.trans (hbn.mono (Nat.le_of_lt HT.out.lt))); have HT : Hid (TBuf tb [] wn) := Lib.hid (HT.out.old hbn); have c0 := (hbn.cell (World.block_lt_of_cell? _ _ c0)).trans c0; have c1 := (hbn.cell (World.block_lt_of_cell? _ _ c1)).trans c1; have c2 := (hbn.cell (World.block_lt_of_cell? _ _ c2)).trans c2; have c3 := (hbn.cell (World.block_lt_of_cell? _ _ c3)).trans c3; have c4 := (hbn.cell (World.block_lt_of_cell? _ _ c4)).trans c4; clear hbn)
      | (go_at_call 33; refine (wC tb [] _ _ HT.out (by decide) (by decide)).mono ?_; rintro e w1 ⟨rfl, HT1, hb1⟩; have HB1 := Lib.hid (HB.out.trans hb1); clear hb1)
      | (go_at_call 34; refine (wB tb [] _ _ HT.out (by decide)).mono ?_; rintro e w1 ⟨rfl, HT1, hb1⟩; have HB1 := Lib.hid (HB.out.trans hb1); clear hb1))
    all_goals go_ret
    all_goals first
      | exact leaf 0 (by unfold periodR; ((repeat' split) <;> first | rfl | (exfalso; simp at *; omega) | (exfalso; simp_all; done) | (exfalso; simp_all; omega))) rfl HT1.out HB1.out HH.out.tab HH.out.qtb
      | exact leaf 2 (by unfold periodR; ((repeat' split) <;> first | rfl | (exfalso; simp at *; omega) | (exfalso; simp_all; done) | (exfalso; simp_all; omega))) rfl HT1.out HB1.out HH.out.tab HH.out.qtb
      | exact leaf 4 (by unfold periodR; ((repeat' split) <;> first | rfl | (exfalso; simp at *; omega) | (exfalso; simp_all; done) | (exfalso; simp_all; omega))) rfl HT1.out HB1.out HH.out.tab HH.out.qtb

end Go.Proofs.YtghmbpogniopoaaDoor
