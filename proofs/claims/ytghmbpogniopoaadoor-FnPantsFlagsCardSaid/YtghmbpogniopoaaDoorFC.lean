/- Punctuation: num2b. -/
import Derived.Test.YtghmbpogniopoaaDoorFB
namespace Go.Proofs.YtghmbpogniopoaaDoor
open Go.RowKit
set_option linter.unusedVariables false
set_option linter.unusedSimpArgs false

set_option maxHeartbeats 8000000 in
set_option maxRecDepth 100000 in
theorem num6_any (q tb : Nat) (s d : Bool) (T : Nat → Value) (b off m c : Nat) (f : Nat → Int) (p : Int) (w : World) (h : HPre q tb s d T b off m c f w) (h0 : f 0 = 49 ∨ f 0 = 51) (hm : 6 ≤ m) :
    Calls Tryd.prog 23 #[.pointer (some ⟨q, 0, none⟩), .pointer (some ⟨tb, 0, none⟩), .int .u8 p, .slice (some ⟨b, off, none⟩) m c] w fun e w' => HPost q tb T (numR m f p s d) w e w' := by
  have HH := Lib.hid h
  have HT := Lib.hid h.buf
  have HB := Lib.hid (Below.refl tb w)
  have hmc := h.mc
  have hcm := h.cm
  have hcell := h.cell
  unfold maxLen at hcm
  clear h
  have l47 : low 47 = 47 := by decide
  have c0 : w.cell? ⟨b, off, none⟩ = some (.int .u8 (f 0)) := hcell 0 (by omega)
  have c1 : w.cell? ⟨b, off + 1, none⟩ = some (.int .u8 (f 1)) := hcell 1 (by omega)
  have c2 : w.cell? ⟨b, off + 2, none⟩ = some (.int .u8 (f 2)) := hcell 2 (by omega)
  have c3 : w.cell? ⟨b, off + 3, none⟩ = some (.int .u8 (f 3)) := hcell 3 (by omega)
  have c4 : w.cell? ⟨b, off + 4, none⟩ = some (.int .u8 (f 4)) := hcell 4 (by omega)
  have c5 : w.cell? ⟨b, off + 5, none⟩ = some (.int .u8 (f 5)) := hcell 5 (by omega)
  have hmi : ((6 : Nat) : Int) ≤ m := by omega
  have hi3 : (3 : Int) ≤ m := by omega
  have hi4 : ¬ (m : Int) < 4 := by omega
  have hi5 : (5 : Int) ≤ m := by omega
  have hi6 : (6 : Int) ≤ m := by omega
  have hm3 : 3 ≤ m := by omega
  have hm5 : 5 ≤ m := by omega
  have hm4 : ¬ m < 4 := by omega
  clear hcell
  cases hwp : wbd p
  · have HR : Hid (numR m f p s d = ⟨0, [f 0], s, d⟩) := Lib.hid (by simp [numR, hm, hm3, hm5, hm4, hwp])
    clear hm3 hm5 hm4
    go_enter Tryd.func23, Tryd.ntmps23
    go_wp2_with (first
      | (go_at_call 30; refine (tolower_any _ _ (HH.out.rng _)).mono ?_; rintro e w' ⟨rfl, rfl⟩)
      | (go_at_call 32; refine (wordB_any _ _).mono ?_; rintro e wn ⟨rfl, hbn⟩; have HB := Lib.hid (HB.out.trans (hbn.mono (Nat.le_of_lt HT.out.lt))); have HT : Hid (TBuf tb [] wn) := Lib.hid (HT.out.old hbn); have c0 := (hbn.cell (World.block_lt_of_cell? _ _ c0)).trans c0; have c1 := (hbn.cell (World.block_lt_of_cell? _ _ c1)).trans c1; have c2 := (hbn.cell (World.block_lt_of_cell? _ _ c2)).trans c2; have c3 := (hbn.cell (World.block_lt_of_cell? _ _ c3)).trans c3; have c4 := (hbn.cell (World.block_lt_of_cell? _ _ c4)).trans c4; have c5 := (hbn.cell (World.block_lt_of_cell? _ _ c5)).trans c5; clear hbn)
      | (go_at_call 33; refine (wC tb [] _ _ HT.out (by decide) (by decide)).mono ?_; rintro e w1 ⟨rfl, HT1, hb1⟩; have HB1 := Lib.hid (HB.out.trans hb1); clear hb1)
      | (go_at_call 34; refine (wB tb [] _ _ HT.out (by decide)).mono ?_; rintro e w1 ⟨rfl, HT1, hb1⟩; have HB1 := Lib.hid (HB.out.trans hb1); clear hb1))
    all_goals go_ret
    all_goals exact leaf 0 (HR.out.trans (by first | rfl | (rw [h0]; rfl))) rfl HT1.out HB1.out HH.out.tab HH.out.qtb
  by_cases hp : p = 47
  · have HR : Hid (numR m f p s d = ⟨0, [f 0], s, d⟩) := Lib.hid (by simp [numR, hm, hm3, hm5, hm4, hwp, hp])
    clear hm3 hm5 hm4
    go_enter Tryd.func23, Tryd.ntmps23
    go_wp2_with (first
      | (go_at_call 30; refine (tolower_any _ _ (HH.out.rng _)).mono ?_; rintro e w' ⟨rfl, rfl⟩)
      | (go_at_call 32; refine (wordB_any _ _).mono ?_; rintro e wn ⟨rfl, hbn⟩; have HB := Lib.hid (HB.out.trans (hbn.mono (Nat.le_of_lt HT.out.lt))); have HT : Hid (TBuf tb [] wn) := Lib.hid (HT.out.old hbn); have c0 := (hbn.cell (World.block_lt_of_cell? _ _ c0)).trans c0; have c1 := (hbn.cell (World.block_lt_of_cell? _ _ c1)).trans c1; have c2 := (hbn.cell (World.block_lt_of_cell? _ _ c2)).trans c2; have c3 := (hbn.cell (World.block_lt_of_cell? _ _ c3)).trans c3; have c4 := (hbn.cell (World.block_lt_of_cell? _ _ c4)).trans c4; have c5 := (hbn.cell (World.block_lt_of_cell? _ _ c5)).trans c5; clear hbn)
      | (go_at_call 33; refine (wC tb [] _ _ HT.out (by decide) (by decide)).mono ?_; rintro e w1 ⟨rfl, HT1, hb1⟩; have HB1 := Lib.hid (HB.out.trans hb1); clear hb1)
      | (go_at_call 34; refine (wB tb [] _ _ HT.out (by decide)).mono ?_; rintro e w1 ⟨rfl, HT1, hb1⟩; have HB1 := Lib.hid (HB.out.trans hb1); clear hb1))
    all_goals go_ret
    all_goals exact leaf 0 (HR.out.trans (by first | rfl | (rw [h0]; rfl))) rfl HT1.out HB1.out HH.out.tab HH.out.qtb
  have hpb : (p != 47) = true := by simpa using hp
  by_cases h1 : f 1 = 47
  case neg =>
    rcases h0 with h0 | h0
    · have HR : Hid (numR m f p s d = ⟨0, [f 0], s, d⟩) := Lib.hid (by simp [numR, hm, hm3, hm5, hm4, hwp, hp, h1, h0])
      clear hm3 hm5 hm4
      go_enter Tryd.func23, Tryd.ntmps23
      go_wp2_with (first
      | (go_at_call 30; refine (tolower_any _ _ (HH.out.rng _)).mono ?_; rintro e w' ⟨rfl, rfl⟩)
      | (go_at_call 32; refine (wordB_any _ _).mono ?_; rintro e wn ⟨rfl, hbn⟩; have HB := Lib.hid (HB.out.trans (hbn.mono (Nat.le_of_lt HT.out.lt))); have HT : Hid (TBuf tb [] wn) := Lib.hid (HT.out.old hbn); have c0 := (hbn.cell (World.block_lt_of_cell? _ _ c0)).trans c0; have c1 := (hbn.cell (World.block_lt_of_cell? _ _ c1)).trans c1; have c2 := (hbn.cell (World.block_lt_of_cell? _ _ c2)).trans c2; have c3 := (hbn.cell (World.block_lt_of_cell? _ _ c3)).trans c3; have c4 := (hbn.cell (World.block_lt_of_cell? _ _ c4)).trans c4; have c5 := (hbn.cell (World.block_lt_of_cell? _ _ c5)).trans c5; clear hbn)
      | (go_at_call 33; refine (wC tb [] _ _ HT.out (by decide) (by decide)).mono ?_; rintro e w1 ⟨rfl, HT1, hb1⟩; have HB1 := Lib.hid (HB.out.trans hb1); clear hb1)
      | (go_at_call 34; refine (wB tb [] _ _ HT.out (by decide)).mono ?_; rintro e w1 ⟨rfl, HT1, hb1⟩; have HB1 := Lib.hid (HB.out.trans hb1); clear hb1))
      all_goals go_ret
      all_goals exact leaf 0 (HR.out.trans (by first | rfl | (rw [h0]; rfl))) rfl HT1.out HB1.out HH.out.tab HH.out.qtb
    · have HR : Hid (numR m f p s d = ⟨0, [f 0], s, d⟩) := Lib.hid (by simp [numR, hm, hm3, hm5, hm4, hwp, hp, h1, h0])
      clear hm3 hm5 hm4
      go_enter Tryd.func23, Tryd.ntmps23
      go_wp2_with (first
      | (go_at_call 30; refine (tolower_any _ _ (HH.out.rng _)).mono ?_; rintro e w' ⟨rfl, rfl⟩)
      | (go_at_call 32; refine (wordB_any _ _).mono ?_; rintro e wn ⟨rfl, hbn⟩; have HB := Lib.hid (HB.out.trans (hbn.mono (Nat.le_of_lt HT.out.lt))); have HT : Hid (TBuf tb [] wn) := Lib.hid (HT.out.old hbn); have c0 := (hbn.cell (World.block_lt_of_cell? _ _ c0)).trans c0; have c1 := (hbn.cell (World.block_lt_of_cell? _ _ c1)).trans c1; have c2 := (hbn.cell (World.block_lt_of_cell? _ _ c2)).trans c2; have c3 := (hbn.cell (World.block_lt_of_cell? _ _ c3)).trans c3; have c4 := (hbn.cell (World.block_lt_of_cell? _ _ c4)).trans c4; have c5 := (hbn.cell (World.block_lt_of_cell? _ _ c5)).trans c5; clear hbn)
      | (go_at_call 33; refine (wC tb [] _ _ HT.out (by decide) (by decide)).mono ?_; rintro e w1 ⟨rfl, HT1, hb1⟩; have HB1 := Lib.hid (HB.out.trans hb1); clear hb1)
      | (go_at_call 34; refine (wB tb [] _ _ HT.out (by decide)).mono ?_; rintro e w1 ⟨rfl, HT1, hb1⟩; have HB1 := Lib.hid (HB.out.trans hb1); clear hb1))
      all_goals go_ret
      all_goals exact leaf 0 (HR.out.trans (by first | rfl | (rw [h0]; rfl))) rfl HT1.out HB1.out HH.out.tab HH.out.qtb
  rcases h0 with h0 | h0
  · by_cases h2 : f 2 = 50
    · cases hw3 : wbd (f 3)
      · have HR : Hid (numR m f p s d = ⟨0, [f 0], s, d⟩) := Lib.hid (by simp [numR, hm, hm3, hm5, hm4, hwp, hp, h1, h0, h2, hw3])
        clear hm3 hm5 hm4
        go_enter Tryd.func23, Tryd.ntmps23
        go_wp2_with (first
      | (go_at_call 30; refine (tolower_any _ _ (HH.out.rng _)).mono ?_; rintro e w' ⟨rfl, rfl⟩)
      | (go_at_call 32; refine (wordB_any _ _).mono ?_; rintro e wn ⟨rfl, hbn⟩; have HB := Lib.hid (HB.out.trans (hbn.mono (Nat.le_of_lt HT.out.lt))); have HT : Hid (TBuf tb [] wn) := Lib.hid (HT.out.old hbn); have c0 := (hbn.cell (World.block_lt_of_cell? _ _ c0)).trans c0; have c1 := (hbn.cell (World.block_lt_of_cell? _ _ c1)).trans c1; have c2 := (hbn.cell (World.block_lt_of_cell? _ _ c2)).trans c2; have c3 := (hbn.cell (World.block_lt_of_cell? _ _ c3)).trans c3; have c4 := (hbn.cell (World.block_lt_of_cell? _ _ c4)).trans c4; have c5 := (hbn.cell (World.block_lt_of_cell? _ _ c5)).trans c5; clear hbn)
      | (go_at_call 33; refine (wC tb [] _ _ HT.out (by decide) (by decide)).mono ?_; rintro e w1 ⟨rfl, HT1, hb1⟩; have HB1 := Lib.hid (HB.out.trans hb1); clear hb1)
      | (go_at_call 34; refine (wB tb [] _ _ HT.out (by decide)).mono ?_; rintro e w1 ⟨rfl, HT1, hb1⟩; have HB1 := Lib.hid (HB.out.trans hb1); clear hb1))
        all_goals go_ret
        all_goals exact leaf 0 (HR.out.trans (by first | rfl | (rw [h0]; rfl))) rfl HT1.out HB1.out HH.out.tab HH.out.qtb
      · by_cases h47 : f 3 = 47
        · have HR : Hid (numR m f p s d = ⟨0, [f 0], s, d⟩) := Lib.hid (by simp [numR, hm, hm3, hm5, hm4, hwp, hp, h1, h0, h2, hw3, h47, l47])
          clear hm3 hm5 hm4
          have hb47 : (f 3 != 47) = false := by simp [h47]
          have hl0 : ¬ low (f 3) = 116 := by rw [h47]; decide
          clear h47 l47
          go_enter Tryd.func23, Tryd.ntmps23
          go_wp2_with (first
      | (go_at_call 30; refine (tolower_any _ _ (HH.out.rng _)).mono ?_; rintro e w' ⟨rfl, rfl⟩)
      | (go_at_call 32; refine (wordB_any _ _).mono ?_; rintro e wn ⟨rfl, hbn⟩; have HB := Lib.hid (HB.out.trans (hbn.mono (Nat.le_of_lt HT.out.lt))); have HT : Hid (TBuf tb [] wn) := Lib.hid (HT.out.old hbn); have c0 := (hbn.cell (World.block_lt_of_cell? _ _ c0)).trans c0; have c1 := (hbn.cell (World.block_lt_of_cell? _ _ c1)).trans c1; have c2 := (hbn.cell (World.block_lt_of_cell? _ _ c2)).trans c2; have c3 := (hbn.cell (World.block_lt_of_cell? _ _ c3)).trans c3; have c4 := (hbn.cell (World.block_lt_of_cell? _ _ c4)).trans c4; have c5 := (hbn.cell (World.block_lt_of_cell? _ _ c5)).trans c5; clear hbn)
      | (go_at_call 33; refine (wC tb [] _ _ HT.out (by decide) (by decide)).mono ?_; rintro e w1 ⟨rfl, HT1, hb1⟩; have HB1 := Lib.hid (HB.out.trans hb1); clear hb1)
      | (go_at_call 34; refine (wB tb [] _ _ HT.out (by decide)).mono ?_; rintro e w1 ⟨rfl, HT1, hb1⟩; have HB1 := Lib.hid (HB.out.trans hb1); clear hb1))
          all_goals go_ret
          all_goals exact leaf 0 (HR.out.trans (by first | rfl | (rw [h0]; rfl))) rfl HT1.out HB1.out HH.out.tab HH.out.qtb
        · have HR : Hid (numR m f p s d = ⟨2, strI ⟨#[38, 102, 114, 97, 99, 49, 50, 59]⟩, s, d⟩) := Lib.hid (by simp [numR, hm, hm3, hm5, hm4, hwp, hp, h1, h0, h2, hw3, h47])
          clear hm3 hm5 hm4
          have hb47 : (f 3 != 47) = true := by simpa using h47
          go_enter Tryd.func23, Tryd.ntmps23
          go_wp2_with (first
      | (go_at_call 30; refine (tolower_any _ _ (HH.out.rng _)).mono ?_; rintro e w' ⟨rfl, rfl⟩)
      | (go_at_call 32; refine (wordB_any _ _).mono ?_; rintro e wn ⟨rfl, hbn⟩; have HB := Lib.hid (HB.out.trans (hbn.mono (Nat.le_of_lt HT.out.lt))); have HT : Hid (TBuf tb [] wn) := Lib.hid (HT.out.old hbn); have c0 := (hbn.cell (World.block_lt_of_cell? _ _ c0)).trans c0; have c1 := (hbn.cell (World.block_lt_of_cell? _ _ c1)).trans c1; have c2 := (hbn.cell (World.block_lt_of_cell? _ _ c2)).trans c2; have c3 := (hbn.cell (World.block_lt_of_cell? _ _ c3)).trans c3; have c4 := (hbn.cell (World.block_lt_of_cell? _ _ c4)).trans c4; have c5 := (hbn.cell (World.block_lt_of_cell? _ _ c5)).trans c5; clear hbn)
      | (go_at_call 33; refine (wC tb [] _ _ HT.out (by decide) (by decide)).mono ?_; rintro e w1 ⟨rfl, HT1, hb1⟩; have HB1 := Lib.hid (HB.out.trans hb1); clear hb1)
      | (go_at_call 34; refine (wB tb [] _ _ HT.out (by decide)).mono ?_; rintro e w1 ⟨rfl, HT1, hb1⟩; have HB1 := Lib.hid (HB.out.trans hb1); clear hb1))
          all_goals go_ret
          all_goals exact leaf 2 (HR.out.trans (by first | rfl | (rw [h0]; rfl))) rfl HT1.out HB1.out HH.out.tab HH.out.qtb
    by_cases h3 : f 2 = 52
    · cases hw3 : wbd (f 3)
      · by_cases hl0 : low (f 3) = 116
        · by_cases hl1 : low (f 4) = 104
          · have HR : Hid (numR m f p s d = ⟨2, strI ⟨#[38, 102, 114, 97, 99, 49, 52, 59]⟩, s, d⟩) := Lib.hid (by simp [numR, hm, hm3, hm5, hm4, hwp, hp, h1, h0, h3, hw3, hl0, hl1])
            clear hm3 hm5 hm4
            go_enter Tryd.func23, Tryd.ntmps23
            go_wp2_with (first
      | (go_at_call 30; refine (tolower_any _ _ (HH.out.rng _)).mono ?_; rintro e w' ⟨rfl, rfl⟩)
      | (go_at_call 32; refine (wordB_any _ _).mono ?_; rintro e wn ⟨rfl, hbn⟩; have HB := Lib.hid (HB.out.trans (hbn.mono (Nat.le_of_lt HT.out.lt))); have HT : Hid (TBuf tb [] wn) := Lib.hid (HT.out.old hbn); have c0 := (hbn.cell (World.block_lt_of_cell? _ _ c0)).trans c0; have c1 := (hbn.cell (World.block_lt_of_cell? _ _ c1)).trans c1; have c2 := (hbn.cell (World.block_lt_of_cell? _ _ c2)).trans c2; have c3 := (hbn.cell (World.block_lt_of_cell? _ _ c3)).trans c3; have c4 := (hbn.cell (World.block_lt_of_cell? _ _ c4)).trans c4; have c5 := (hbn.cell (World.block_lt_of_cell? _ _ c5)).trans c5; clear hbn)
      | (go_at_call 33; refine (wC tb [] _ _ HT.out (by decide) (by decide)).mono ?_; rintro e w1 ⟨rfl, HT1, hb1⟩; have HB1 := Lib.hid (HB.out.trans hb1); clear hb1)
      | (go_at_call 34; refine (wB tb [] _ _ HT.out (by decide)).mono ?_; rintro e w1 ⟨rfl, HT1, hb1⟩; have HB1 := Lib.hid (HB.out.trans hb1); clear hb1))
            all_goals go_ret
            all_goals exact leaf 2 (HR.out.trans (by first | rfl | (rw [h0]; rfl))) rfl HT1.out HB1.out HH.out.tab HH.out.qtb
          · have HR : Hid (numR m f p s d = ⟨0, [f 0], s, d⟩) := Lib.hid (by simp [numR, hm, hm3, hm5, hm4, hwp, hp, h1, h0, h3, hw3, hl0, hl1])
            clear hm3 hm5 hm4
            have hlb : (low (f 4) == 104) = false := by simpa using hl1
            go_enter Tryd.func23, Tryd.ntmps23
            go_wp2_with (first
      | (go_at_call 30; refine (tolower_any _ _ (HH.out.rng _)).mono ?_; rintro e w' ⟨rfl, rfl⟩)
      | (go_at_call 32; refine (wordB_any _ _).mono ?_; rintro e wn ⟨rfl, hbn⟩; have HB := Lib.hid (HB.out.trans (hbn.mono (Nat.le_of_lt HT.out.lt))); have HT : Hid (TBuf tb [] wn) := Lib.hid (HT.out.old hbn); have c0 := (hbn.cell (World.block_lt_of_cell? _ _ c0)).trans c0; have c1 := (hbn.cell (World.block_lt_of_cell? _ _ c1)).trans c1; have c2 := (hbn.cell (World.block_lt_of_cell? _ _ c2)).trans c2; have c3 := (hbn.cell (World.block_lt_of_cell? _ _ c3)).trans c3; have c4 := (hbn.cell (World.block_lt_of_cell? _ _ c4)).trans c4; have c5 := (hbn.cell (World.block_lt_of_cell? _ _ c5)).trans c5; clear hbn)
      | (go_at_call 33; refine (wC tb [] _ _ HT.out (by decide) (by decide)).mono ?_; rintro e w1 ⟨rfl, HT1, hb1⟩; have HB1 := Lib.hid (HB.out.trans hb1); clear hb1)
      | (go_at_call 34; refine (wB tb [] _ _ HT.out (by decide)).mono ?_; rintro e w1 ⟨rfl, HT1, hb1⟩; have HB1 := Lib.hid (HB.out.trans hb1); clear hb1))
            all_goals go_ret
            all_goals exact leaf 0 (HR.out.trans (by first | rfl | (rw [h0]; rfl))) rfl HT1.out HB1.out HH.out.tab HH.out.qtb
        · have HR : Hid (numR m f p s d = ⟨0, [f 0], s, d⟩) := Lib.hid (by simp [numR, hm, hm3, hm5, hm4, hwp, hp, h1, h0, h3, hw3, hl0])
          clear hm3 hm5 hm4
          have hlb : (low (f 3) == 116) = false := by simpa using hl0
          go_enter Tryd.func23, Tryd.ntmps23
          go_wp2_with (first
      | (go_at_call 30; refine (tolower_any _ _ (HH.out.rng _)).mono ?_; rintro e w' ⟨rfl, rfl⟩)
      | (go_at_call 32; refine (wordB_any _ _).mono ?_; rintro e wn ⟨rfl, hbn⟩; have HB := Lib.hid (HB.out.trans (hbn.mono (Nat.le_of_lt HT.out.lt))); have HT : Hid (TBuf tb [] wn) := Lib.hid (HT.out.old hbn); have c0 := (hbn.cell (World.block_lt_of_cell? _ _ c0)).trans c0; have c1 := (hbn.cell (World.block_lt_of_cell? _ _ c1)).trans c1; have c2 := (hbn.cell (World.block_lt_of_cell? _ _ c2)).trans c2; have c3 := (hbn.cell (World.block_lt_of_cell? _ _ c3)).trans c3; have c4 := (hbn.cell (World.block_lt_of_cell? _ _ c4)).trans c4; have c5 := (hbn.cell (World.block_lt_of_cell? _ _ c5)).trans c5; clear hbn)
      | (go_at_call 33; refine (wC tb [] _ _ HT.out (by decide) (by decide)).mono ?_; rintro e w1 ⟨rfl, HT1, hb1⟩; have HB1 := Lib.hid (HB.out.trans hb1); clear hb1)
      | (go_at_call 34; refine (wB tb [] _ _ HT.out (by decide)).mono ?_; rintro e w1 ⟨rfl, HT1, hb1⟩; have HB1 := Lib.hid (HB.out.trans hb1); clear hb1))
          all_goals go_ret
          all_goals exact leaf 0 (HR.out.trans (by first | rfl | (rw [h0]; rfl))) rfl HT1.out HB1.out HH.out.tab HH.out.qtb
      · by_cases h47 : f 3 = 47
        · have HR : Hid (numR m f p s d = ⟨0, [f 0], s, d⟩) := Lib.hid (by simp [numR, hm, hm3, hm5, hm4, hwp, hp, h1, h0, h3, hw3, h47, l47])
          clear hm3 hm5 hm4
          have hb47 : (f 3 != 47) = false := by simp [h47]
          have hl0 : ¬ low (f 3) = 116 := by rw [h47]; decide
          clear h47 l47
          go_enter Tryd.func23, Tryd.ntmps23
          go_wp2_with (first
      | (go_at_call 30; refine (tolower_any _ _ (HH.out.rng _)).mono ?_; rintro e w' ⟨rfl, rfl⟩)
      | (go_at_call 32; refine (wordB_any _ _).mono ?_; rintro e wn ⟨rfl, hbn⟩; have HB := Lib.hid (HB.out.trans (hbn.mono (Nat.le_of_lt HT.out.lt))); have HT : Hid (TBuf tb [] wn) := Lib.hid (HT.out.old hbn); have c0 := (hbn.cell (World.block_lt_of_cell? _ _ c0)).trans c0; have c1 := (hbn.cell (World.block_lt_of_cell? _ _ c1)).trans c1; have c2 := (hbn.cell (World.block_lt_of_cell? _ _ c2)).trans c2; have c3 := (hbn.cell (World.block_lt_of_cell? _ _ c3)).trans c3; have c4 := (hbn.cell (World.block_lt_of_cell? _ _ c4)).trans c4; have c5 := (hbn.cell (World.block_lt_of_cell? _ _ c5)).trans c5; clear hbn)
      | (go_at_call 33; refine (wC tb [] _ _ HT.out (by decide) (by decide)).mono ?_; rintro e w1 ⟨rfl, HT1, hb1⟩; have HB1 := Lib.hid (HB.out.trans hb1); clear hb1)
      | (go_at_call 34; refine (wB tb [] _ _ HT.out (by decide)).mono ?_; rintro e w1 ⟨rfl, HT1, hb1⟩; have HB1 := Lib.hid (HB.out.trans hb1); clear hb1))
          all_goals go_ret
          all_goals exact leaf 0 (HR.out.trans (by first | rfl | (rw [h0]; rfl))) rfl HT1.out HB1.out HH.out.tab HH.out.qtb
        · have HR : Hid (numR m f p s d = ⟨2, strI ⟨#[38, 102, 114, 97, 99, 49, 52, 59]⟩, s, d⟩) := Lib.hid (by simp [numR, hm, hm3, hm5, hm4, hwp, hp, h1, h0, h3, hw3, h47])
          clear hm3 hm5 hm4
          have hb47 : (f 3 != 47) = true := by simpa using h47
          go_enter Tryd.func23, Tryd.ntmps23
          go_wp2_with (first
      | (go_at_call 30; refine (tolower_any _ _ (HH.out.rng _)).mono ?_; rintro e w' ⟨rfl, rfl⟩)
      | (go_at_call 32; refine (wordB_any _ _).mono ?_; rintro e wn ⟨rfl, hbn⟩; have HB := Lib.hid (HB.out.trans (hbn.mono (Nat.le_of_lt HT.out.lt))); have HT : Hid (TBuf tb [] wn) := Lib.hid (HT.out.old hbn); have c0 := (hbn.cell (World.block_lt_of_cell? _ _ c0)).trans c0; have c1 := (hbn.cell (World.block_lt_of_cell? _ _ c1)).trans c1; have c2 := (hbn.cell (World.block_lt_of_cell? _ _ c2)).trans c2; have c3 := (hbn.cell (World.block_lt_of_cell? _ _ c3)).trans c3; have c4 := (hbn.cell (World.block_lt_of_cell? _ _ c4)).trans c4; have c5 := (hbn.cell (World.block_lt_of_cell? _ _ c5)).trans c5; clear hbn)
      | (go_at_call 33; refine (wC tb [] _ _ HT.out (by decide) (by decide)).mono ?_; rintro e w1 ⟨rfl, HT1, hb1⟩; have HB1 := Lib.hid (HB.out.trans hb1); clear hb1)
      | (go_at_call 34; refine (wB tb [] _ _ HT.out (by decide)).mono ?_; rintro e w1 ⟨rfl, HT1, hb1⟩; have HB1 := Lib.hid (HB.out.trans hb1); clear hb1))
          all_goals go_ret
          all_goals exact leaf 2 (HR.out.trans (by first | rfl | (rw [h0]; rfl))) rfl HT1.out HB1.out HH.out.tab HH.out.qtb
    have HR : Hid (numR m f p s d = ⟨0, [f 0], s, d⟩) := Lib.hid (by simp [numR, hm, hm3, hm5, hm4, hwp, hp, h1, h0, h2, h3])
    clear hm3 hm5 hm4
    go_enter Tryd.func23, Tryd.ntmps23
    go_wp2_with (first
      | (go_at_call 30; refine (tolower_any _ _ (HH.out.rng _)).mono ?_; rintro e w' ⟨rfl, rfl⟩)
      | (go_at_call 32; refine (wordB_any _ _).mono ?_; rintro e wn ⟨rfl, hbn⟩; have HB := Lib.hid (HB.out.trans (hbn.mono (Nat.le_of_lt HT.out.lt))); have HT : Hid (TBuf tb [] wn) := Lib.hid (HT.out.old hbn); have c0 := (hbn.cell (World.block_lt_of_cell? _ _ c0)).trans c0; have c1 := (hbn.cell (World.block_lt_of_cell? _ _ c1)).trans c1; have c2 := (hbn.cell (World.block_lt_of_cell? _ _ c2)).trans c2; have c3 := (hbn.cell (World.block_lt_of_cell? _ _ c3)).trans c3; have c4 := (hbn.cell (World.block_lt_of_cell? _ _ c4)).trans c4; have c5 := (hbn.cell (World.block_lt_of_cell? _ _ c5)).trans c5; clear hbn)
      | (go_at_call 33; refine (wC tb [] _ _ HT.out (by decide) (by decide)).mono ?_; rintro e w1 ⟨rfl, HT1, hb1⟩; have HB1 := Lib.hid (HB.out.trans hb1); clear hb1)
      | (go_at_call 34; refine (wB tb [] _ _ HT.out (by decide)).mono ?_; rintro e w1 ⟨rfl, HT1, hb1⟩; have HB1 := Lib.hid (HB.out.trans hb1); clear hb1))
    all_goals go_ret
    all_goals exact leaf 0 (HR.out.trans (by first | rfl | (rw [h0]; rfl))) rfl HT1.out HB1.out HH.out.tab HH.out.qtb
  · by_cases h2 : f 2 = 50
    · have HR : Hid (numR m f p s d = ⟨0, [f 0], s, d⟩) := Lib.hid (by simp [numR, hm, hm3, hm5, hm4, hwp, hp, h1, h0, h2])
      clear hm3 hm5 hm4
      go_enter Tryd.func23, Tryd.ntmps23
      go_wp2_with (first
      | (go_at_call 30; refine (tolower_any _ _ (HH.out.rng _)).mono ?_; rintro e w' ⟨rfl, rfl⟩)
      | (go_at_call 32; refine (wordB_any _ _).mono ?_; rintro e wn ⟨rfl, hbn⟩; have HB := Lib.hid (HB.out.trans (hbn.mono (Nat.le_of_lt HT.out.lt))); have HT : Hid (TBuf tb [] wn) := Lib.hid (HT.out.old hbn); have c0 := (hbn.cell (World.block_lt_of_cell? _ _ c0)).trans c0; have c1 := (hbn.cell (World.block_lt_of_cell? _ _ c1)).trans c1; have c2 := (hbn.cell (World.block_lt_of_cell? _ _ c2)).trans c2; have c3 := (hbn.cell (World.block_lt_of_cell? _ _ c3)).trans c3; have c4 := (hbn.cell (World.block_lt_of_cell? _ _ c4)).trans c4; have c5 := (hbn.cell (World.block_lt_of_cell? _ _ c5)).trans c5; clear hbn)
      | (go_at_call 33; refine (wC tb [] _ _ HT.out (by decide) (by decide)).mono ?_; rintro e w1 ⟨rfl, HT1, hb1⟩; have HB1 := Lib.hid (HB.out.trans hb1); clear hb1)
      | (go_at_call 34; refine (wB tb [] _ _ HT.out (by decide)).mono ?_; rintro e w1 ⟨rfl, HT1, hb1⟩; have HB1 := Lib.hid (HB.out.trans hb1); clear hb1))
      all_goals go_ret
      all_goals exact leaf 0 (HR.out.trans (by first | rfl | (rw [h0]; rfl))) rfl HT1.out HB1.out HH.out.tab HH.out.qtb
    by_cases h3 : f 2 = 52
    · cases hw3 : wbd (f 3)
      · by_cases hl0 : low (f 3) = 116
        · by_cases hl1 : low (f 4) = 104
          · by_cases hl2 : low (f 5) = 115
            · have HR : Hid (numR m f p s d = ⟨2, strI ⟨#[38, 102, 114, 97, 99, 51, 52, 59]⟩, s, d⟩) := Lib.hid (by simp [numR, hm, hm3, hm5, hm4, hwp, hp, h1, h0, h3, hw3, hl0, hl1, hl2])
              clear hm3 hm5 hm4
              go_enter Tryd.func23, Tryd.ntmps23
              go_wp2_with (first
      | (go_at_call 30; refine (tolower_any _ _ (HH.out.rng _)).mono ?_; rintro e w' ⟨rfl, rfl⟩)
      | (go_at_call 32; refine (wordB_any _ _).mono ?_; rintro e wn ⟨rfl, hbn⟩; have HB := Lib.hid (HB.out.trans (hbn.mono (Nat.le_of_lt HT.out.lt))); have HT : Hid (TBuf tb [] wn) := Lib.hid (HT.out.old hbn); have c0 := (hbn.cell (World.block_lt_of_cell? _ _ c0)).trans c0; have c1 := (hbn.cell (World.block_lt_of_cell? _ _ c1)).trans c1; have c2 := (hbn.cell (World.block_lt_of_cell? _ _ c2)).trans c2; have c3 := (hbn.cell (World.block_lt_of_cell? _ _ c3)).trans c3; have c4 := (hbn.cell (World.block_lt_of_cell? _ _ c4)).trans c4; have c5 := (hbn.cell (World.block_lt_of_cell? _ _ c5)).trans c5; clear hbn)
      | (go_at_call 33; refine (wC tb [] _ _ HT.out (by decide) (by decide)).mono ?_; rintro e w1 ⟨rfl, HT1, hb1⟩; have HB1 := Lib.hid (HB.out.trans hb1); clear hb1)
      | (go_at_call 34; refine (wB tb [] _ _ HT.out (by decide)).mono ?_; rintro e w1 ⟨rfl, HT1, hb1⟩; have HB1 := Lib.hid (HB.out.trans hb1); clear hb1))
              all_goals go_ret
              all_goals exact leaf 2 (HR.out.trans (by first | rfl | (rw [h0]; rfl))) rfl HT1.out HB1.out HH.out.tab HH.out.qtb
            · have HR : Hid (numR m f p s d = ⟨0, [f 0], s, d⟩) := Lib.hid (by simp [numR, hm, hm3, hm5, hm4, hwp, hp, h1, h0, h3, hw3, hl0, hl1, hl2])
              clear hm3 hm5 hm4
              have hlb : (low (f 5) == 115) = false := by simpa using hl2
              go_enter Tryd.func23, Tryd.ntmps23
              go_wp2_with (first
      | (go_at_call 30; refine (tolower_any _ _ (HH.out.rng _)).mono ?_; rintro e w' ⟨rfl, rfl⟩)
      | (go_at_call 32; refine (wordB_any _ _).mono ?_; rintro e wn ⟨rfl, hbn⟩; have HB := Lib.hid (HB.out.trans (hbn.mono (Nat.le_of_lt HT.out.lt))); have HT : Hid (TBuf tb [] wn) := Lib.hid (HT.out.old hbn); have c0 := (hbn.cell (World.block_lt_of_cell? _ _ c0)).trans c0; have c1 := (hbn.cell (World.block_lt_of_cell? _ _ c1)).trans c1; have c2 := (hbn.cell (World.block_lt_of_cell? _ _ c2)).trans c2; have c3 := (hbn.cell (World.block_lt_of_cell? _ _ c3)).trans c3; have c4 := (hbn.cell (World.block_lt_of_cell? _ _ c4)).trans c4; have c5 := (hbn.cell (World.block_lt_of_cell? _ _ c5)).trans c5; clear hbn)
      | (go_at_call 33; refine (wC tb [] _ _ HT.out (by decide) (by decide)).mono ?_; rintro e w1 ⟨rfl, HT1, hb1⟩; have HB1 := Lib.hid (HB.out.trans hb1); clear hb1)
      | (go_at_call 34; refine (wB tb [] _ _ HT.out (by decide)).mono ?_; rintro e w1 ⟨rfl, HT1, hb1⟩; have HB1 := Lib.hid (HB.out.trans hb1); clear hb1))
              all_goals go_ret
              all_goals exact leaf 0 (HR.out.trans (by first | rfl | (rw [h0]; rfl))) rfl HT1.out HB1.out HH.out.tab HH.out.qtb
          · have HR : Hid (numR m f p s d = ⟨0, [f 0], s, d⟩) := Lib.hid (by simp [numR, hm, hm3, hm5, hm4, hwp, hp, h1, h0, h3, hw3, hl0, hl1])
            clear hm3 hm5 hm4
            have hlb : (low (f 4) == 104) = false := by simpa using hl1
            go_enter Tryd.func23, Tryd.ntmps23
            go_wp2_with (first
      | (go_at_call 30; refine (tolower_any _ _ (HH.out.rng _)).mono ?_; rintro e w' ⟨rfl, rfl⟩)
      | (go_at_call 32; refine (wordB_any _ _).mono ?_; rintro e wn ⟨rfl, hbn⟩; have HB := Lib.hid (HB.out.trans (hbn.mono (Nat.le_of_lt HT.out.lt))); have HT : Hid (TBuf tb [] wn) := Lib.hid (HT.out.old hbn); have c0 := (hbn.cell (World.block_lt_of_cell? _ _ c0)).trans c0; have c1 := (hbn.cell (World.block_lt_of_cell? _ _ c1)).trans c1; have c2 := (hbn.cell (World.block_lt_of_cell? _ _ c2)).trans c2; have c3 := (hbn.cell (World.block_lt_of_cell? _ _ c3)).trans c3; have c4 := (hbn.cell (World.block_lt_of_cell? _ _ c4)).trans c4; have c5 := (hbn.cell (World.block_lt_of_cell? _ _ c5)).trans c5; clear hbn)
      | (go_at_call 33; refine (wC tb [] _ _ HT.out (by decide) (by decide)).mono ?_; rintro e w1 ⟨rfl, HT1, hb1⟩; have HB1 := Lib.hid (HB.out.trans hb1); clear hb1)
      | (go_at_call 34; refine (wB tb [] _ _ HT.out (by decide)).mono ?_; rintro e w1 ⟨rfl, HT1, hb1⟩; have HB1 := Lib.hid (HB.out.trans hb1); clear hb1))
            all_goals go_ret
            all_goals exact leaf 0 (HR.out.trans (by first | rfl | (rw [h0]; rfl))) rfl HT1.out HB1.out HH.out.tab HH.out.qtb
        · have HR : Hid (numR m f p s d = ⟨0, [f 0], s, d⟩) := Lib.hid (by simp [numR, hm, hm3, hm5, hm4, hwp, hp, h1, h0, h3, hw3, hl0])
          clear hm3 hm5 hm4
          have hlb : (low (f 3) == 116) = false := by simpa using hl0
          go_enter Tryd.func23, Tryd.ntmps23
          go_wp2_with (first
      | (go_at_call 30; refine (tolower_any _ _ (HH.out.rng _)).mono ?_; rintro e w' ⟨rfl, rfl⟩)
      | (go_at_call 32; refine (wordB_any _ _).mono ?_; rintro e wn ⟨rfl, hbn⟩; have HB := Lib.hid (HB.out.trans (hbn.mono (Nat.le_of_lt HT.out.lt))); have HT : Hid (TBuf tb [] wn) := Lib.hid (HT.out.old hbn); have c0 := (hbn.cell (World.block_lt_of_cell? _ _ c0)).trans c0; have c1 := (hbn.cell (World.block_lt_of_cell? _ _ c1)).trans c1; have c2 := (hbn.cell (World.block_lt_of_cell? _ _ c2)).trans c2; have c3 := (hbn.cell (World.block_lt_of_cell? _ _ c3)).trans c3; have c4 := (hbn.cell (World.block_lt_of_cell? _ _ c4)).trans c4; have c5 := (hbn.cell (World.block_lt_of_cell? _ _ c5)).trans c5; clear hbn)
      | (go_at_call 33; refine (wC tb [] _ _ HT.out (by decide) (by decide)).mono ?_; rintro e w1 ⟨rfl, HT1, hb1⟩; have HB1 := Lib.hid (HB.out.trans hb1); clear hb1)
      | (go_at_call 34; refine (wB tb [] _ _ HT.out (by decide)).mono ?_; rintro e w1 ⟨rfl, HT1, hb1⟩; have HB1 := Lib.hid (HB.out.trans hb1); clear hb1))
          all_goals go_ret
          all_goals exact leaf 0 (HR.out.trans (by first | rfl | (rw [h0]; rfl))) rfl HT1.out HB1.out HH.out.tab HH.out.qtb
      · by_cases h47 : f 3 = 47
        · have HR : Hid (numR m f p s d = ⟨0, [f 0], s, d⟩) := Lib.hid (by simp [numR, hm, hm3, hm5, hm4, hwp, hp, h1, h0, h3, hw3, h47, l47])
          clear hm3 hm5 hm4
          have hb47 : (f 3 != 47) = false := by simp [h47]
          have hl0 : ¬ low (f 3) = 116 := by rw [h47]; decide
          clear h47 l47
          go_enter Tryd.func23, Tryd.ntmps23
          go_wp2_with (first
      | (go_at_call 30; refine (tolower_any _ _ (HH.out.rng _)).mono ?_; rintro e w' ⟨rfl, rfl⟩)
      | (go_at_call 32; refine (wordB_any _ _).mono ?_; rintro e wn ⟨rfl, hbn⟩; have HB := Lib.hid (HB.out.trans (hbn.mono (Nat.le_of_lt HT.out.lt))); have HT : Hid (TBuf tb [] wn) := Lib.hid (HT.out.old hbn); have c0 := (hbn.cell (World.block_lt_of_cell? _ _ c0)).trans c0; have c1 := (hbn.cell (World.block_lt_of_cell? _ _ c1)).trans c1; have c2 := (hbn.cell (World.block_lt_of_cell? _ _ c2)).trans c2; have c3 := (hbn.cell (World.block_lt_of_cell? _ _ c3)).trans c3; have c4 := (hbn.cell (World.block_lt_of_cell? _ _ c4)).trans c4; have c5 := (hbn.cell (World.block_lt_of_cell? _ _ c5)).trans c5; clear hbn)
      | (go_at_call 33; refine (wC tb [] _ _ HT.out (by decide) (by decide)).mono ?_; rintro e w1 ⟨rfl, HT1, hb1⟩; have HB1 := Lib.hid (HB.out.trans hb1); clear hb1)
      | (go_at_call 34; refine (wB tb [] _ _ HT.out (by decide)).mono ?_; rintro e w1 ⟨rfl, HT1, hb1⟩; have HB1 := Lib.hid (HB.out.trans hb1); clear hb1))
          all_goals go_ret
          all_goals exact leaf 0 (HR.out.trans (by first | rfl | (rw [h0]; rfl))) rfl HT1.out HB1.out HH.out.tab HH.out.qtb
        · have HR : Hid (numR m f p s d = ⟨2, strI ⟨#[38, 102, 114, 97, 99, 51, 52, 59]⟩, s, d⟩) := Lib.hid (by simp [numR, hm, hm3, hm5, hm4, hwp, hp, h1, h0, h3, hw3, h47])
          clear hm3 hm5 hm4
          have hb47 : (f 3 != 47) = true := by simpa using h47
          go_enter Tryd.func23, Tryd.ntmps23
          go_wp2_with (first
      | (go_at_call 30; refine (tolower_any _ _ (HH.out.rng _)).mono ?_; rintro e w' ⟨rfl, rfl⟩)
      | (go_at_call 32; refine (wordB_any _ _).mono ?_; rintro e wn ⟨rfl, hbn⟩; have HB := Lib.hid (HB.out.trans (hbn.mono (Nat.le_of_lt HT.out.lt))); have HT : Hid (TBuf tb [] wn) := Lib.hid (HT.out.old hbn); have c0 := (hbn.cell (World.block_lt_of_cell? _ _ c0)).trans c0; have c1 := (hbn.cell (World.block_lt_of_cell? _ _ c1)).trans c1; have c2 := (hbn.cell (World.block_lt_of_cell? _ _ c2)).trans c2; have c3 := (hbn.cell (World.block_lt_of_cell? _ _ c3)).trans c3; have c4 := (hbn.cell (World.block_lt_of_cell? _ _ c4)).trans c4; have c5 := (hbn.cell (World.block_lt_of_cell? _ _ c5)).trans c5; clear hbn)
      | (go_at_call 33; refine (wC tb [] _ _ HT.out (by decide) (by decide)).mono ?_; rintro e w1 ⟨rfl, HT1, hb1⟩; have HB1 := Lib.hid (HB.out.trans hb1); clear hb1)
      | (go_at_call 34; refine (wB tb [] _ _ HT.out (by decide)).mono ?_; rintro e w1 ⟨rfl, HT1, hb1⟩; have HB1 := Lib.hid (HB.out.trans hb1); clear hb1))
          all_goals go_ret
          all_goals exact leaf 2 (HR.out.trans (by first | rfl | (rw [h0]; rfl))) rfl HT1.out HB1.out HH.out.tab HH.out.qtb
    have HR : Hid (numR m f p s d = ⟨0, [f 0], s, d⟩) := Lib.hid (by simp [numR, hm, hm3, hm5, hm4, hwp, hp, h1, h0, h2, h3])
    clear hm3 hm5 hm4
    go_enter Tryd.func23, Tryd.ntmps23
    go_wp2_with (first
      | (go_at_call 30; refine (tolower_any _ _ (HH.out.rng _)).mono ?_; rintro e w' ⟨rfl, rfl⟩)
      | (go_at_call 32; refine (wordB_any _ _).mono ?_; rintro e wn ⟨rfl, hbn⟩; have HB := Lib.hid (HB.out.trans (hbn.mono (Nat.le_of_lt HT.out.lt))); have HT : Hid (TBuf tb [] wn) := Lib.hid (HT.out.old hbn); have c0 := (hbn.cell (World.block_lt_of_cell? _ _ c0)).trans c0; have c1 := (hbn.cell (World.block_lt_of_cell? _ _ c1)).trans c1; have c2 := (hbn.cell (World.block_lt_of_cell? _ _ c2)).trans c2; have c3 := (hbn.cell (World.block_lt_of_cell? _ _ c3)).trans c3; have c4 := (hbn.cell (World.block_lt_of_cell? _ _ c4)).trans c4; have c5 := (hbn.cell (World.block_lt_of_cell? _ _ c5)).trans c5; clear hbn)
      | (go_at_call 33; refine (wC tb [] _ _ HT.out (by decide) (by decide)).mono ?_; rintro e w1 ⟨rfl, HT1, hb1⟩; have HB1 := Lib.hid (HB.out.trans hb1); clear hb1)
      | (go_at_call 34; refine (wB tb [] _ _ HT.out (by decide)).mono ?_; rintro e w1 ⟨rfl, HT1, hb1⟩; have HB1 := Lib.hid (HB.out.trans hb1); clear hb1))
    all_goals go_ret
    all_goals exact leaf 0 (HR.out.trans (by first | rfl | (rw [h0]; rfl))) rfl HT1.out HB1.out HH.out.tab HH.out.qtb
theorem num_any (q tb : Nat) (s d : Bool) (T : Nat → Value) (b off m c : Nat) (f : Nat → Int) (p : Int) (w : World) (h : HPre q tb s d T b off m c f w) (h0 : f 0 = 49 ∨ f 0 = 51) (hm : 1 ≤ m) :
    Calls Tryd.prog 23 #[.pointer (some ⟨q, 0, none⟩), .pointer (some ⟨tb, 0, none⟩), .int .u8 p, .slice (some ⟨b, off, none⟩) m c] w fun e w' => HPost q tb T (numR m f p s d) w e w' := by
  rcases (by omega : m = 1 ∨ m = 2 ∨ m = 3 ∨ m = 4 ∨ m = 5 ∨ 6 ≤ m) with rfl | rfl | rfl | rfl | rfl | hm'
  · exact num1_any q tb s d T b off c f p w h h0
  · exact num2_any q tb s d T b off c f p w h h0
  · exact num3_any q tb s d T b off c f p w h h0
  · exact num4_any q tb s d T b off c f p w h h0
  · exact num5_any q tb s d T b off c f p w h h0
  · exact num6_any q tb s d T b off m c f p w h h0 hm'
end Go.Proofs.YtghmbpogniopoaaDoor
