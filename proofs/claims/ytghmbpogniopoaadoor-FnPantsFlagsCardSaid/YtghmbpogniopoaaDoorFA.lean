/- Punctuation: fractions of any numbers. -/
import Derived.Test.YtghmbpogniopoaaDoorF9
namespace Go.Proofs.YtghmbpogniopoaaDoor
open Go.RowKit
set_option linter.unusedVariables false
set_option linter.unusedSimpArgs false

def genD (m : Nat) (f : Nat → Int) (N : Nat) : Nat :=
  if N + 3 < m ∧ f N = 226 ∧ f (N + 1) = 129 ∧ f (N + 2) = 132 then N + 3 else if N + 2 ≤ m ∧ f N = 47 then N + 1 else 0
def genO (f : Nat → Int) (N D E : Nat) : List Int :=
  (((strI ⟨#[60, 115, 117, 112, 62]⟩ ++ (List.range N).map fun j => f (0 + j)) ++ strI ⟨#[60, 47, 115, 117, 112, 62, 38, 102, 114, 97, 115, 108, 59, 60, 115, 117, 98, 62]⟩) ++ (List.range (E - D)).map fun j => f (D + j)) ++ strI ⟨#[60, 47, 115, 117, 98, 62]⟩
def genE (m : Nat) (f : Nat → Int) (s d : Bool) (N D E : Nat) : HR :=
  if D < E ∧ (E = m ∨ (wbd (f E) = true ∧ ¬ f E = 47)) then ⟨E - 1, genO f N D E, s, d⟩ else ⟨0, [f 0], s, d⟩
def genN (m : Nat) (f : Nat → Int) (s d : Bool) (N : Nat) : HR :=
  if N = 0 ∨ genD m f N = 0 then ⟨0, [f 0], s, d⟩ else genE m f s d N (genD m f N) (scanTo dgt f m (genD m f N))
def genR (m : Nat) (f : Nat → Int) (p : Int) (s d : Bool) : HR :=
  if wbd p = true ∧ ¬ p = 47 ∧ 3 ≤ m then genN m f s d (scanTo dgt f m 0) else ⟨0, [f 0], s, d⟩
theorem genD_le {m : Nat} {f : Nat → Int} {N : Nat} : genD m f N ≤ m := by
  unfold genD; (repeat' split) <;> omega
theorem genR_lt {m : Nat} {f : Nat → Int} {p : Int} {s d : Bool} (hm : 1 ≤ m) : (genR m f p s d).k < m := by
  unfold genR genN genE
  have := (scanTo_le (P := dgt) (f := f) (genD_le (m := m) (f := f) (N := scanTo dgt f m 0))).2
  (repeat' split) <;> (simp only []; omega)
theorem sz1 : (strI ⟨#[60, 115, 117, 112, 62]⟩).length = 5 := rfl
theorem sz2 : (strI ⟨#[60, 47, 115, 117, 112, 62, 38, 102, 114, 97, 115, 108, 59, 60, 115, 117, 98, 62]⟩).length = 18 := rfl
set_option maxHeartbeats 8000000 in
set_option maxRecDepth 100000 in
theorem gen_any (q tb : Nat) (s d : Bool) (T : Nat → Value) (b off m c : Nat) (f : Nat → Int) (p : Int) (w : World) (h : HPre q tb s d T b off m c f w) (hm : 1 ≤ m) (hmx : m ≤ 1000) :
    Calls Tryd.prog 24 #[.pointer (some ⟨q, 0, none⟩), .pointer (some ⟨tb, 0, none⟩), .int .u8 p, .slice (some ⟨b, off, none⟩) m c] w fun e w' => HPost q tb T (genR m f p s d) w e w' := by
  have HH := Lib.hid h
  have hmc := h.mc
  have hcm := h.cm
  have hdflt : ∀ (w' w1 : World), HPre q tb s d T b off m c f w' → Below tb w w' → Hid (TBuf tb ([] ++ [f 0]) w1) → Below tb w' w1 → genR m f p s d = ⟨0, [f 0], s, d⟩ → HPost q tb T (genR m f p s d) w (.returned (.int .i64 0)) w1 := fun w' w1 _ hb ht hb1 he =>
    leaf 0 he rfl ht.out (hb.trans hb1) h.tab h.qtb
  have HDF := Lib.hid hdflt
  clear hdflt
  unfold maxLen at hcm
  clear h
  by_cases hG : wbd p = true ∧ ¬ p = 47 ∧ 3 ≤ m
  case neg =>
    have HR : Hid (genR m f p s d = ⟨0, [f 0], s, d⟩) := Lib.hid (by unfold genR; rw [if_neg hG])
    have hw : wbd p = false ∨ (wbd p = true ∧ p = 47) ∨ (wbd p = true ∧ ¬ p = 47 ∧ (m = 1 ∨ m = 2)) := by
      cases hwp : wbd p
      · exact .inl rfl
      · by_cases h47 : p = 47
        · exact .inr (.inl ⟨rfl, h47⟩)
        · refine .inr (.inr ⟨rfl, h47, ?_⟩)
          have : ¬ 3 ≤ m := fun h3 => hG ⟨hwp, h47, h3⟩
          omega
    clear hG
    rcases hw with hwp | ⟨hwp, hp⟩ | ⟨hwp, hp, rfl | rfl⟩
    all_goals
      go_enter Tryd.func24, Tryd.ntmps24
      go_wp2_with fail
      refine (wordB_any _ _).mono ?_
      rintro e wn ⟨rfl, hbn⟩
      have HP : Hid (HPre q tb s d T b off _ c f wn) := Lib.hid (HH.out.below hbn)
      have HB := Lib.hid (hbn.mono (Nat.le_of_lt HH.out.buf.lt))
      have c0 : wn.cell? ⟨b, off, none⟩ = some (.int .u8 (f 0)) := HP.out.cell 0 (by omega)
      clear hbn
      try rw [hwp]
      go_wp2_with fail
      refine (wB tb [] (f 0) _ HP.out.buf (by decide)).mono ?_
      rintro e w1 ⟨rfl, HT1, hb1⟩
      have HB1 := Lib.hid hb1
      clear hb1
      go_wp2_with fail
      go_ret
      exact HDF.out wn w1 HP.out HB.out HT1 HB1.out HR.out
  case pos =>
    obtain ⟨hwp, hp, h3⟩ := hG
    have HR : Hid (genR m f p s d = genN m f s d (scanTo dgt f m 0)) := Lib.hid (by unfold genR; rw [if_pos ⟨hwp, hp, h3⟩])
    have h3i : (3 : Int) ≤ m := by omega
    have hpb : (p != 47) = true := by simpa using hp
    go_enter Tryd.func24, Tryd.ntmps24
    go_wp2_with fail
    refine (wordB_any _ _).mono ?_
    rintro e wn ⟨rfl, hbn⟩
    have HP : Hid (HPre q tb s d T b off m c f wn) := Lib.hid (HH.out.below hbn)
    have HB := Lib.hid (hbn.mono (Nat.le_of_lt HH.out.buf.lt))
    have c0 : wn.cell? ⟨b, off, none⟩ = some (.int .u8 (f 0)) := HP.out.cell 0 (by omega)
    clear hbn
    try rw [hwp]
    go_upto_block 0 with fail
    go_cut [9] (fun nv wx => ∃ N : Nat, N ≤ m ∧ nv = .int .i64 N ∧ Hid (scanTo dgt f m 0 = N) ∧ wx = wn)
    case first =>
      go_wp2_with fail
      go_loop [9] (fun iv => ∃ i : Nat, i ≤ m ∧ iv = .int .i64 i ∧ Hid (scanTo dgt f m i = scanTo dgt f m 0)) (fun iv => m - (intOf iv).toNat)
      case atStart => exact ⟨0, by omega, rfl, Lib.hid rfl⟩
      case round =>
        obtain ⟨i, hi, rfl, HS⟩ := hrel
        by_cases hin : i < m
        · have ci : wn.cell? ⟨b, off + i, none⟩ = some (.int .u8 (f i)) := HP.out.cell i hin
          have hin' : (i : Int) < m := by omega
          cases hdg : dgt (f i)
          · have HK : Hid (scanTo dgt f m 0 = i) := Lib.hid (by rw [← HS.out]; exact scan_stop (fun _ => hdg))
            clear HS
            go_wp2_with (go_at_call 35; refine (isdigit_any _ _).mono ?_; rintro e w' ⟨rfl, rfl⟩)
            go_meet
            exact ⟨i, hi, rfl, HK, rfl⟩
          · have HS' : Hid (scanTo dgt f m (i + 1) = scanTo dgt f m 0) := Lib.hid ((scan_step hin hdg).trans HS.out)
            go_wp2_with (go_at_call 35; refine (isdigit_any _ _).mono ?_; rintro e w' ⟨rfl, rfl⟩)
            go_round
            case rel => exact ⟨i + 1, by omega, by go_num, HS'⟩
            case measure => simp [intOf]; omega
        · have HK : Hid (scanTo dgt f m 0 = i) := Lib.hid (by rw [← HS.out]; exact scan_stop (fun h => absurd h hin))
          obtain rfl : i = m := by omega
          clear HS hin
          go_wp2_with fail
          go_meet
          exact ⟨i, hi, rfl, HK, rfl⟩
    case rest =>
      obtain ⟨N, hN, rfl, HN, ewx⟩ := hcut
      subst ewx
      rename World => wx
      have hNi : (N : Int) ≤ m := by omega
      by_cases hN0 : N = 0
      · have HR0 : Hid (genR m f p s d = ⟨0, [f 0], s, d⟩) := Lib.hid (HR.out.trans (by rw [HN.out, genN, if_pos (.inl hN0)]))
        clear HR HN
        subst hN0
        go_wp2_with fail
        refine (wB tb [] (f 0) _ HP.out.buf (by decide)).mono ?_
        rintro e w1 ⟨rfl, HT1, hb1⟩
        have HB1 := Lib.hid hb1
        clear hb1
        go_wp2_with fail
        go_ret
        exact HDF.out _ w1 HP.out HB.out HT1 HB1.out HR0.out
      have hN0i : ¬ (N : Int) = 0 := by omega
      have HN1 : Hid (genD m f N = 0 → genR m f p s d = ⟨0, [f 0], s, d⟩) := Lib.hid (fun h => HR.out.trans (by rw [HN.out, genN, if_pos (.inr h)]))
      obtain ⟨fr, hfr⟩ : ∃ fr : Bool, fr = decide (N + 3 < m ∧ f N = 226 ∧ f (N + 1) = 129 ∧ f (N + 2) = 132) := ⟨_, rfl⟩
      have HFR := Lib.hid hfr
      clear hfr
      go_upto_region 9 with fail
      go_cut [72] (fun tv wy => tv = .bool fr ∧ wy = wx)
      case first =>
        by_cases h3 : N + 3 < m
        · have e3 : (N : Int) + 3 < m := by omega
          have cN0 : wx.cell? ⟨b, off + N, none⟩ = some (.int .u8 (f N)) := HP.out.cell N (by omega)
          have cN1 : wx.cell? ⟨b, off + (N + 1), none⟩ = some (.int .u8 (f (N + 1))) := HP.out.cell (N + 1) (by omega)
          have cN2 : wx.cell? ⟨b, off + (N + 2), none⟩ = some (.int .u8 (f (N + 2))) := HP.out.cell (N + 2) (by omega)
          by_cases h226 : f N = 226
          · by_cases h129 : f (N + 1) = 129
            · by_cases h132 : f (N + 2) = 132
              · have HF : Hid (fr = true) := Lib.hid (by rw [HFR.out]; simp [h3, h226, h129, h132])
                clear h3
                go_wp2_with fail
                go_meet
                exact ⟨by rw [HF.out] <;> first | rfl | (congr 1; simpa using h132), rfl⟩
              · have HF : Hid (fr = false) := Lib.hid (by rw [HFR.out]; simp [h132])
                clear h3
                go_wp2_with fail
                go_meet
                exact ⟨by rw [HF.out] <;> first | rfl | (congr 1; simpa using h132), rfl⟩
            · have HF : Hid (fr = false) := Lib.hid (by rw [HFR.out]; simp [h129])
              clear h3
              go_wp2_with fail
              go_meet
              exact ⟨by rw [HF.out] <;> first | rfl | (congr 1; simpa using h132), rfl⟩
          · have HF : Hid (fr = false) := Lib.hid (by rw [HFR.out]; simp [h226])
            clear h3
            go_wp2_with fail
            go_meet
            exact ⟨by rw [HF.out] <;> first | rfl | (congr 1; simpa using h132), rfl⟩
        · have HF : Hid (fr = false) := Lib.hid (by rw [HFR.out]; simp [h3])
          have e3 : ¬ (N : Int) + 3 < m := by omega
          clear h3
          go_wp2_with fail
          go_meet
          exact ⟨by rw [HF.out] <;> first | rfl | (congr 1; simpa using h132), rfl⟩
      case rest =>
        obtain ⟨rfl, ewy⟩ := hcut
        subst ewy
        rename World => wx
        go_upto_if 72 with fail
        go_cut [10] (fun dv wy => ∃ D : Nat, 1 ≤ D ∧ D ≤ m ∧ dv = .int .i64 D ∧ Hid (genD m f N = D) ∧ wy = wx)
        case first =>
          cases fr
          · have HFF : Hid (¬ (N + 3 < m ∧ f N = 226 ∧ f (N + 1) = 129 ∧ f (N + 2) = 132)) := Lib.hid (of_decide_eq_false HFR.out.symm)
            clear HFR
            rcases (by omega : m < N + 2 ∨ N + 2 ≤ m) with h2 | h2
            · have HR0 : Hid (genR m f p s d = ⟨0, [f 0], s, d⟩) := Lib.hid (HN1.out (by unfold genD; rw [if_neg HFF.out, if_neg (by omega)]))
              have e2 : (m : Int) < (N : Int) + 2 := by omega
              clear h2
              go_wp2_with fail
              refine (wB tb [] (f 0) _ HP.out.buf (by decide)).mono ?_
              rintro e w1 ⟨rfl, HT1, hb1⟩
              have HB1 := Lib.hid hb1
              clear hb1
              go_wp2_with fail
              go_ret
              exact HDF.out _ w1 HP.out HB.out HT1 HB1.out HR0.out
            · have e2 : ¬ (m : Int) < (N : Int) + 2 := by omega
              have cN0 : wx.cell? ⟨b, off + N, none⟩ = some (.int .u8 (f N)) := HP.out.cell N (by omega)
              by_cases h47 : f N = 47
              · have HD : Hid (genD m f N = N + 1) := Lib.hid (by unfold genD; rw [if_neg HFF.out, if_pos ⟨h2, h47⟩])
                have hle : N + 1 ≤ m := by omega
                clear h2
                go_wp2_with fail
                go_meet
                exact ⟨N + 1, by omega, hle, by first | rfl | go_num | (congr 1), HD, rfl⟩
              · have HR0 : Hid (genR m f p s d = ⟨0, [f 0], s, d⟩) := Lib.hid (HN1.out (by unfold genD; rw [if_neg HFF.out, if_neg (by omega)]))
                clear h2
                go_wp2_with fail
                refine (wB tb [] (f 0) _ HP.out.buf (by decide)).mono ?_
                rintro e w1 ⟨rfl, HT1, hb1⟩
                have HB1 := Lib.hid hb1
                clear hb1
                go_wp2_with fail
                go_ret
                exact HDF.out _ w1 HP.out HB.out HT1 HB1.out HR0.out
          · have hfr : N + 3 < m ∧ f N = 226 ∧ f (N + 1) = 129 ∧ f (N + 2) = 132 := of_decide_eq_true HFR.out.symm
            have HD : Hid (genD m f N = N + 3) := Lib.hid (by unfold genD; rw [if_pos hfr])
            have hle : N + 3 ≤ m := by omega
            clear hfr HFR
            go_wp2_with fail
            go_meet
            exact ⟨N + 3, by omega, hle, by first | rfl | go_num | (congr 1), HD, rfl⟩
        case rest =>
          obtain ⟨D, hD1, hDm, rfl, HD, ewy⟩ := hcut
          subst ewy
          rename World => wx
          have HR2 : Hid (genR m f p s d = genE m f s d N D (scanTo dgt f m D)) := Lib.hid (HR.out.trans (by rw [HN.out, genN, HD.out, if_neg (by omega)]))
          clear HR HN1 HFR HD
          go_upto_block 2 with fail
          go_cut [11] (fun ev wy => ∃ E : Nat, D ≤ E ∧ E ≤ m ∧ ev = .int .i64 E ∧ Hid (scanTo dgt f m D = E) ∧ wy = wx)
          case first =>
            go_wp2_with fail
            go_loop [11] (fun iv => ∃ i : Nat, D ≤ i ∧ i ≤ m ∧ iv = .int .i64 i ∧ Hid (scanTo dgt f m i = scanTo dgt f m D)) (fun iv => m - (intOf iv).toNat)
            case atStart => exact ⟨D, by omega, by omega, rfl, Lib.hid rfl⟩
            case round =>
              obtain ⟨i, hi0, hi, rfl, HS⟩ := hrel
              by_cases hin : i < m
              · have ci : wx.cell? ⟨b, off + i, none⟩ = some (.int .u8 (f i)) := HP.out.cell i hin
                have hin' : (i : Int) < m := by omega
                cases hdg : dgt (f i)
                · have HK : Hid (scanTo dgt f m D = i) := Lib.hid (by rw [← HS.out]; exact scan_stop (fun _ => hdg))
                  clear HS
                  go_wp2_with (go_at_call 35; refine (isdigit_any _ _).mono ?_; rintro e w' ⟨rfl, rfl⟩)
                  go_meet
                  exact ⟨i, hi0, hi, rfl, HK, rfl⟩
                · have HS' : Hid (scanTo dgt f m (i + 1) = scanTo dgt f m D) := Lib.hid ((scan_step hin hdg).trans HS.out)
                  go_wp2_with (go_at_call 35; refine (isdigit_any _ _).mono ?_; rintro e w' ⟨rfl, rfl⟩)
                  go_round
                  case rel => exact ⟨i + 1, by omega, by omega, by go_num, HS'⟩
                  case measure => simp [intOf]; omega
              · have HK : Hid (scanTo dgt f m D = i) := Lib.hid (by rw [← HS.out]; exact scan_stop (fun h => absurd h hin))
                have hin' : (m : Int) ≤ i := by omega
                clear HS hin
                go_wp2_with fail
                go_meet
                exact ⟨i, hi0, hi, rfl, HK, rfl⟩
          case rest =>
            obtain ⟨E, hDE, hEm, rfl, HE, ewy⟩ := hcut
            subst ewy
            rename World => wx
            have HR3 : Hid (genR m f p s d = genE m f s d N D E) := Lib.hid (HR2.out.trans (by rw [HE.out]))
            clear HR2 HE
            by_cases hed : E = D
            · have HR0 : Hid (genR m f p s d = ⟨0, [f 0], s, d⟩) := Lib.hid (HR3.out.trans (by unfold genE; rw [if_neg (by omega)]))
              subst hed
              go_wp2_with fail
              refine (wB tb [] (f 0) _ HP.out.buf (by decide)).mono ?_
              rintro e w1 ⟨rfl, HT1, hb1⟩
              have HB1 := Lib.hid hb1
              clear hb1
              go_wp2_with fail
              go_ret
              exact HDF.out _ w1 HP.out HB.out HT1 HB1.out HR0.out
            have hedi : ¬ (E : Int) = D := by omega
            rcases (by omega : E = m ∨ E < m) with h1 | h1
            · have HRS : Hid (genR m f p s d = ⟨E - 1, genO f N D E, s, d⟩) := Lib.hid (HR3.out.trans (by unfold genE; rw [if_pos ⟨by omega, .inl h1⟩]))
              subst h1
              go_wp2_with fail
              refine (wC tb [] _ _ HP.out.buf (by decide) (by decide)).mono ?_
              rintro e w1 ⟨rfl, HT1, hb1⟩
              have HB1 := Lib.hid (HB.out.trans hb1)
              have HC1 : Hid (∀ j, j < E → w1.cell? ⟨b, off + j, none⟩ = some (.int .u8 (f j))) := Lib.hid fun j hj => (hb1.cell (p := ⟨b, off + j, none⟩) HP.out.btb).trans (HP.out.cell j hj)
              clear hb1
              go_wp2_with fail
              refine (wW tb _ ((List.range N).map fun j => f (0 + j)) ⟨b, off, none⟩ N _ w1 HT1.out (by simp) (by show b ≠ tb; have := HP.out.btb; omega) (rangeSrc HC1.out 0 (by omega)) (by simp only [List.length_append, sz1, sz2, List.length_map, List.length_range, List.length_nil]; omega) (by omega)).mono ?_
              rintro e w2 ⟨rfl, HT2, hb2⟩
              have HB2 := Lib.hid (HB1.out.trans hb2)
              have HC2 : Hid (∀ j, j < E → w2.cell? ⟨b, off + j, none⟩ = some (.int .u8 (f j))) := Lib.hid fun j hj => (hb2.cell (p := ⟨b, off + j, none⟩) HP.out.btb).trans (HC1.out j hj)
              clear hb2
              go_wp2_with fail
              refine (wC tb _ _ _ HT2.out (by simp only [List.length_append, sz1, sz2, List.length_map, List.length_range, List.length_nil]; omega) (by decide)).mono ?_
              rintro e w3 ⟨rfl, HT3, hb3⟩
              have HB3 := Lib.hid (HB2.out.trans hb3)
              have HC3 : Hid (∀ j, j < E → w3.cell? ⟨b, off + j, none⟩ = some (.int .u8 (f j))) := Lib.hid fun j hj => (hb3.cell (p := ⟨b, off + j, none⟩) HP.out.btb).trans (HC2.out j hj)
              clear hb3
              go_wp2_with fail
              refine (wW tb _ ((List.range (E - D)).map fun j => f (D + j)) ⟨b, off + D, none⟩ (E - D) _ w3 HT3.out (by simp) (by show b ≠ tb; have := HP.out.btb; omega) (rangeSrc HC3.out D (by omega)) (by simp only [List.length_append, sz1, sz2, List.length_map, List.length_range, List.length_nil]; omega) (by omega)).mono ?_
              rintro e w4 ⟨rfl, HT4, hb4⟩
              have HB4 := Lib.hid (HB3.out.trans hb4)
              have HC4 : Hid (∀ j, j < E → w4.cell? ⟨b, off + j, none⟩ = some (.int .u8 (f j))) := Lib.hid fun j hj => (hb4.cell (p := ⟨b, off + j, none⟩) HP.out.btb).trans (HC3.out j hj)
              clear hb4
              go_wp2_with fail
              refine (wC tb _ _ _ HT4.out (by simp only [List.length_append, sz1, sz2, List.length_map, List.length_range, List.length_nil]; omega) (by decide)).mono ?_
              rintro e w5 ⟨rfl, HT5, hb5⟩
              have HB5 := Lib.hid (HB4.out.trans hb5)
              have HC5 : Hid (∀ j, j < E → w5.cell? ⟨b, off + j, none⟩ = some (.int .u8 (f j))) := Lib.hid fun j hj => (hb5.cell (p := ⟨b, off + j, none⟩) HP.out.btb).trans (HC4.out j hj)
              clear hb5
              go_wp2_with fail
              go_ret
              exact leaf (E - 1) HRS.out (ret_int (by omega)) (show TBuf tb (genO f N D E) _ from HT5.out) HB5.out HH.out.tab HH.out.qtb
            have e1 : (E : Int) < m := by omega
            have e1' : ¬ (m : Int) = E := by omega
            have cE : wx.cell? ⟨b, off + E, none⟩ = some (.int .u8 (f E)) := HP.out.cell E h1
            cases hwe : wbd (f E)
            · have HR0 : Hid (genR m f p s d = ⟨0, [f 0], s, d⟩) := Lib.hid (HR3.out.trans (by unfold genE; rw [if_neg (by rw [hwe]; simp; omega)]))
              clear h1
              go_wp2_with (go_at_call 32; refine (wordB_any _ _).mono ?_; rintro e wz ⟨rfl, hbn⟩; have HB := Lib.hid (HB.out.trans (hbn.mono (Nat.le_of_lt HP.out.buf.lt))); have HP := Lib.hid (HP.out.below hbn); have c0 : wz.cell? ⟨b, off, none⟩ = some (.int .u8 (f 0)) := HP.out.cell 0 (by omega); have cE : wz.cell? ⟨b, off + E, none⟩ = some (.int .u8 (f E)) := HP.out.cell E (by omega); clear hbn)
              refine (wB tb [] (f 0) _ HP.out.buf (by decide)).mono ?_
              rintro e w1 ⟨rfl, HT1, hb1⟩
              have HB1 := Lib.hid hb1
              clear hb1
              go_wp2_with fail
              go_ret
              exact HDF.out _ w1 HP.out HB.out HT1 HB1.out HR0.out
            · by_cases h47 : f E = 47
              · have HR0 : Hid (genR m f p s d = ⟨0, [f 0], s, d⟩) := Lib.hid (HR3.out.trans (by unfold genE; rw [if_neg (by rw [h47]; simp; omega)]))
                clear h1
                go_wp2_with (go_at_call 32; refine (wordB_any _ _).mono ?_; rintro e wz ⟨rfl, hbn⟩; have HB := Lib.hid (HB.out.trans (hbn.mono (Nat.le_of_lt HP.out.buf.lt))); have HP := Lib.hid (HP.out.below hbn); have c0 : wz.cell? ⟨b, off, none⟩ = some (.int .u8 (f 0)) := HP.out.cell 0 (by omega); have cE : wz.cell? ⟨b, off + E, none⟩ = some (.int .u8 (f E)) := HP.out.cell E (by omega); clear hbn)
                refine (wB tb [] (f 0) _ HP.out.buf (by decide)).mono ?_
                rintro e w1 ⟨rfl, HT1, hb1⟩
                have HB1 := Lib.hid hb1
                clear hb1
                go_wp2_with fail
                go_ret
                exact HDF.out _ w1 HP.out HB.out HT1 HB1.out HR0.out
              · have HRS : Hid (genR m f p s d = ⟨E - 1, genO f N D E, s, d⟩) := Lib.hid (HR3.out.trans (by unfold genE; rw [if_pos ⟨by omega, .inr ⟨hwe, h47⟩⟩]))
                have hb47 : (f E != 47) = true := by simpa using h47
                have hbm : ((m : Int) == E) = false := by simpa using e1'
                go_wp2_with (go_at_call 32; refine (wordB_any _ _).mono ?_; rintro e wz ⟨rfl, hbn⟩; have HB := Lib.hid (HB.out.trans (hbn.mono (Nat.le_of_lt HP.out.buf.lt))); have HP := Lib.hid (HP.out.below hbn); have c0 : wz.cell? ⟨b, off, none⟩ = some (.int .u8 (f 0)) := HP.out.cell 0 (by omega); have cE : wz.cell? ⟨b, off + E, none⟩ = some (.int .u8 (f E)) := HP.out.cell E (by omega); clear hbn)
                refine (wC tb [] _ _ HP.out.buf (by decide) (by decide)).mono ?_
                rintro e w1 ⟨rfl, HT1, hb1⟩
                have HB1 := Lib.hid (HB.out.trans hb1)
                have HC1 : Hid (∀ j, j < m → w1.cell? ⟨b, off + j, none⟩ = some (.int .u8 (f j))) := Lib.hid fun j hj => (hb1.cell (p := ⟨b, off + j, none⟩) HP.out.btb).trans (HP.out.cell j hj)
                clear hb1
                go_wp2_with fail
                refine (wW tb _ ((List.range N).map fun j => f (0 + j)) ⟨b, off, none⟩ N _ w1 HT1.out (by simp) (by show b ≠ tb; have := HP.out.btb; omega) (rangeSrc HC1.out 0 (by omega)) (by simp only [List.length_append, sz1, sz2, List.length_map, List.length_range, List.length_nil]; omega) (by omega)).mono ?_
                rintro e w2 ⟨rfl, HT2, hb2⟩
                have HB2 := Lib.hid (HB1.out.trans hb2)
                have HC2 : Hid (∀ j, j < m → w2.cell? ⟨b, off + j, none⟩ = some (.int .u8 (f j))) := Lib.hid fun j hj => (hb2.cell (p := ⟨b, off + j, none⟩) HP.out.btb).trans (HC1.out j hj)
                clear hb2
                go_wp2_with fail
                refine (wC tb _ _ _ HT2.out (by simp only [List.length_append, sz1, sz2, List.length_map, List.length_range, List.length_nil]; omega) (by decide)).mono ?_
                rintro e w3 ⟨rfl, HT3, hb3⟩
                have HB3 := Lib.hid (HB2.out.trans hb3)
                have HC3 : Hid (∀ j, j < m → w3.cell? ⟨b, off + j, none⟩ = some (.int .u8 (f j))) := Lib.hid fun j hj => (hb3.cell (p := ⟨b, off + j, none⟩) HP.out.btb).trans (HC2.out j hj)
                clear hb3
                go_wp2_with fail
                refine (wW tb _ ((List.range (E - D)).map fun j => f (D + j)) ⟨b, off + D, none⟩ (E - D) _ w3 HT3.out (by simp) (by show b ≠ tb; have := HP.out.btb; omega) (rangeSrc HC3.out D (by omega)) (by simp only [List.length_append, sz1, sz2, List.length_map, List.length_range, List.length_nil]; omega) (by omega)).mono ?_
                rintro e w4 ⟨rfl, HT4, hb4⟩
                have HB4 := Lib.hid (HB3.out.trans hb4)
                have HC4 : Hid (∀ j, j < m → w4.cell? ⟨b, off + j, none⟩ = some (.int .u8 (f j))) := Lib.hid fun j hj => (hb4.cell (p := ⟨b, off + j, none⟩) HP.out.btb).trans (HC3.out j hj)
                clear hb4
                go_wp2_with fail
                refine (wC tb _ _ _ HT4.out (by simp only [List.length_append, sz1, sz2, List.length_map, List.length_range, List.length_nil]; omega) (by decide)).mono ?_
                rintro e w5 ⟨rfl, HT5, hb5⟩
                have HB5 := Lib.hid (HB4.out.trans hb5)
                have HC5 : Hid (∀ j, j < m → w5.cell? ⟨b, off + j, none⟩ = some (.int .u8 (f j))) := Lib.hid fun j hj => (hb5.cell (p := ⟨b, off + j, none⟩) HP.out.btb).trans (HC4.out j hj)
                clear hb5
                go_wp2_with fail
                go_ret
                exact leaf (E - 1) HRS.out (ret_int (by omega)) (show TBuf tb (genO f N D E) _ from HT5.out) HB5.out HH.out.tab HH.out.qtb
end Go.Proofs.YtghmbpogniopoaaDoor
