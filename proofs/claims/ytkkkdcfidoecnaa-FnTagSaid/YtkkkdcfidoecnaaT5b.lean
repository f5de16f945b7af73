/- The reference's reading of a tag whose name begins at 2. -/
import Derived.Test.YtkkkdcfidoecnaaT3b
namespace Go.Proofs.Ytkkkdcfidoecnaa
open Go.RowKit
set_option linter.unusedVariables false

theorem mail_at2 (f : Nat → Int) {n i : Nat} (hi : i ≤ n) : mailEnd (n - i) (fun q => f (i + q)) = if scan notM n f i < n ∧ f (scan notM n f i) = 62 ∧ cnt (fun q => f (i + q)) (scan notM n f i - i) = 1 then scan notM n f i - i + 1 else 0 := by
  have h := scan_shift notM n f hi
  unfold mailEnd
  rw [h]
  generalize scan notM (n - i) (fun j => f (i + j)) 0 = d
  simp only [Nat.add_sub_cancel_left, show (d < n - i) = (i + d < n) from propext (by omega)]

set_option maxHeartbeats 16000000 in
set_option maxRecDepth 1000000 in
theorem tagOf_2 (A : Option Addr) (n cap : Nat) (f : Nat → Int) (w : World) (B : Nat) (h : RB w B A n cap f) (hn : n ≤ 100000) (h1 : f 1 = 47) :
    Calls Try.prog 9 #[.slice A n cap] w fun e w' => ∃ k en : Nat, e = .returned (.tuple #[.int .i64 k, .int .i64 en]) ∧ Hid (IsTag n f k en) ∧ w = w' := by
  have HH := Lib.hid h
  by_cases hn3 : n < 3
  · have HO := Lib.hid (tag_short (n := n) (f := f) hn3)
    clear h h1
    go_enter Try.func9, Try.ntmps9
    go_wp2
    go_ret2
    exact ⟨0, 0, ret_two (by first | omega | rfl) (by first | omega | rfl), HO, rfl⟩
  obtain ⟨b, off, rfl, hB, hcell⟩ := h.2.2.2 (by omega)
  have hcap := h.cap
  have HB3 := Lib.hid hn3
  have hn3' : 3 ≤ n := by omega
  have HC := Lib.hid hcell; have HR := Lib.hid h.rng
  have hc0 : w.cell? ⟨b, off, none⟩ = some (.int .u8 (f 0)) := hcell 0 (by omega)
  have hc1 := hcell 1 (by omega)
  clear h hcell hn3
  by_cases h0 : f 0 = 60
  · have HB0 := Lib.hid h0
    have d0 := (teb h0).1
    clear h0
    have HT0 : Hid (tag0 f = 2) := Lib.hid (by unfold tag0; rw [if_pos h1])
    have d1 := (teb h1).2
    clear h1
    have hcs := HC.out 2 (by omega)
    go_enter Try.func9, Try.ntmps9
    by_cases hw : wch (f 2) = true
    · have HWS : Hid (wch (f (tag0 f)) = true) := Lib.hid (by rw [HT0.out]; exact hw)
      go_wp2_with (first | (go_at_call 14; refine (wb_any _ _).mono ?_; rintro e w' ⟨rfl, rfl⟩) | (go_at_call 19; refine (inSpace_any _ _).mono ?_; rintro e w' ⟨rfl, rfl⟩))
      refine (inRunT_any _ n cap f 2 w B (by exact HH.out) (by omega) hn).mono ?_
      rintro e w' ⟨rfl, rfl⟩
      obtain ⟨hi1, hi2, _, hstop⟩ := scan_spec notT n f (show 2 ≤ n from by omega)
      have HFIN : Hid (tag1 n f = scan notT n f 2) := Lib.hid (by unfold tag1; rw [HT0.out])
      generalize scan notT n f 2 = i at HFIN hi1 hi2 hstop
      clear hstop
      go_wp2_with (first | (go_at_call 14; refine (wb_any _ _).mono ?_; rintro e w' ⟨rfl, rfl⟩) | (go_at_call 19; refine (inSpace_any _ _).mono ?_; rintro e w' ⟨rfl, rfl⟩))
      refine (inAt_any _ n cap f i 64 w B (by exact HH.out) (by omega) hn).mono ?_
      rintro e w' ⟨rfl, rfl⟩
      by_cases hat : i < n ∧ f i = 64
      · rw [decide_eq_true hat]
        have HN58 : Hid (¬ (2 < tag1 n f ∧ tag1 n f < n ∧ f (tag1 n f) = 58)) := Lib.hid (fun h => by have := h.2.2; rw [HFIN.out] at this; omega)
        have HNI : Hid (¬ f i = 58) := Lib.hid (by omega)
        have HMH : Hid (mailHere n f (tag1 n f) = mailEnd (n - i) (fun q => f (i + q))) := Lib.hid (by rw [HFIN.out]; unfold mailHere; rw [if_pos hat])
        have hil : i < n := hat.1
        clear hat
        go_wp2_with (first | (go_at_call 14; refine (wb_any _ _).mono ?_; rintro e w' ⟨rfl, rfl⟩) | (go_at_call 19; refine (inSpace_any _ _).mono ?_; rintro e w' ⟨rfl, rfl⟩))
        refine (inRunM_any _ n cap f i w B (by exact HH.out) (by omega) hn).mono ?_
        rintro e w' ⟨rfl, rfl⟩
        obtain ⟨hE1, hE2, _, _⟩ := scan_spec notM n f hi2
        have HME := Lib.hid (HMH.out.trans (mail_at2 f hi2))
        generalize scan notM n f i = E at HME hE1 hE2
        go_wp2_with (first | (go_at_call 14; refine (wb_any _ _).mono ?_; rintro e w' ⟨rfl, rfl⟩) | (go_at_call 19; refine (inSpace_any _ _).mono ?_; rintro e w' ⟨rfl, rfl⟩))
        go_loop [46, 7] (fun jv qv => ∃ j q : Nat, Hid (q = cnt (fun q => f (i + q)) j) ∧ j ≤ E - i ∧ q ≤ j ∧ jv = .int .i64 j ∧ qv = .int .i64 q) (fun jv _ => n - (intOf jv).toNat)
        case atStart => exact ⟨0, 0, Lib.hid rfl, by omega, by omega, rfl, rfl⟩
        case round =>
          obtain ⟨j, q, HQ, hj1, hj2, rfl, rfl⟩ := hrel
          by_cases hjl : j < E - i
          · have hcj : w.cell? ⟨b, off + i + j, none⟩ = some (.int .u8 (f (i + j))) := by rw [Nat.add_assoc]; exact HC.out (i + j) (by omega)
            have hrj := HR.out (i + j)
            by_cases hs : f (i + j) = 64
            · have HQ' : Hid (q + 1 = cnt (fun q => f (i + q)) (j + 1)) := Lib.hid (by rw [HQ.out]; show _ = cnt _ j + (if f (i + j) = 64 then 1 else 0); rw [if_pos hs])
              have a1 := (teb hs).2
              clear hs
              go_wp2_with (first | (go_at_call 14; refine (wb_any _ _).mono ?_; rintro e w' ⟨rfl, rfl⟩) | (go_at_call 19; refine (inSpace_any _ _).mono ?_; rintro e w' ⟨rfl, rfl⟩))
              go_round
              case rel => exact ⟨j + 1, q + 1, HQ', by omega, by omega, by go_num, by go_num⟩
              case measure => simp [intOf]; omega
            · have HQ' : Hid (q = cnt (fun q => f (i + q)) (j + 1)) := Lib.hid (by rw [HQ.out]; show _ = cnt _ j + (if f (i + j) = 64 then 1 else 0); rw [if_neg hs]; rfl)
              have a1 := (tnb hs).2
              clear hs
              go_wp2_with (first | (go_at_call 14; refine (wb_any _ _).mono ?_; rintro e w' ⟨rfl, rfl⟩) | (go_at_call 19; refine (inSpace_any _ _).mono ?_; rintro e w' ⟨rfl, rfl⟩))
              go_round
              case rel => exact ⟨j + 1, q, HQ', by omega, by omega, by go_num, by first | rfl | go_num⟩
              case measure => simp [intOf]; omega
          · obtain rfl : j = E - i := by omega
            go_wp2_with (first | (go_at_call 14; refine (wb_any _ _).mono ?_; rintro e w' ⟨rfl, rfl⟩) | (go_at_call 19; refine (inSpace_any _ _).mono ?_; rintro e w' ⟨rfl, rfl⟩))
            refine (inAt_any _ n cap f E 62 w B (by exact HH.out) (by omega) hn).mono ?_
            rintro e w' ⟨rfl, rfl⟩
            by_cases hgt : E < n ∧ f E = 62
            · rw [decide_eq_true hgt]
              by_cases hq : q = 1
              · have HO : Hid (IsTag n f 2 (E + 1)) := Lib.hid (by
                  have hm := HME.out
                  rw [if_pos ⟨hgt.1, hgt.2, by rw [← HQ.out]; exact hq⟩] at hm
                  have := tag_mail (n := n) (f := f) HB3.out HB0.out HWS.out (by rw [hm]; omega)
                  rw [hm, HFIN.out] at this
                  rw [show E + 1 = i + (E - i + 1) from by omega]
                  exact this)
                have e1 : ((q : Int) == 1) = true := by simp; omega
                clear hgt hq
                go_wp2_with (first | (go_at_call 14; refine (wb_any _ _).mono ?_; rintro e w' ⟨rfl, rfl⟩) | (go_at_call 19; refine (inSpace_any _ _).mono ?_; rintro e w' ⟨rfl, rfl⟩))
                go_ret2
                exact ⟨2, E + 1, ret_two (by first | omega | rfl) (by first | omega | rfl), HO, rfl⟩
              · have HM : Hid (mailHere n f (tag1 n f) = 0) := Lib.hid (by rw [HME.out, if_neg (fun h => hq (by rw [HQ.out]; exact h.2.2))])
                have e1 : ((q : Int) == 1) = false := by simp; omega
                clear hgt hq
                have HT : Hid (IsTag n f 0 (fromGt n f i)) := Lib.hid (by have := tag_plain (n := n) (f := f) HB3.out HB0.out HWS.out HM.out HN58.out; rw [HFIN.out] at this; exact this)
                by_cases hi3 : 2 < i
                · go_wp2_with (first | (go_at_call 14; refine (wb_any _ _).mono ?_; rintro e w' ⟨rfl, rfl⟩) | (go_at_call 19; refine (inSpace_any _ _).mono ?_; rintro e w' ⟨rfl, rfl⟩))
                  refine (inAt_any _ n cap f i 58 w B (by exact HH.out) (by omega) hn).mono ?_
                  rintro e w' ⟨rfl, rfl⟩
                  rw [decide_eq_false (show ¬ (i < n ∧ f i = 58) from fun h => HNI.out h.2)]
                  go_wp2_with (first | (go_at_call 14; refine (wb_any _ _).mono ?_; rintro e w' ⟨rfl, rfl⟩) | (go_at_call 19; refine (inSpace_any _ _).mono ?_; rintro e w' ⟨rfl, rfl⟩))
                  go_loop [11] (fun kv => ∃ k : Nat, Hid (scan (isB 62) n f i = scan (isB 62) n f k) ∧ i ≤ k ∧ k ≤ n ∧ kv = .int .i64 k) (fun kv => n - (intOf kv).toNat)
                  case atStart => exact ⟨i, Lib.hid rfl, by omega, by omega, rfl⟩
                  case round =>
                    obtain ⟨k, HS, hk1, hk2, rfl⟩ := hrel
                    by_cases hkl : k < n
                    · have hck := HC.out k hkl
                      have hrk := HR.out k
                      by_cases h62 : f k = 62
                      · have HO : Hid (IsTag n f 0 (k + 1)) := Lib.hid (by have := (HT.out); rw [fromGt, HS.out, scan_hit (by unfold isB; simpa using h62), if_pos hkl] at this; exact this)
                        have a9 := (teb h62).2
                        clear h62
                        go_wp2_with (first | (go_at_call 14; refine (wb_any _ _).mono ?_; rintro e w' ⟨rfl, rfl⟩) | (go_at_call 19; refine (inSpace_any _ _).mono ?_; rintro e w' ⟨rfl, rfl⟩))
                        go_ret2
                        exact ⟨0, k + 1, ret_two (by first | omega | rfl) (by first | omega | rfl), HO, rfl⟩
                      · have HS' := Lib.hid (HS.out.trans (scan_go hkl (by unfold isB; simpa using h62)))
                        have a9 := (tnb h62).2
                        clear h62
                        go_wp2_with (first | (go_at_call 14; refine (wb_any _ _).mono ?_; rintro e w' ⟨rfl, rfl⟩) | (go_at_call 19; refine (inSpace_any _ _).mono ?_; rintro e w' ⟨rfl, rfl⟩))
                        go_round
                        case rel => exact ⟨k + 1, HS', by omega, by omega, by go_num⟩
                        case measure => simp [intOf]; omega
                    · have HO : Hid (IsTag n f 0 i) := Lib.hid (by have := (HT.out); rw [fromGt, HS.out, scan_end (by omega), if_neg (by omega)] at this; exact this)
                      have hkn : n ≤ k := by omega
                      clear hkl
                      go_wp2_with (first | (go_at_call 14; refine (wb_any _ _).mono ?_; rintro e w' ⟨rfl, rfl⟩) | (go_at_call 19; refine (inSpace_any _ _).mono ?_; rintro e w' ⟨rfl, rfl⟩))
                      go_ret2
                      exact ⟨0, i, ret_two (by first | omega | rfl) (by first | omega | rfl), HO, rfl⟩
                · go_wp2_with (first | (go_at_call 14; refine (wb_any _ _).mono ?_; rintro e w' ⟨rfl, rfl⟩) | (go_at_call 19; refine (inSpace_any _ _).mono ?_; rintro e w' ⟨rfl, rfl⟩))
                  go_loop [11] (fun kv => ∃ k : Nat, Hid (scan (isB 62) n f i = scan (isB 62) n f k) ∧ i ≤ k ∧ k ≤ n ∧ kv = .int .i64 k) (fun kv => n - (intOf kv).toNat)
                  case atStart => exact ⟨i, Lib.hid rfl, by omega, by omega, rfl⟩
                  case round =>
                    obtain ⟨k, HS, hk1, hk2, rfl⟩ := hrel
                    by_cases hkl : k < n
                    · have hck := HC.out k hkl
                      have hrk := HR.out k
                      by_cases h62 : f k = 62
                      · have HO : Hid (IsTag n f 0 (k + 1)) := Lib.hid (by have := (HT.out); rw [fromGt, HS.out, scan_hit (by unfold isB; simpa using h62), if_pos hkl] at this; exact this)
                        have a9 := (teb h62).2
                        clear h62
                        go_wp2_with (first | (go_at_call 14; refine (wb_any _ _).mono ?_; rintro e w' ⟨rfl, rfl⟩) | (go_at_call 19; refine (inSpace_any _ _).mono ?_; rintro e w' ⟨rfl, rfl⟩))
                        go_ret2
                        exact ⟨0, k + 1, ret_two (by first | omega | rfl) (by first | omega | rfl), HO, rfl⟩
                      · have HS' := Lib.hid (HS.out.trans (scan_go hkl (by unfold isB; simpa using h62)))
                        have a9 := (tnb h62).2
                        clear h62
                        go_wp2_with (first | (go_at_call 14; refine (wb_any _ _).mono ?_; rintro e w' ⟨rfl, rfl⟩) | (go_at_call 19; refine (inSpace_any _ _).mono ?_; rintro e w' ⟨rfl, rfl⟩))
                        go_round
                        case rel => exact ⟨k + 1, HS', by omega, by omega, by go_num⟩
                        case measure => simp [intOf]; omega
                    · have HO : Hid (IsTag n f 0 i) := Lib.hid (by have := (HT.out); rw [fromGt, HS.out, scan_end (by omega), if_neg (by omega)] at this; exact this)
                      have hkn : n ≤ k := by omega
                      clear hkl
                      go_wp2_with (first | (go_at_call 14; refine (wb_any _ _).mono ?_; rintro e w' ⟨rfl, rfl⟩) | (go_at_call 19; refine (inSpace_any _ _).mono ?_; rintro e w' ⟨rfl, rfl⟩))
                      go_ret2
                      exact ⟨0, i, ret_two (by first | omega | rfl) (by first | omega | rfl), HO, rfl⟩
            · rw [decide_eq_false hgt]
              have HM : Hid (mailHere n f (tag1 n f) = 0) := Lib.hid (by rw [HME.out, if_neg (fun h => hgt ⟨h.1, h.2.1⟩)])
              clear hgt
              have HT : Hid (IsTag n f 0 (fromGt n f i)) := Lib.hid (by have := tag_plain (n := n) (f := f) HB3.out HB0.out HWS.out HM.out HN58.out; rw [HFIN.out] at this; exact this)
              by_cases hi3 : 2 < i
              · go_wp2_with (first | (go_at_call 14; refine (wb_any _ _).mono ?_; rintro e w' ⟨rfl, rfl⟩) | (go_at_call 19; refine (inSpace_any _ _).mono ?_; rintro e w' ⟨rfl, rfl⟩))
                refine (inAt_any _ n cap f i 58 w B (by exact HH.out) (by omega) hn).mono ?_
                rintro e w' ⟨rfl, rfl⟩
                rw [decide_eq_false (show ¬ (i < n ∧ f i = 58) from fun h => HNI.out h.2)]
                go_wp2_with (first | (go_at_call 14; refine (wb_any _ _).mono ?_; rintro e w' ⟨rfl, rfl⟩) | (go_at_call 19; refine (inSpace_any _ _).mono ?_; rintro e w' ⟨rfl, rfl⟩))
                go_loop [11] (fun kv => ∃ k : Nat, Hid (scan (isB 62) n f i = scan (isB 62) n f k) ∧ i ≤ k ∧ k ≤ n ∧ kv = .int .i64 k) (fun kv => n - (intOf kv).toNat)
                case atStart => exact ⟨i, Lib.hid rfl, by omega, by omega, rfl⟩
                case round =>
                  obtain ⟨k, HS, hk1, hk2, rfl⟩ := hrel
                  by_cases hkl : k < n
                  · have hck := HC.out k hkl
                    have hrk := HR.out k
                    by_cases h62 : f k = 62
                    · have HO : Hid (IsTag n f 0 (k + 1)) := Lib.hid (by have := (HT.out); rw [fromGt, HS.out, scan_hit (by unfold isB; simpa using h62), if_pos hkl] at this; exact this)
                      have a9 := (teb h62).2
                      clear h62
                      go_wp2_with (first | (go_at_call 14; refine (wb_any _ _).mono ?_; rintro e w' ⟨rfl, rfl⟩) | (go_at_call 19; refine (inSpace_any _ _).mono ?_; rintro e w' ⟨rfl, rfl⟩))
                      go_ret2
                      exact ⟨0, k + 1, ret_two (by first | omega | rfl) (by first | omega | rfl), HO, rfl⟩
                    · have HS' := Lib.hid (HS.out.trans (scan_go hkl (by unfold isB; simpa using h62)))
                      have a9 := (tnb h62).2
                      clear h62
                      go_wp2_with (first | (go_at_call 14; refine (wb_any _ _).mono ?_; rintro e w' ⟨rfl, rfl⟩) | (go_at_call 19; refine (inSpace_any _ _).mono ?_; rintro e w' ⟨rfl, rfl⟩))
                      go_round
                      case rel => exact ⟨k + 1, HS', by omega, by omega, by go_num⟩
                      case measure => simp [intOf]; omega
                  · have HO : Hid (IsTag n f 0 i) := Lib.hid (by have := (HT.out); rw [fromGt, HS.out, scan_end (by omega), if_neg (by omega)] at this; exact this)
                    have hkn : n ≤ k := by omega
                    clear hkl
                    go_wp2_with (first | (go_at_call 14; refine (wb_any _ _).mono ?_; rintro e w' ⟨rfl, rfl⟩) | (go_at_call 19; refine (inSpace_any _ _).mono ?_; rintro e w' ⟨rfl, rfl⟩))
                    go_ret2
                    exact ⟨0, i, ret_two (by first | omega | rfl) (by first | omega | rfl), HO, rfl⟩
              · go_wp2_with (first | (go_at_call 14; refine (wb_any _ _).mono ?_; rintro e w' ⟨rfl, rfl⟩) | (go_at_call 19; refine (inSpace_any _ _).mono ?_; rintro e w' ⟨rfl, rfl⟩))
                go_loop [11] (fun kv => ∃ k : Nat, Hid (scan (isB 62) n f i = scan (isB 62) n f k) ∧ i ≤ k ∧ k ≤ n ∧ kv = .int .i64 k) (fun kv => n - (intOf kv).toNat)
                case atStart => exact ⟨i, Lib.hid rfl, by omega, by omega, rfl⟩
                case round =>
                  obtain ⟨k, HS, hk1, hk2, rfl⟩ := hrel
                  by_cases hkl : k < n
                  · have hck := HC.out k hkl
                    have hrk := HR.out k
                    by_cases h62 : f k = 62
                    · have HO : Hid (IsTag n f 0 (k + 1)) := Lib.hid (by have := (HT.out); rw [fromGt, HS.out, scan_hit (by unfold isB; simpa using h62), if_pos hkl] at this; exact this)
                      have a9 := (teb h62).2
                      clear h62
                      go_wp2_with (first | (go_at_call 14; refine (wb_any _ _).mono ?_; rintro e w' ⟨rfl, rfl⟩) | (go_at_call 19; refine (inSpace_any _ _).mono ?_; rintro e w' ⟨rfl, rfl⟩))
                      go_ret2
                      exact ⟨0, k + 1, ret_two (by first | omega | rfl) (by first | omega | rfl), HO, rfl⟩
                    · have HS' := Lib.hid (HS.out.trans (scan_go hkl (by unfold isB; simpa using h62)))
                      have a9 := (tnb h62).2
                      clear h62
                      go_wp2_with (first | (go_at_call 14; refine (wb_any _ _).mono ?_; rintro e w' ⟨rfl, rfl⟩) | (go_at_call 19; refine (inSpace_any _ _).mono ?_; rintro e w' ⟨rfl, rfl⟩))
                      go_round
                      case rel => exact ⟨k + 1, HS', by omega, by omega, by go_num⟩
                      case measure => simp [intOf]; omega
                  · have HO : Hid (IsTag n f 0 i) := Lib.hid (by have := (HT.out); rw [fromGt, HS.out, scan_end (by omega), if_neg (by omega)] at this; exact this)
                    have hkn : n ≤ k := by omega
                    clear hkl
                    go_wp2_with (first | (go_at_call 14; refine (wb_any _ _).mono ?_; rintro e w' ⟨rfl, rfl⟩) | (go_at_call 19; refine (inSpace_any _ _).mono ?_; rintro e w' ⟨rfl, rfl⟩))
                    go_ret2
                    exact ⟨0, i, ret_two (by first | omega | rfl) (by first | omega | rfl), HO, rfl⟩
      · rw [decide_eq_false hat]
        have HM : Hid (mailHere n f (tag1 n f) = 0) := Lib.hid (by rw [HFIN.out]; unfold mailHere; rw [if_neg hat])
        clear hat
        by_cases hi3 : 2 < i
        · go_wp2_with (first | (go_at_call 14; refine (wb_any _ _).mono ?_; rintro e w' ⟨rfl, rfl⟩) | (go_at_call 19; refine (inSpace_any _ _).mono ?_; rintro e w' ⟨rfl, rfl⟩))
          refine (inAt_any _ n cap f i 58 w B (by exact HH.out) (by omega) hn).mono ?_
          rintro e w' ⟨rfl, rfl⟩
          by_cases h58 : i < n ∧ f i = 58
          · rw [decide_eq_true h58]
            have HLINK : ∀ r, Hid (SkipTo n f (i + 1) r → ∀ k e, (if n ≤ i + 1 then (0, n) else if n ≤ r then (1, 0) else if i + 1 < r ∧ f r = 62 then (1, r + 1) else (0, fromGt n f r)) = (k, e) → IsTag n f k e) := fun r => Lib.hid (fun hr k e he =>
              tag_link (n := n) (f := f) (r := r) HB3.out HB0.out HWS.out HM.out (by rw [HFIN.out]; exact ⟨hi3, h58⟩) (by rw [HFIN.out]; exact hr) (by rw [HFIN.out]; exact he))
            have hil := h58.1
            clear h58
            go_wp2_with (first | (go_at_call 14; refine (wb_any _ _).mono ?_; rintro e w' ⟨rfl, rfl⟩) | (go_at_call 19; refine (inSpace_any _ _).mono ?_; rintro e w' ⟨rfl, rfl⟩))
            go_loop [5] (fun xv => ∃ x : Nat, Hid (∀ r, SkipTo n f x r → SkipTo n f (i + 1) r) ∧ i + 1 ≤ x ∧ x ≤ n + 1 ∧ (i + 1 = x ∨ i + 1 < n) ∧ xv = .int .i64 x) (fun xv => n + 2 - (intOf xv).toNat)
            case atStart => exact ⟨i + 1, Lib.hid (fun _ h => h), by omega, by omega, .inl rfl, by go_num⟩
            case round =>
              obtain ⟨x, HSK, hx1, hx2, hx3, rfl⟩ := hrel
              by_cases hxl : x < n
              · have hin : i + 1 < n := by omega
                have e00 : (((i : Int) + 1) == (n : Int)) = false := by simp; omega
                have hcx := HC.out x hxl
                have hrx := HR.out x
                by_cases h92 : f x = 92
                · have HSK' : Hid (∀ r, SkipTo n f (x + 2) r → SkipTo n f (i + 1) r) := Lib.hid (fun r hr => HSK.out r (.esc x r hxl h92 hr))
                  have e8 := (teb h92).2
                  have a1 := (tnb (a := f x) (b := 62) (by omega)).1; have a2 := (tnb (a := f x) (b := 39) (by omega)).1; have a3 := (tnb (a := f x) (b := 34) (by omega)).1; have a5 := (tnb (a := f x) (b := 11) (by omega)).1
                  have a4 : sp5 (f x) = false := by rw [h92]; decide
                  clear h92 hx3
                  go_wp2_with (first | (go_at_call 14; refine (wb_any _ _).mono ?_; rintro e w' ⟨rfl, rfl⟩) | (go_at_call 19; refine (inSpace_any _ _).mono ?_; rintro e w' ⟨rfl, rfl⟩))
                  go_round
                  case rel => exact ⟨x + 2, HSK', by omega, by omega, .inr hin, by go_num⟩
                  case measure => simp [intOf]; omega
                · have e8 := (tnb h92).2
                  by_cases hl : lst (f x) = true
                  · have HST := Lib.hid hl
                    have hl5 : f x = 62 ∨ f x = 39 ∨ f x = 34 ∨ (f x ≠ 62 ∧ f x ≠ 39 ∧ f x ≠ 34 ∧ sp5 (f x) = true) ∨ (f x ≠ 62 ∧ f x ≠ 39 ∧ f x ≠ 34 ∧ sp5 (f x) = false ∧ f x = 11) := by
                      simp [lst, spc] at hl
                      simp [sp5]
                      omega
                    clear hl h92 hx3
                    rcases hl5 with h | h | h | h | h
                    · have a1 := (tnb (a := f x) (b := 92) (by omega)).2; have a2 := (teb h).1; have a3 := (teb h).2
                      by_cases hjx : i + 1 < x
                      · have HO := Lib.hid ((HLINK x).out (HSK.out x (.stop x hxl HST.out)) 1 (x + 1) (by rw [if_neg (by omega), if_neg (by omega), if_pos ⟨hjx, h⟩]))
                        clear h
                        go_wp2_with (first | (go_at_call 14; refine (wb_any _ _).mono ?_; rintro e w' ⟨rfl, rfl⟩) | (go_at_call 19; refine (inSpace_any _ _).mono ?_; rintro e w' ⟨rfl, rfl⟩))
                        go_ret2
                        exact ⟨1, x + 1, ret_two (by first | omega | rfl) (by first | omega | rfl), HO, rfl⟩
                      · have HX : Hid (IsTag n f 0 (fromGt n f x)) := Lib.hid ((HLINK x).out (HSK.out x (.stop x hxl HST.out)) 0 _ (by rw [if_neg (by omega), if_neg (by omega), if_neg (fun h => hjx h.1)]))
                        clear h
                        go_wp2_with (first | (go_at_call 14; refine (wb_any _ _).mono ?_; rintro e w' ⟨rfl, rfl⟩) | (go_at_call 19; refine (inSpace_any _ _).mono ?_; rintro e w' ⟨rfl, rfl⟩))
                        go_loop [11] (fun kv => ∃ k : Nat, Hid (scan (isB 62) n f x = scan (isB 62) n f k) ∧ x ≤ k ∧ k ≤ n ∧ kv = .int .i64 k) (fun kv => n - (intOf kv).toNat)
                        case atStart => exact ⟨x, Lib.hid rfl, by omega, by omega, rfl⟩
                        case round =>
                          obtain ⟨k, HS, hk1, hk2, rfl⟩ := hrel
                          by_cases hkl : k < n
                          · have hck := HC.out k hkl
                            have hrk := HR.out k
                            by_cases h62 : f k = 62
                            · have HO : Hid (IsTag n f 0 (k + 1)) := Lib.hid (by have := (HX.out); rw [fromGt, HS.out, scan_hit (by unfold isB; simpa using h62), if_pos hkl] at this; exact this)
                              have a9 := (teb h62).2
                              clear h62
                              go_wp2_with (first | (go_at_call 14; refine (wb_any _ _).mono ?_; rintro e w' ⟨rfl, rfl⟩) | (go_at_call 19; refine (inSpace_any _ _).mono ?_; rintro e w' ⟨rfl, rfl⟩))
                              go_ret2
                              exact ⟨0, k + 1, ret_two (by first | omega | rfl) (by first | omega | rfl), HO, rfl⟩
                            · have HS' := Lib.hid (HS.out.trans (scan_go hkl (by unfold isB; simpa using h62)))
                              have a9 := (tnb h62).2
                              clear h62
                              go_wp2_with (first | (go_at_call 14; refine (wb_any _ _).mono ?_; rintro e w' ⟨rfl, rfl⟩) | (go_at_call 19; refine (inSpace_any _ _).mono ?_; rintro e w' ⟨rfl, rfl⟩))
                              go_round
                              case rel => exact ⟨k + 1, HS', by omega, by omega, by go_num⟩
                              case measure => simp [intOf]; omega
                          · have HO : Hid (IsTag n f 0 x) := Lib.hid (by have := (HX.out); rw [fromGt, HS.out, scan_end (by omega), if_neg (by omega)] at this; exact this)
                            have hkn : n ≤ k := by omega
                            clear hkl
                            go_wp2_with (first | (go_at_call 14; refine (wb_any _ _).mono ?_; rintro e w' ⟨rfl, rfl⟩) | (go_at_call 19; refine (inSpace_any _ _).mono ?_; rintro e w' ⟨rfl, rfl⟩))
                            go_ret2
                            exact ⟨0, x, ret_two (by first | omega | rfl) (by first | omega | rfl), HO, rfl⟩
                    · have h62 : ¬ f x = 62 := by omega
                      have a1 := (tnb h62).1; have a11 := (tnb h62).2; have a2 := (teb h).1
                      clear h
                      have HX : Hid (IsTag n f 0 (fromGt n f x)) := Lib.hid ((HLINK x).out (HSK.out x (.stop x hxl HST.out)) 0 _ (by rw [if_neg (by omega), if_neg (by omega), if_neg (fun h => h62 h.2)]))
                      clear h62
                      go_wp2_with (first | (go_at_call 14; refine (wb_any _ _).mono ?_; rintro e w' ⟨rfl, rfl⟩) | (go_at_call 19; refine (inSpace_any _ _).mono ?_; rintro e w' ⟨rfl, rfl⟩))
                      go_loop [11] (fun kv => ∃ k : Nat, Hid (scan (isB 62) n f x = scan (isB 62) n f k) ∧ x ≤ k ∧ k ≤ n ∧ kv = .int .i64 k) (fun kv => n - (intOf kv).toNat)
                      case atStart => exact ⟨x, Lib.hid rfl, by omega, by omega, rfl⟩
                      case round =>
                        obtain ⟨k, HS, hk1, hk2, rfl⟩ := hrel
                        by_cases hkl : k < n
                        · have hck := HC.out k hkl
                          have hrk := HR.out k
                          by_cases h62 : f k = 62
                          · have HO : Hid (IsTag n f 0 (k + 1)) := Lib.hid (by have := (HX.out); rw [fromGt, HS.out, scan_hit (by unfold isB; simpa using h62), if_pos hkl] at this; exact this)
                            have a9 := (teb h62).2
                            clear h62
                            go_wp2_with (first | (go_at_call 14; refine (wb_any _ _).mono ?_; rintro e w' ⟨rfl, rfl⟩) | (go_at_call 19; refine (inSpace_any _ _).mono ?_; rintro e w' ⟨rfl, rfl⟩))
                            go_ret2
                            exact ⟨0, k + 1, ret_two (by first | omega | rfl) (by first | omega | rfl), HO, rfl⟩
                          · have HS' := Lib.hid (HS.out.trans (scan_go hkl (by unfold isB; simpa using h62)))
                            have a9 := (tnb h62).2
                            clear h62
                            go_wp2_with (first | (go_at_call 14; refine (wb_any _ _).mono ?_; rintro e w' ⟨rfl, rfl⟩) | (go_at_call 19; refine (inSpace_any _ _).mono ?_; rintro e w' ⟨rfl, rfl⟩))
                            go_round
                            case rel => exact ⟨k + 1, HS', by omega, by omega, by go_num⟩
                            case measure => simp [intOf]; omega
                        · have HO : Hid (IsTag n f 0 x) := Lib.hid (by have := (HX.out); rw [fromGt, HS.out, scan_end (by omega), if_neg (by omega)] at this; exact this)
                          have hkn : n ≤ k := by omega
                          clear hkl
                          go_wp2_with (first | (go_at_call 14; refine (wb_any _ _).mono ?_; rintro e w' ⟨rfl, rfl⟩) | (go_at_call 19; refine (inSpace_any _ _).mono ?_; rintro e w' ⟨rfl, rfl⟩))
                          go_ret2
                          exact ⟨0, x, ret_two (by first | omega | rfl) (by first | omega | rfl), HO, rfl⟩
                    · have h62 : ¬ f x = 62 := by omega
                      have a1 := (tnb h62).1; have a11 := (tnb h62).2; have a2 := (tnb (a := f x) (b := 39) (by omega)).1; have a3 := (teb h).1
                      clear h
                      have HX : Hid (IsTag n f 0 (fromGt n f x)) := Lib.hid ((HLINK x).out (HSK.out x (.stop x hxl HST.out)) 0 _ (by rw [if_neg (by omega), if_neg (by omega), if_neg (fun h => h62 h.2)]))
                      clear h62
                      go_wp2_with (first | (go_at_call 14; refine (wb_any _ _).mono ?_; rintro e w' ⟨rfl, rfl⟩) | (go_at_call 19; refine (inSpace_any _ _).mono ?_; rintro e w' ⟨rfl, rfl⟩))
                      go_loop [11] (fun kv => ∃ k : Nat, Hid (scan (isB 62) n f x = scan (isB 62) n f k) ∧ x ≤ k ∧ k ≤ n ∧ kv = .int .i64 k) (fun kv => n - (intOf kv).toNat)
                      case atStart => exact ⟨x, Lib.hid rfl, by omega, by omega, rfl⟩
                      case round =>
                        obtain ⟨k, HS, hk1, hk2, rfl⟩ := hrel
                        by_cases hkl : k < n
                        · have hck := HC.out k hkl
                          have hrk := HR.out k
                          by_cases h62 : f k = 62
                          · have HO : Hid (IsTag n f 0 (k + 1)) := Lib.hid (by have := (HX.out); rw [fromGt, HS.out, scan_hit (by unfold isB; simpa using h62), if_pos hkl] at this; exact this)
                            have a9 := (teb h62).2
                            clear h62
                            go_wp2_with (first | (go_at_call 14; refine (wb_any _ _).mono ?_; rintro e w' ⟨rfl, rfl⟩) | (go_at_call 19; refine (inSpace_any _ _).mono ?_; rintro e w' ⟨rfl, rfl⟩))
                            go_ret2
                            exact ⟨0, k + 1, ret_two (by first | omega | rfl) (by first | omega | rfl), HO, rfl⟩
                          · have HS' := Lib.hid (HS.out.trans (scan_go hkl (by unfold isB; simpa using h62)))
                            have a9 := (tnb h62).2
                            clear h62
                            go_wp2_with (first | (go_at_call 14; refine (wb_any _ _).mono ?_; rintro e w' ⟨rfl, rfl⟩) | (go_at_call 19; refine (inSpace_any _ _).mono ?_; rintro e w' ⟨rfl, rfl⟩))
                            go_round
                            case rel => exact ⟨k + 1, HS', by omega, by omega, by go_num⟩
                            case measure => simp [intOf]; omega
                        · have HO : Hid (IsTag n f 0 x) := Lib.hid (by have := (HX.out); rw [fromGt, HS.out, scan_end (by omega), if_neg (by omega)] at this; exact this)
                          have hkn : n ≤ k := by omega
                          clear hkl
                          go_wp2_with (first | (go_at_call 14; refine (wb_any _ _).mono ?_; rintro e w' ⟨rfl, rfl⟩) | (go_at_call 19; refine (inSpace_any _ _).mono ?_; rintro e w' ⟨rfl, rfl⟩))
                          go_ret2
                          exact ⟨0, x, ret_two (by first | omega | rfl) (by first | omega | rfl), HO, rfl⟩
                    · have h62 := h.1
                      have a1 := (tnb h.1).1; have a11 := (tnb h62).2; have a2 := (tnb h.2.1).1; have a3 := (tnb h.2.2.1).1; have a4 := h.2.2.2
                      clear h
                      have HX : Hid (IsTag n f 0 (fromGt n f x)) := Lib.hid ((HLINK x).out (HSK.out x (.stop x hxl HST.out)) 0 _ (by rw [if_neg (by omega), if_neg (by omega), if_neg (fun h => h62 h.2)]))
                      clear h62
                      go_wp2_with (first | (go_at_call 14; refine (wb_any _ _).mono ?_; rintro e w' ⟨rfl, rfl⟩) | (go_at_call 19; refine (inSpace_any _ _).mono ?_; rintro e w' ⟨rfl, rfl⟩))
                      go_loop [11] (fun kv => ∃ k : Nat, Hid (scan (isB 62) n f x = scan (isB 62) n f k) ∧ x ≤ k ∧ k ≤ n ∧ kv = .int .i64 k) (fun kv => n - (intOf kv).toNat)
                      case atStart => exact ⟨x, Lib.hid rfl, by omega, by omega, rfl⟩
                      case round =>
                        obtain ⟨k, HS, hk1, hk2, rfl⟩ := hrel
                        by_cases hkl : k < n
                        · have hck := HC.out k hkl
                          have hrk := HR.out k
                          by_cases h62 : f k = 62
                          · have HO : Hid (IsTag n f 0 (k + 1)) := Lib.hid (by have := (HX.out); rw [fromGt, HS.out, scan_hit (by unfold isB; simpa using h62), if_pos hkl] at this; exact this)
                            have a9 := (teb h62).2
                            clear h62
                            go_wp2_with (first | (go_at_call 14; refine (wb_any _ _).mono ?_; rintro e w' ⟨rfl, rfl⟩) | (go_at_call 19; refine (inSpace_any _ _).mono ?_; rintro e w' ⟨rfl, rfl⟩))
                            go_ret2
                            exact ⟨0, k + 1, ret_two (by first | omega | rfl) (by first | omega | rfl), HO, rfl⟩
                          · have HS' := Lib.hid (HS.out.trans (scan_go hkl (by unfold isB; simpa using h62)))
                            have a9 := (tnb h62).2
                            clear h62
                            go_wp2_with (first | (go_at_call 14; refine (wb_any _ _).mono ?_; rintro e w' ⟨rfl, rfl⟩) | (go_at_call 19; refine (inSpace_any _ _).mono ?_; rintro e w' ⟨rfl, rfl⟩))
                            go_round
                            case rel => exact ⟨k + 1, HS', by omega, by omega, by go_num⟩
                            case measure => simp [intOf]; omega
                        · have HO : Hid (IsTag n f 0 x) := Lib.hid (by have := (HX.out); rw [fromGt, HS.out, scan_end (by omega), if_neg (by omega)] at this; exact this)
                          have hkn : n ≤ k := by omega
                          clear hkl
                          go_wp2_with (first | (go_at_call 14; refine (wb_any _ _).mono ?_; rintro e w' ⟨rfl, rfl⟩) | (go_at_call 19; refine (inSpace_any _ _).mono ?_; rintro e w' ⟨rfl, rfl⟩))
                          go_ret2
                          exact ⟨0, x, ret_two (by first | omega | rfl) (by first | omega | rfl), HO, rfl⟩
                    · have h62 := h.1
                      have a1 := (tnb h.1).1; have a11 := (tnb h62).2; have a2 := (tnb h.2.1).1; have a3 := (tnb h.2.2.1).1; have a4 := h.2.2.2.1; have a5 := (teb h.2.2.2.2).1
                      clear h
                      have HX : Hid (IsTag n f 0 (fromGt n f x)) := Lib.hid ((HLINK x).out (HSK.out x (.stop x hxl HST.out)) 0 _ (by rw [if_neg (by omega), if_neg (by omega), if_neg (fun h => h62 h.2)]))
                      clear h62
                      go_wp2_with (first | (go_at_call 14; refine (wb_any _ _).mono ?_; rintro e w' ⟨rfl, rfl⟩) | (go_at_call 19; refine (inSpace_any _ _).mono ?_; rintro e w' ⟨rfl, rfl⟩))
                      go_loop [11] (fun kv => ∃ k : Nat, Hid (scan (isB 62) n f x = scan (isB 62) n f k) ∧ x ≤ k ∧ k ≤ n ∧ kv = .int .i64 k) (fun kv => n - (intOf kv).toNat)
                      case atStart => exact ⟨x, Lib.hid rfl, by omega, by omega, rfl⟩
                      case round =>
                        obtain ⟨k, HS, hk1, hk2, rfl⟩ := hrel
                        by_cases hkl : k < n
                        · have hck := HC.out k hkl
                          have hrk := HR.out k
                          by_cases h62 : f k = 62
                          · have HO : Hid (IsTag n f 0 (k + 1)) := Lib.hid (by have := (HX.out); rw [fromGt, HS.out, scan_hit (by unfold isB; simpa using h62), if_pos hkl] at this; exact this)
                            have a9 := (teb h62).2
                            clear h62
                            go_wp2_with (first | (go_at_call 14; refine (wb_any _ _).mono ?_; rintro e w' ⟨rfl, rfl⟩) | (go_at_call 19; refine (inSpace_any _ _).mono ?_; rintro e w' ⟨rfl, rfl⟩))
                            go_ret2
                            exact ⟨0, k + 1, ret_two (by first | omega | rfl) (by first | omega | rfl), HO, rfl⟩
                          · have HS' := Lib.hid (HS.out.trans (scan_go hkl (by unfold isB; simpa using h62)))
                            have a9 := (tnb h62).2
                            clear h62
                            go_wp2_with (first | (go_at_call 14; refine (wb_any _ _).mono ?_; rintro e w' ⟨rfl, rfl⟩) | (go_at_call 19; refine (inSpace_any _ _).mono ?_; rintro e w' ⟨rfl, rfl⟩))
                            go_round
                            case rel => exact ⟨k + 1, HS', by omega, by omega, by go_num⟩
                            case measure => simp [intOf]; omega
                        · have HO : Hid (IsTag n f 0 x) := Lib.hid (by have := (HX.out); rw [fromGt, HS.out, scan_end (by omega), if_neg (by omega)] at this; exact this)
                          have hkn : n ≤ k := by omega
                          clear hkl
                          go_wp2_with (first | (go_at_call 14; refine (wb_any _ _).mono ?_; rintro e w' ⟨rfl, rfl⟩) | (go_at_call 19; refine (inSpace_any _ _).mono ?_; rintro e w' ⟨rfl, rfl⟩))
                          go_ret2
                          exact ⟨0, x, ret_two (by first | omega | rfl) (by first | omega | rfl), HO, rfl⟩
                  · have hl' : lst (f x) = false := by simpa using hl
                    have HSK' : Hid (∀ r, SkipTo n f (x + 1) r → SkipTo n f (i + 1) r) := Lib.hid (fun r hr => HSK.out r (.step x r hxl h92 hl' hr))
                    have hne : f x ≠ 62 ∧ f x ≠ 39 ∧ f x ≠ 34 ∧ sp5 (f x) = false ∧ f x ≠ 11 := by
                      simp [lst, spc] at hl'
                      simp [sp5]
                      omega
                    have a1 := (tnb hne.1).1; have a2 := (tnb hne.2.1).1; have a3 := (tnb hne.2.2.1).1; have a4 := hne.2.2.2.1; have a5 := (tnb hne.2.2.2.2).1
                    clear hl hl' h92 hne hx3
                    go_wp2_with (first | (go_at_call 14; refine (wb_any _ _).mono ?_; rintro e w' ⟨rfl, rfl⟩) | (go_at_call 19; refine (inSpace_any _ _).mono ?_; rintro e w' ⟨rfl, rfl⟩))
                    go_round
                    case rel => exact ⟨x + 1, HSK', by omega, by omega, .inr hin, by go_num⟩
                    case measure => simp [intOf]; omega
              · by_cases hin : i + 1 < n
                · have HO := Lib.hid ((HLINK x).out (HSK.out x (.over x (by omega))) 1 0 (by rw [if_neg (by omega), if_pos (by omega)]))
                  have e00 : (((i : Int) + 1) == (n : Int)) = false := by simp; omega
                  clear hx3
                  go_wp2_with (first | (go_at_call 14; refine (wb_any _ _).mono ?_; rintro e w' ⟨rfl, rfl⟩) | (go_at_call 19; refine (inSpace_any _ _).mono ?_; rintro e w' ⟨rfl, rfl⟩))
                  go_ret2
                  exact ⟨1, 0, ret_two (by first | omega | rfl) (by first | omega | rfl), HO, rfl⟩
                · have hxle : x ≤ n := by omega
                  have hxn : Hid (x = n) := Lib.hid (by omega)
                  have HX : Hid (IsTag n f 0 (fromGt n f x)) := Lib.hid ((HLINK x).out (HSK.out x (.over x (by omega))) 0 _ (by rw [if_pos (by omega), fromGt, hxn.out, scan_end (Nat.le_refl n), if_neg (by omega)]))
                  have e00 : (((i : Int) + 1) == (n : Int)) = true := by simp; omega
                  clear hx3
                  go_wp2_with (first | (go_at_call 14; refine (wb_any _ _).mono ?_; rintro e w' ⟨rfl, rfl⟩) | (go_at_call 19; refine (inSpace_any _ _).mono ?_; rintro e w' ⟨rfl, rfl⟩))
                  go_loop [11] (fun kv => ∃ k : Nat, Hid (scan (isB 62) n f x = scan (isB 62) n f k) ∧ x ≤ k ∧ k ≤ n ∧ kv = .int .i64 k) (fun kv => n - (intOf kv).toNat)
                  case atStart => exact ⟨x, Lib.hid rfl, by omega, by omega, rfl⟩
                  case round =>
                    obtain ⟨k, HS, hk1, hk2, rfl⟩ := hrel
                    by_cases hkl : k < n
                    · have hck := HC.out k hkl
                      have hrk := HR.out k
                      by_cases h62 : f k = 62
                      · have HO : Hid (IsTag n f 0 (k + 1)) := Lib.hid (by have := (HX.out); rw [fromGt, HS.out, scan_hit (by unfold isB; simpa using h62), if_pos hkl] at this; exact this)
                        have a9 := (teb h62).2
                        clear h62
                        go_wp2_with (first | (go_at_call 14; refine (wb_any _ _).mono ?_; rintro e w' ⟨rfl, rfl⟩) | (go_at_call 19; refine (inSpace_any _ _).mono ?_; rintro e w' ⟨rfl, rfl⟩))
                        go_ret2
                        exact ⟨0, k + 1, ret_two (by first | omega | rfl) (by first | omega | rfl), HO, rfl⟩
                      · have HS' := Lib.hid (HS.out.trans (scan_go hkl (by unfold isB; simpa using h62)))
                        have a9 := (tnb h62).2
                        clear h62
                        go_wp2_with (first | (go_at_call 14; refine (wb_any _ _).mono ?_; rintro e w' ⟨rfl, rfl⟩) | (go_at_call 19; refine (inSpace_any _ _).mono ?_; rintro e w' ⟨rfl, rfl⟩))
                        go_round
                        case rel => exact ⟨k + 1, HS', by omega, by omega, by go_num⟩
                        case measure => simp [intOf]; omega
                    · have HO : Hid (IsTag n f 0 x) := Lib.hid (by have := (HX.out); rw [fromGt, HS.out, scan_end (by omega), if_neg (by omega)] at this; exact this)
                      have hkn : n ≤ k := by omega
                      clear hkl
                      go_wp2_with (first | (go_at_call 14; refine (wb_any _ _).mono ?_; rintro e w' ⟨rfl, rfl⟩) | (go_at_call 19; refine (inSpace_any _ _).mono ?_; rintro e w' ⟨rfl, rfl⟩))
                      go_ret2
                      exact ⟨0, x, ret_two (by first | omega | rfl) (by first | omega | rfl), HO, rfl⟩
          · rw [decide_eq_false h58]
            have HT : Hid (IsTag n f 0 (fromGt n f i)) := Lib.hid (by have := tag_plain (n := n) (f := f) HB3.out HB0.out HWS.out HM.out (by rw [HFIN.out]; exact fun h => h58 h.2); rw [HFIN.out] at this; exact this)
            clear h58
            go_wp2_with (first | (go_at_call 14; refine (wb_any _ _).mono ?_; rintro e w' ⟨rfl, rfl⟩) | (go_at_call 19; refine (inSpace_any _ _).mono ?_; rintro e w' ⟨rfl, rfl⟩))
            go_loop [11] (fun kv => ∃ k : Nat, Hid (scan (isB 62) n f i = scan (isB 62) n f k) ∧ i ≤ k ∧ k ≤ n ∧ kv = .int .i64 k) (fun kv => n - (intOf kv).toNat)
            case atStart => exact ⟨i, Lib.hid rfl, by omega, by omega, rfl⟩
            case round =>
              obtain ⟨k, HS, hk1, hk2, rfl⟩ := hrel
              by_cases hkl : k < n
              · have hck := HC.out k hkl
                have hrk := HR.out k
                by_cases h62 : f k = 62
                · have HO : Hid (IsTag n f 0 (k + 1)) := Lib.hid (by have := (HT.out); rw [fromGt, HS.out, scan_hit (by unfold isB; simpa using h62), if_pos hkl] at this; exact this)
                  have a9 := (teb h62).2
                  clear h62
                  go_wp2_with (first | (go_at_call 14; refine (wb_any _ _).mono ?_; rintro e w' ⟨rfl, rfl⟩) | (go_at_call 19; refine (inSpace_any _ _).mono ?_; rintro e w' ⟨rfl, rfl⟩))
                  go_ret2
                  exact ⟨0, k + 1, ret_two (by first | omega | rfl) (by first | omega | rfl), HO, rfl⟩
                · have HS' := Lib.hid (HS.out.trans (scan_go hkl (by unfold isB; simpa using h62)))
                  have a9 := (tnb h62).2
                  clear h62
                  go_wp2_with (first | (go_at_call 14; refine (wb_any _ _).mono ?_; rintro e w' ⟨rfl, rfl⟩) | (go_at_call 19; refine (inSpace_any _ _).mono ?_; rintro e w' ⟨rfl, rfl⟩))
                  go_round
                  case rel => exact ⟨k + 1, HS', by omega, by omega, by go_num⟩
                  case measure => simp [intOf]; omega
              · have HO : Hid (IsTag n f 0 i) := Lib.hid (by have := (HT.out); rw [fromGt, HS.out, scan_end (by omega), if_neg (by omega)] at this; exact this)
                have hkn : n ≤ k := by omega
                clear hkl
                go_wp2_with (first | (go_at_call 14; refine (wb_any _ _).mono ?_; rintro e w' ⟨rfl, rfl⟩) | (go_at_call 19; refine (inSpace_any _ _).mono ?_; rintro e w' ⟨rfl, rfl⟩))
                go_ret2
                exact ⟨0, i, ret_two (by first | omega | rfl) (by first | omega | rfl), HO, rfl⟩
        · have HT : Hid (IsTag n f 0 (fromGt n f i)) := Lib.hid (by have := tag_plain (n := n) (f := f) HB3.out HB0.out HWS.out HM.out (by rw [HFIN.out]; exact fun h => hi3 h.1); rw [HFIN.out] at this; exact this)
          go_wp2_with (first | (go_at_call 14; refine (wb_any _ _).mono ?_; rintro e w' ⟨rfl, rfl⟩) | (go_at_call 19; refine (inSpace_any _ _).mono ?_; rintro e w' ⟨rfl, rfl⟩))
          go_loop [11] (fun kv => ∃ k : Nat, Hid (scan (isB 62) n f i = scan (isB 62) n f k) ∧ i ≤ k ∧ k ≤ n ∧ kv = .int .i64 k) (fun kv => n - (intOf kv).toNat)
          case atStart => exact ⟨i, Lib.hid rfl, by omega, by omega, rfl⟩
          case round =>
            obtain ⟨k, HS, hk1, hk2, rfl⟩ := hrel
            by_cases hkl : k < n
            · have hck := HC.out k hkl
              have hrk := HR.out k
              by_cases h62 : f k = 62
              · have HO : Hid (IsTag n f 0 (k + 1)) := Lib.hid (by have := (HT.out); rw [fromGt, HS.out, scan_hit (by unfold isB; simpa using h62), if_pos hkl] at this; exact this)
                have a9 := (teb h62).2
                clear h62
                go_wp2_with (first | (go_at_call 14; refine (wb_any _ _).mono ?_; rintro e w' ⟨rfl, rfl⟩) | (go_at_call 19; refine (inSpace_any _ _).mono ?_; rintro e w' ⟨rfl, rfl⟩))
                go_ret2
                exact ⟨0, k + 1, ret_two (by first | omega | rfl) (by first | omega | rfl), HO, rfl⟩
              · have HS' := Lib.hid (HS.out.trans (scan_go hkl (by unfold isB; simpa using h62)))
                have a9 := (tnb h62).2
                clear h62
                go_wp2_with (first | (go_at_call 14; refine (wb_any _ _).mono ?_; rintro e w' ⟨rfl, rfl⟩) | (go_at_call 19; refine (inSpace_any _ _).mono ?_; rintro e w' ⟨rfl, rfl⟩))
                go_round
                case rel => exact ⟨k + 1, HS', by omega, by omega, by go_num⟩
                case measure => simp [intOf]; omega
            · have HO : Hid (IsTag n f 0 i) := Lib.hid (by have := (HT.out); rw [fromGt, HS.out, scan_end (by omega), if_neg (by omega)] at this; exact this)
              have hkn : n ≤ k := by omega
              clear hkl
              go_wp2_with (first | (go_at_call 14; refine (wb_any _ _).mono ?_; rintro e w' ⟨rfl, rfl⟩) | (go_at_call 19; refine (inSpace_any _ _).mono ?_; rintro e w' ⟨rfl, rfl⟩))
              go_ret2
              exact ⟨0, i, ret_two (by first | omega | rfl) (by first | omega | rfl), HO, rfl⟩
    · have hw' : wch (f 2) = false := by simpa using hw
      have HO := Lib.hid (tag_noname (n := n) (f := f) HB3.out HB0.out (by rw [HT0.out]; exact hw'))
      clear hw
      go_wp2_with (first | (go_at_call 14; refine (wb_any _ _).mono ?_; rintro e w' ⟨rfl, rfl⟩) | (go_at_call 19; refine (inSpace_any _ _).mono ?_; rintro e w' ⟨rfl, rfl⟩))
      go_ret2
      exact ⟨0, 0, ret_two (by first | omega | rfl) (by first | omega | rfl), HO, rfl⟩
  · have HO := Lib.hid (tag_not (n := n) (f := f) HB3.out h0)
    have d0 := (tnb h0).1
    clear h0 h1
    go_enter Try.func9, Try.ntmps9
    go_wp2
    go_ret2
    exact ⟨0, 0, ret_two (by first | omega | rfl) (by first | omega | rfl), HO, rfl⟩
end Go.Proofs.Ytkkkdcfidoecnaa
