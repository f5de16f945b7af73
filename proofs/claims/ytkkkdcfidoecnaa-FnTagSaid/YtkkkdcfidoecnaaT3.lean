/- The package's test for addresses of mail. -/
import Derived.Test.YtkkkdcfidoecnaaT2
namespace Go.Proofs.Ytkkkdcfidoecnaa
open Go.RowKit
set_option linter.unusedVariables false

theorem tnb {a b : Int} (h : a ≠ b) : (a != b) = true ∧ (a == b) = false := ⟨by simpa using h, by simpa using h⟩
theorem teb {a b : Int} (h : a = b) : (a != b) = false ∧ (a == b) = true := ⟨by simpa using h, by simpa using h⟩
theorem wch_ne {y : Int} (h : wch y = true) : y ≠ 64 ∧ y ≠ 62 ∧ y ≠ 45 ∧ y ≠ 46 ∧ y ≠ 95 := by simp [wch] at h; omega
theorem cnt_same {f : Nat → Int} {i : Nat} (h : f i ≠ 64) : cnt f (i + 1) = cnt f i := by
  show cnt f i + (if f i = 64 then 1 else 0) = _
  rw [if_neg h]; rfl
theorem cnt_more {f : Nat → Int} {i : Nat} (h : f i = 64) : cnt f (i + 1) = cnt f i + 1 := by
  show cnt f i + (if f i = 64 then 1 else 0) = _
  rw [if_pos h]
theorem mch_w {y : Int} (h : wch y = true) : notM y = false := by unfold notM mch; rw [h]; rfl

set_option maxHeartbeats 1600000 in
set_option maxRecDepth 100000 in
theorem mailto_any (A : Option Addr) (n cap : Nat) (f : Nat → Int) (w : World) (B : Nat) (h : RB w B A n cap f) (hn : n ≤ 100000) :
    Calls Try.prog 23 #[.slice A n cap] w fun e w' => e = .returned (.int .i64 (mailEnd n f)) ∧ w = w' := by
  have HH := Lib.hid h
  clear h
  go_enter Try.func23, Try.ntmps23
  go_wp2
  go_loop [3, 4] (fun nv iv => ∃ i q : Nat, Hid (scan notM n f 0 = scan notM n f i) ∧ Hid (q = cnt f i) ∧ i ≤ n ∧ q ≤ i ∧ nv = .int .i64 q ∧ iv = .int .i64 i) (fun _ iv => n - (intOf iv).toNat)
  case atStart => exact ⟨0, 0, Lib.hid rfl, Lib.hid rfl, by omega, by omega, rfl, rfl⟩
  case round =>
    obtain ⟨i, q, HS, HQ, hi, hqi, rfl, rfl⟩ := hrel
    by_cases hil : i < n
    · obtain ⟨b, off, rfl, hB, hc⟩ := HH.out.2.2.2 (by omega)
      have hci := hc i hil
      have hri := HH.out.rng i
      clear hc
      by_cases hw : wch (f i) = true
      · have HS' := Lib.hid (HS.out.trans (scan_go hil (mch_w hw)))
        have HQ' := Lib.hid (HQ.out.trans (cnt_same (wch_ne hw).1).symm)
        go_wp2_with (go_at_call 22; refine (an_any _ _).mono ?_; rintro e w' ⟨rfl, rfl⟩)
        go_round
        case rel => exact ⟨i + 1, q, HS', HQ', by omega, by omega, rfl, by go_num⟩
        case measure => simp [intOf]; omega
      · have hw' : wch (f i) = false := by simpa using hw
        clear hw
        by_cases h64 : f i = 64
        · have HS' := Lib.hid (HS.out.trans (scan_go hil (by simp [notM, mch, h64])))
          have HQ' : Hid (q + 1 = cnt f (i + 1)) := Lib.hid (by rw [cnt_more h64, HQ.out])
          have e1 := (teb h64).2
          clear h64
          go_wp2_with (go_at_call 22; refine (an_any _ _).mono ?_; rintro e w' ⟨rfl, rfl⟩)
          go_round
          case rel => exact ⟨i + 1, q + 1, HS', HQ', by omega, by omega, by go_num, by go_num⟩
          case measure => simp [intOf]; omega
        · have HQ' := Lib.hid (HQ.out.trans (cnt_same h64).symm)
          have e1 := (tnb h64).2
          clear h64
          by_cases h3 : f i = 45 ∨ f i = 46 ∨ f i = 95
          · have HS' := Lib.hid (HS.out.trans (scan_go hil (by rcases h3 with h | h | h <;> simp [notM, mch, h])))
            rcases h3 with h | h | h
            · have e2 := (teb h).2
              clear h
              go_wp2_with (go_at_call 22; refine (an_any _ _).mono ?_; rintro e w' ⟨rfl, rfl⟩)
              go_round
              case rel => exact ⟨i + 1, q, HS', HQ', by omega, by omega, rfl, by go_num⟩
              case measure => simp [intOf]; omega
            · have e2 := (tnb (a := f i) (b := 45) (by omega)).2; have e3 := (teb h).2
              clear h
              go_wp2_with (go_at_call 22; refine (an_any _ _).mono ?_; rintro e w' ⟨rfl, rfl⟩)
              go_round
              case rel => exact ⟨i + 1, q, HS', HQ', by omega, by omega, rfl, by go_num⟩
              case measure => simp [intOf]; omega
            · have e2 := (tnb (a := f i) (b := 45) (by omega)).2; have e3 := (tnb (a := f i) (b := 46) (by omega)).2; have e4 := (teb h).2
              clear h
              go_wp2_with (go_at_call 22; refine (an_any _ _).mono ?_; rintro e w' ⟨rfl, rfl⟩)
              go_round
              case rel => exact ⟨i + 1, q, HS', HQ', by omega, by omega, rfl, by go_num⟩
              case measure => simp [intOf]; omega
          · have hst : scan notM n f 0 = i := HS.out.trans (scan_hit (by
              have e := beq_eq_false_iff_ne.1 e1
              simp only [notM, mch, hw', Bool.false_or, Bool.not_eq_true', Bool.or_eq_false_iff, decide_eq_false_iff_not]; omega))
            have e2 := (tnb (a := f i) (b := 45) (by omega)).2; have e3 := (tnb (a := f i) (b := 46) (by omega)).2; have e4 := (tnb (a := f i) (b := 95) (by omega)).2
            clear h3
            by_cases h62 : f i = 62
            · have e5 := (teb h62).2
              by_cases hq1 : q = 1
              · have HM : Hid (mailEnd n f = i + 1) := Lib.hid (by unfold mailEnd; rw [hst, if_pos ⟨hil, h62, by rw [← HQ.out, hq1]⟩])
                have e6 : ((q : Int) == 1) = true := by simp [hq1]
                clear h62 hq1 hst
                go_wp2_with (go_at_call 22; refine (an_any _ _).mono ?_; rintro e w' ⟨rfl, rfl⟩)
                go_ret
                exact ⟨ret_int (by rw [HM.out]; rfl), rfl⟩
              · have HM : Hid (mailEnd n f = 0) := Lib.hid (by unfold mailEnd; rw [hst, if_neg (fun h => hq1 (by rw [HQ.out]; exact h.2.2))])
                have e6 : ((q : Int) == 1) = false := by simp; omega
                clear h62 hq1 hst
                go_wp2_with (go_at_call 22; refine (an_any _ _).mono ?_; rintro e w' ⟨rfl, rfl⟩)
                go_ret
                exact ⟨ret_int (by rw [HM.out]; rfl), rfl⟩
            · have HM : Hid (mailEnd n f = 0) := Lib.hid (by unfold mailEnd; rw [hst, if_neg (fun h => h62 h.2.1)])
              have e5 := (tnb h62).2
              clear h62 hst
              go_wp2_with (go_at_call 22; refine (an_any _ _).mono ?_; rintro e w' ⟨rfl, rfl⟩)
              go_ret
              exact ⟨ret_int (by rw [HM.out]; rfl), rfl⟩
    · have HM : Hid (mailEnd n f = 0) := Lib.hid (by
        have hst : scan notM n f 0 = i := HS.out.trans (scan_end (by omega))
        unfold mailEnd; rw [hst, if_neg (fun h => hil h.1)])
      go_wp2
      go_ret
      exact ⟨ret_int (by rw [HM.out]; rfl), rfl⟩
end Go.Proofs.Ytkkkdcfidoecnaa
