/- The package's reading of a tag. -/
import Derived.Test.YtkkkdcfidoecnaaT3b
namespace Go.Proofs.Ytkkkdcfidoecnaa
open Go.RowKit
set_option linter.unusedVariables false

set_option maxHeartbeats 16000000 in
set_option maxRecDepth 1000000 in
theorem tagLength_2 (A : Option Addr) (n cap : Nat) (f : Nat → Int) (w : World) (B : Nat) (h : RB w B A n cap f) (hn : n ≤ 100000) (h1 : f 1 = 47) :
    Calls Try.prog 21 #[.slice A n cap] w fun e w' => ∃ k en : Nat, e = .returned (.tuple #[.int .i64 k, .int .i64 en]) ∧ Hid (IsTag n f k en) ∧ w = w' := by
  by_cases hn3 : n < 3
  · have HO := Lib.hid (tag_short (n := n) (f := f) hn3)
    clear h
    go_enter Try.func21, Try.ntmps21
    go_wp2
    go_ret2
    exact ⟨0, 0, ret_two (by first | omega | rfl) (by first | omega | rfl), HO, rfl⟩
  obtain ⟨b, off, rfl, hB, hcell⟩ := h.2.2.2 (by omega)
  have hcap := h.cap
  have HB3 := Lib.hid hn3
  have hn3' : 3 ≤ n := by omega
  have HCUT : ∀ i, i < n → RB w B (some ⟨b, off + i, none⟩) (n - i) (cap - i) (fun q => f (i + q)) := fun i hi => by
    have := h.cut (lo := i) (hi := n) (by omega) (Nat.le_refl _)
    rw [if_neg (by omega), Option.map_some, add_lit] at this
    exact this
  have HEND1 : cap = n → RB w B (some ⟨b, off, none⟩) 0 (cap - n) (fun q => f (n + q)) := fun hc => by
    have := h.cut (lo := n) (hi := n) (by omega) (Nat.le_refl _)
    rw [if_pos hc, Nat.sub_self] at this
    exact this
  have HEND2 : ¬ cap = n → RB w B (some ⟨b, off + n, none⟩) 0 (cap - n) (fun q => f (n + q)) := fun hc => by
    have := h.cut (lo := n) (hi := n) (by omega) (Nat.le_refl _)
    rw [if_neg hc, Option.map_some, add_lit, Nat.sub_self] at this
    exact this
  have HCUT := fun i hi => Lib.hid (HCUT i hi)
  have HEND1 := fun hc => Lib.hid (HEND1 hc)
  have HEND2 := fun hc => Lib.hid (HEND2 hc)
  have HC := Lib.hid hcell; have HR := Lib.hid h.rng
  have hc0 : w.cell? ⟨b, off, none⟩ = some (.int .u8 (f 0)) := hcell 0 (by omega)
  have hc1 := hcell 1 (by omega)
  clear h hcell hn3
  by_cases h0 : f 0 = 60
  · have HB0 := Lib.hid h0
    have d0 := (teb h0).1
    clear h0
    · have HT0 : Hid (tag0 f = 2) := Lib.hid (by unfold tag0; rw [if_pos h1])
      have d1 := (teb h1).2
      clear h1
      go_enter Try.func21, Try.ntmps21
      have hcs := HC.out 2 (by omega)
      have hrs := HR.out 2
      by_cases hw : wch (f 2) = true
      · have HWS : Hid (wch (f (tag0 f)) = true) := Lib.hid (by rw [HT0.out]; exact hw)
        go_wp2_with (first | (go_at_call 22; refine (an_any _ _).mono ?_; rintro e w' ⟨rfl, rfl⟩) | (go_at_call 24; refine (isspace_any _ _).mono ?_; rintro e w' ⟨rfl, rfl⟩))
        go_loop [4] (fun iv => ∃ i : Nat, Hid (scan notT n f 2 = scan notT n f i) ∧ 2 ≤ i ∧ i ≤ n ∧ (2 < i ∨ i = 2) ∧ iv = .int .i64 i) (fun iv => n - (intOf iv).toNat)
        case atStart => exact ⟨2, Lib.hid rfl, by omega, by omega, by omega, rfl⟩
        case round =>
          obtain ⟨i, HS, hi1, hi2, hi3, rfl⟩ := hrel
          by_cases hgo : i < n ∧ tch (f i) = true
          · obtain ⟨hil, ht⟩ := hgo
            have hci := HC.out i hil
            have hri := HR.out i
            have HS' := Lib.hid (HS.out.trans (scan_go hil (by unfold notT; rw [ht]; rfl)))
            have h4 : wch (f i) = true ∨ (wch (f i) = false ∧ f i = 46) ∨ (wch (f i) = false ∧ f i ≠ 46 ∧ f i = 43) ∨ (wch (f i) = false ∧ f i ≠ 46 ∧ f i ≠ 43 ∧ f i = 45) := by
              cases hwi : wch (f i)
              · simp [tch, hwi] at ht
                right; simp; omega
              · exact .inl rfl
            clear ht
            rcases h4 with h | ⟨h, h1⟩ | ⟨h, h1, h2⟩ | ⟨h, h1, h2, h3⟩
            · go_wp2_with (first | (go_at_call 22; refine (an_any _ _).mono ?_; rintro e w' ⟨rfl, rfl⟩) | (go_at_call 24; refine (isspace_any _ _).mono ?_; rintro e w' ⟨rfl, rfl⟩))
              go_round
              case rel => exact ⟨i + 1, HS', by omega, by omega, by omega, by go_num⟩
              case measure => simp [intOf]; omega
            · have c1 := (teb h1).2
              clear h1
              go_wp2_with (first | (go_at_call 22; refine (an_any _ _).mono ?_; rintro e w' ⟨rfl, rfl⟩) | (go_at_call 24; refine (isspace_any _ _).mono ?_; rintro e w' ⟨rfl, rfl⟩))
              go_round
              case rel => exact ⟨i + 1, HS', by omega, by omega, by omega, by go_num⟩
              case measure => simp [intOf]; omega
            · have c1 := (tnb h1).2; have c2 := (teb h2).2
              clear h1 h2
              go_wp2_with (first | (go_at_call 22; refine (an_any _ _).mono ?_; rintro e w' ⟨rfl, rfl⟩) | (go_at_call 24; refine (isspace_any _ _).mono ?_; rintro e w' ⟨rfl, rfl⟩))
              go_round
              case rel => exact ⟨i + 1, HS', by omega, by omega, by omega, by go_num⟩
              case measure => simp [intOf]; omega
            · have c1 := (tnb h1).2; have c2 := (tnb h2).2; have c3 := (teb h3).2
              clear h1 h2 h3
              go_wp2_with (first | (go_at_call 22; refine (an_any _ _).mono ?_; rintro e w' ⟨rfl, rfl⟩) | (go_at_call 24; refine (isspace_any _ _).mono ?_; rintro e w' ⟨rfl, rfl⟩))
              go_round
              case rel => exact ⟨i + 1, HS', by omega, by omega, by omega, by go_num⟩
              case measure => simp [intOf]; omega
          · have hstop : i = n ∨ notT (f i) = true := by
              rcases Nat.lt_or_ge i n with h | h
              · right
                have : tch (f i) = false := by simpa using fun ht => hgo ⟨h, ht⟩
                unfold notT; rw [this]; rfl
              · left; omega
            have hst : tag1 n f = i := by
              unfold tag1
              rw [HT0.out]
              refine HS.out.trans ?_
              rcases hstop with h | h
              · exact scan_end (by omega)
              · exact scan_hit h
            have hi4 : 2 < i := by
              rcases hi3 with h | h
              · exact h
              · exfalso
                subst h
                rcases hstop with h | h
                · omega
                · unfold notT tch at h; rw [hw] at h; cases h
            clear hgo hi3
            have HFIN := Lib.hid (hst)
            clear hst
            by_cases hil : i < n
            · have hci := HC.out i hil
              have hri := HR.out i
              by_cases h64 : f i = 64
              · have e1 := (teb h64).2
                have HM : Hid (mailHere n f (tag1 n f) = mailEnd (n - i) (fun q => f (i + q))) := Lib.hid (by rw [HFIN.out]; unfold mailHere; rw [if_pos ⟨hil, h64⟩])
                have hnt : tch (f i) = false := by rw [h64]; decide
                have e58 := (tnb (a := f i) (b := 58) (by omega)).2
                have hn58 : ¬ (2 < tag1 n f ∧ tag1 n f < n ∧ f (tag1 n f) = 58) := fun h => by have := h.2.2; rw [HFIN.out] at this; omega
                have HN58 := Lib.hid hn58
                have b1 := (tnb (a := f i) (b := 46) (by omega)).2; have b2 := (tnb (a := f i) (b := 43) (by omega)).2; have b3 := (tnb (a := f i) (b := 45) (by omega)).2
                have hw0 : wch (f i) = false := by rw [h64]; decide
                clear h64 hn58 hnt
                go_wp2_with (first | (go_at_call 22; refine (an_any _ _).mono ?_; rintro e w' ⟨rfl, rfl⟩) | (go_at_call 24; refine (isspace_any _ _).mono ?_; rintro e w' ⟨rfl, rfl⟩))
                refine (mailto_any _ (n - i) _ (fun q => f (i + q)) w B (by exact HCUT i (by omega)) (by omega)).mono ?_
                rintro e w' ⟨rfl, rfl⟩
                by_cases hz : mailEnd (n - i) (fun q => f (i + q)) = 0
                · have HT := Lib.hid (tag_plain (n := n) (f := f) HB3.out HB0.out HWS.out (by rw [HM.out]; exact hz) HN58.out)
                  have e11 : ((mailEnd (n - i) (fun q => f (i + q)) : Int) != 0) = false := by simp [hz]
                  clear hz
                  generalize mailEnd (n - i) (fun q => f (i + q)) = m at e11
                  by_cases hi2 : 2 < i
                  · go_wp2_with (first | (go_at_call 22; refine (an_any _ _).mono ?_; rintro e w' ⟨rfl, rfl⟩) | (go_at_call 24; refine (isspace_any _ _).mono ?_; rintro e w' ⟨rfl, rfl⟩))
                    refine (indexByte_any _ (n - i) _ (fun q => f (i + q)) 62 w B (by exact HCUT i (by omega)) (by omega)).mono ?_
                    rintro e w' ⟨rfl, rfl⟩
                    have hsh := scan_shift (isB 62) n f (i := i) (by omega)
                    by_cases hk : scan (isB 62) (n - i) (fun q => f (i + q)) 0 < n - i
                    · rw [if_pos hk]
                      generalize scan (isB 62) (n - i) (fun q => f (i + q)) 0 = k at hk hsh
                      have HO : Hid (IsTag n f 0 (i + k + 1)) := Lib.hid (by have := (by have := HT.out; rw [HFIN.out] at this; exact this); rw [fromGt, if_pos (by omega), hsh] at this; exact this)
                      clear hsh
                      go_wp2_with (first | (go_at_call 22; refine (an_any _ _).mono ?_; rintro e w' ⟨rfl, rfl⟩) | (go_at_call 24; refine (isspace_any _ _).mono ?_; rintro e w' ⟨rfl, rfl⟩))
                      go_ret2
                      exact ⟨0, i + k + 1, ret_two (by first | omega | rfl) (by first | omega | rfl), HO, rfl⟩
                    · rw [if_neg hk]
                      have HO : Hid (IsTag n f 0 i) := Lib.hid (by have := (by have := HT.out; rw [HFIN.out] at this; exact this); rw [fromGt, if_neg (by omega)] at this; exact this)
                      clear hsh hk
                      go_wp2_with (first | (go_at_call 22; refine (an_any _ _).mono ?_; rintro e w' ⟨rfl, rfl⟩) | (go_at_call 24; refine (isspace_any _ _).mono ?_; rintro e w' ⟨rfl, rfl⟩))
                      go_ret2
                      exact ⟨0, i, ret_two (by first | omega | rfl) (by first | omega | rfl), HO, rfl⟩
                  · exact absurd hi4 hi2
                · have HO := Lib.hid (tag_mail (n := n) (f := f) HB3.out HB0.out HWS.out (by rw [HM.out]; exact hz))
                  rw [HM.out, HFIN.out] at HO
                  have e11 : ((mailEnd (n - i) (fun q => f (i + q)) : Int) != 0) = true := by simp; omega
                  have hme : mailEnd (n - i) (fun q => f (i + q)) ≤ n + 1 := by unfold mailEnd; split <;> omega
                  clear hz HM
                  generalize mailEnd (n - i) (fun q => f (i + q)) = m at e11 HO hme
                  go_wp2_with (first | (go_at_call 22; refine (an_any _ _).mono ?_; rintro e w' ⟨rfl, rfl⟩) | (go_at_call 24; refine (isspace_any _ _).mono ?_; rintro e w' ⟨rfl, rfl⟩))
                  go_ret2
                  exact ⟨2, i + m, ret_two (by first | omega | rfl) (by first | omega | rfl), HO, rfl⟩
              · have e1 := (tnb h64).2
                have HM : Hid (mailHere n f (tag1 n f) = 0) := Lib.hid (by rw [HFIN.out]; unfold mailHere; rw [if_neg (fun h => h64 h.2)])
                have hnT : notT (f i) = true := by
                  rcases hstop with h | h
                  · omega
                  · exact h
                have hw0 : wch (f i) = false := by simp [notT, tch] at hnT; exact hnT.1.1.1
                have b123 : f i ≠ 46 ∧ f i ≠ 43 ∧ f i ≠ 45 := by simp [notT, tch] at hnT; exact ⟨hnT.1.1.2, hnT.1.2, hnT.2⟩
                have b1 := (tnb b123.1).2; have b2 := (tnb b123.2.1).2; have b3 := (tnb b123.2.2).2
                clear h64 hnT b123
                by_cases h58 : f i = 58
                · have e58 := (teb h58).2
                  by_cases hi2 : 2 < i
                  · have HLINK : ∀ r, Hid (SkipTo n f (i + 1) r → ∀ k e, (if n ≤ i + 1 then (0, n) else if n ≤ r then (1, 0) else if i + 1 < r ∧ f r = 62 then (1, r + 1) else (0, fromGt n f r)) = (k, e) → IsTag n f k e) := fun r => Lib.hid (fun hr k e he =>
                      tag_link (n := n) (f := f) (r := r) HB3.out HB0.out HWS.out HM.out (by rw [HFIN.out]; exact ⟨hi2, hil, h58⟩) (by rw [HFIN.out]; exact hr) (by rw [HFIN.out]; exact he))
                    clear h58
                    by_cases hin : i + 1 < n
                    · go_wp2_with (first | (go_at_call 22; refine (an_any _ _).mono ?_; rintro e w' ⟨rfl, rfl⟩) | (go_at_call 24; refine (isspace_any _ _).mono ?_; rintro e w' ⟨rfl, rfl⟩))
                      go_loop [4] (fun xv => ∃ x : Nat, Hid (∀ r, SkipTo n f x r → SkipTo n f (i + 1) r) ∧ i + 1 ≤ x ∧ x ≤ n + 1 ∧ xv = .int .i64 x) (fun xv => n + 2 - (intOf xv).toNat)
                      case atStart => exact ⟨i + 1, Lib.hid (fun _ h => h), by omega, by omega, by go_num⟩
                      case round =>
                        obtain ⟨x, HSK, hx1, hx2, rfl⟩ := hrel
                        by_cases hxl : x < n
                        · have hcx := HC.out x hxl
                          have hrx := HR.out x
                          by_cases h92 : f x = 92
                          · have HSK' : Hid (∀ r, SkipTo n f (x + 2) r → SkipTo n f (i + 1) r) := Lib.hid (fun r hr => HSK.out r (.esc x r hxl h92 hr))
                            have e8 := (teb h92).2
                            clear h92
                            go_wp2_with (first | (go_at_call 22; refine (an_any _ _).mono ?_; rintro e w' ⟨rfl, rfl⟩) | (go_at_call 24; refine (isspace_any _ _).mono ?_; rintro e w' ⟨rfl, rfl⟩))
                            go_round
                            case rel => exact ⟨x + 2, HSK', by omega, by omega, by go_num⟩
                            case measure => simp [intOf]; omega
                          · have e8 := (tnb h92).2
                            by_cases hl : lst (f x) = true
                            · have HST := Lib.hid hl
                              have hl4 : f x = 62 ∨ f x = 39 ∨ f x = 34 ∨ (f x ≠ 62 ∧ f x ≠ 39 ∧ f x ≠ 34 ∧ spc (f x) = true) := by
                                by_cases q1 : f x = 62
                                · exact .inl q1
                                · by_cases q2 : f x = 39
                                  · exact .inr (.inl q2)
                                  · by_cases q3 : f x = 34
                                    · exact .inr (.inr (.inl q3))
                                    · refine .inr (.inr (.inr ⟨q1, q2, q3, ?_⟩))
                                      simpa [lst, q1, q2, q3] using hl
                              clear hl h92
                              rcases hl4 with h | h | h | h
                              · have a1 := (teb h).2
                                by_cases hjx : i + 1 < x
                                · have HO := Lib.hid ((HLINK x).out (HSK.out x (.stop x hxl HST.out)) 1 (x + 1) (by rw [if_neg (by omega), if_neg (by omega), if_pos ⟨hjx, h⟩]))
                                  clear h
                                  go_wp2_with (first | (go_at_call 22; refine (an_any _ _).mono ?_; rintro e w' ⟨rfl, rfl⟩) | (go_at_call 24; refine (isspace_any _ _).mono ?_; rintro e w' ⟨rfl, rfl⟩))
                                  go_ret2
                                  exact ⟨1, x + 1, ret_two (by first | omega | rfl) (by first | omega | rfl), HO, rfl⟩
                                · have HX : Hid (∀ e : Nat, (0, fromGt n f x) = (0, e) → IsTag n f 0 e) := Lib.hid (fun e he => (HLINK x).out (HSK.out x (.stop x hxl HST.out)) 0 e (by rw [if_neg (by omega), if_neg (by omega), if_neg (fun h => hjx h.1)]; exact he))
                                  clear h
                                  go_wp2_with (first | (go_at_call 22; refine (an_any _ _).mono ?_; rintro e w' ⟨rfl, rfl⟩) | (go_at_call 24; refine (isspace_any _ _).mono ?_; rintro e w' ⟨rfl, rfl⟩))
                                  refine (indexByte_any _ (n - x) _ (fun q => f (x + q)) 62 w B (by exact HCUT x (by omega)) (by omega)).mono ?_
                                  rintro e w' ⟨rfl, rfl⟩
                                  have hsh := scan_shift (isB 62) n f (i := x) (by omega)
                                  by_cases hk : scan (isB 62) (n - x) (fun q => f (x + q)) 0 < n - x
                                  · rw [if_pos hk]
                                    generalize scan (isB 62) (n - x) (fun q => f (x + q)) 0 = k at hk hsh
                                    have HO : Hid (IsTag n f 0 (x + k + 1)) := Lib.hid (by have := (HX.out _ rfl); rw [fromGt, if_pos (by omega), hsh] at this; exact this)
                                    clear hsh
                                    go_wp2_with (first | (go_at_call 22; refine (an_any _ _).mono ?_; rintro e w' ⟨rfl, rfl⟩) | (go_at_call 24; refine (isspace_any _ _).mono ?_; rintro e w' ⟨rfl, rfl⟩))
                                    go_ret2
                                    exact ⟨0, x + k + 1, ret_two (by first | omega | rfl) (by first | omega | rfl), HO, rfl⟩
                                  · rw [if_neg hk]
                                    have HO : Hid (IsTag n f 0 x) := Lib.hid (by have := (HX.out _ rfl); rw [fromGt, if_neg (by omega)] at this; exact this)
                                    clear hsh hk
                                    go_wp2_with (first | (go_at_call 22; refine (an_any _ _).mono ?_; rintro e w' ⟨rfl, rfl⟩) | (go_at_call 24; refine (isspace_any _ _).mono ?_; rintro e w' ⟨rfl, rfl⟩))
                                    go_ret2
                                    exact ⟨0, x, ret_two (by first | omega | rfl) (by first | omega | rfl), HO, rfl⟩
                              · have h62 : ¬ f x = 62 := by omega
                                have a1 := (tnb h62).2; have a2 := (teb h).2
                                clear h
                                have HX : Hid (∀ e : Nat, (0, fromGt n f x) = (0, e) → IsTag n f 0 e) := Lib.hid (fun e he => (HLINK x).out (HSK.out x (.stop x hxl HST.out)) 0 e (by rw [if_neg (by omega), if_neg (by omega), if_neg (fun h => h62 h.2)]; exact he))
                                clear h62
                                by_cases hjx : i + 1 < x
                                · go_wp2_with (first | (go_at_call 22; refine (an_any _ _).mono ?_; rintro e w' ⟨rfl, rfl⟩) | (go_at_call 24; refine (isspace_any _ _).mono ?_; rintro e w' ⟨rfl, rfl⟩))
                                  refine (indexByte_any _ (n - x) _ (fun q => f (x + q)) 62 w B (by exact HCUT x (by omega)) (by omega)).mono ?_
                                  rintro e w' ⟨rfl, rfl⟩
                                  have hsh := scan_shift (isB 62) n f (i := x) (by omega)
                                  by_cases hk : scan (isB 62) (n - x) (fun q => f (x + q)) 0 < n - x
                                  · rw [if_pos hk]
                                    generalize scan (isB 62) (n - x) (fun q => f (x + q)) 0 = k at hk hsh
                                    have HO : Hid (IsTag n f 0 (x + k + 1)) := Lib.hid (by have := (HX.out _ rfl); rw [fromGt, if_pos (by omega), hsh] at this; exact this)
                                    clear hsh
                                    go_wp2_with (first | (go_at_call 22; refine (an_any _ _).mono ?_; rintro e w' ⟨rfl, rfl⟩) | (go_at_call 24; refine (isspace_any _ _).mono ?_; rintro e w' ⟨rfl, rfl⟩))
                                    go_ret2
                                    exact ⟨0, x + k + 1, ret_two (by first | omega | rfl) (by first | omega | rfl), HO, rfl⟩
                                  · rw [if_neg hk]
                                    have HO : Hid (IsTag n f 0 x) := Lib.hid (by have := (HX.out _ rfl); rw [fromGt, if_neg (by omega)] at this; exact this)
                                    clear hsh hk
                                    go_wp2_with (first | (go_at_call 22; refine (an_any _ _).mono ?_; rintro e w' ⟨rfl, rfl⟩) | (go_at_call 24; refine (isspace_any _ _).mono ?_; rintro e w' ⟨rfl, rfl⟩))
                                    go_ret2
                                    exact ⟨0, x, ret_two (by first | omega | rfl) (by first | omega | rfl), HO, rfl⟩
                                · go_wp2_with (first | (go_at_call 22; refine (an_any _ _).mono ?_; rintro e w' ⟨rfl, rfl⟩) | (go_at_call 24; refine (isspace_any _ _).mono ?_; rintro e w' ⟨rfl, rfl⟩))
                                  refine (indexByte_any _ (n - x) _ (fun q => f (x + q)) 62 w B (by exact HCUT x (by omega)) (by omega)).mono ?_
                                  rintro e w' ⟨rfl, rfl⟩
                                  have hsh := scan_shift (isB 62) n f (i := x) (by omega)
                                  by_cases hk : scan (isB 62) (n - x) (fun q => f (x + q)) 0 < n - x
                                  · rw [if_pos hk]
                                    generalize scan (isB 62) (n - x) (fun q => f (x + q)) 0 = k at hk hsh
                                    have HO : Hid (IsTag n f 0 (x + k + 1)) := Lib.hid (by have := (HX.out _ rfl); rw [fromGt, if_pos (by omega), hsh] at this; exact this)
                                    clear hsh
                                    go_wp2_with (first | (go_at_call 22; refine (an_any _ _).mono ?_; rintro e w' ⟨rfl, rfl⟩) | (go_at_call 24; refine (isspace_any _ _).mono ?_; rintro e w' ⟨rfl, rfl⟩))
                                    go_ret2
                                    exact ⟨0, x + k + 1, ret_two (by first | omega | rfl) (by first | omega | rfl), HO, rfl⟩
                                  · rw [if_neg hk]
                                    have HO : Hid (IsTag n f 0 x) := Lib.hid (by have := (HX.out _ rfl); rw [fromGt, if_neg (by omega)] at this; exact this)
                                    clear hsh hk
                                    go_wp2_with (first | (go_at_call 22; refine (an_any _ _).mono ?_; rintro e w' ⟨rfl, rfl⟩) | (go_at_call 24; refine (isspace_any _ _).mono ?_; rintro e w' ⟨rfl, rfl⟩))
                                    go_ret2
                                    exact ⟨0, x, ret_two (by first | omega | rfl) (by first | omega | rfl), HO, rfl⟩
                              · have h62 : ¬ f x = 62 := by omega
                                have a1 := (tnb h62).2; have a2 := (tnb (a := f x) (b := 39) (by omega)).2; have a3 := (teb h).2
                                clear h
                                have HX : Hid (∀ e : Nat, (0, fromGt n f x) = (0, e) → IsTag n f 0 e) := Lib.hid (fun e he => (HLINK x).out (HSK.out x (.stop x hxl HST.out)) 0 e (by rw [if_neg (by omega), if_neg (by omega), if_neg (fun h => h62 h.2)]; exact he))
                                clear h62
                                by_cases hjx : i + 1 < x
                                · go_wp2_with (first | (go_at_call 22; refine (an_any _ _).mono ?_; rintro e w' ⟨rfl, rfl⟩) | (go_at_call 24; refine (isspace_any _ _).mono ?_; rintro e w' ⟨rfl, rfl⟩))
                                  refine (indexByte_any _ (n - x) _ (fun q => f (x + q)) 62 w B (by exact HCUT x (by omega)) (by omega)).mono ?_
                                  rintro e w' ⟨rfl, rfl⟩
                                  have hsh := scan_shift (isB 62) n f (i := x) (by omega)
                                  by_cases hk : scan (isB 62) (n - x) (fun q => f (x + q)) 0 < n - x
                                  · rw [if_pos hk]
                                    generalize scan (isB 62) (n - x) (fun q => f (x + q)) 0 = k at hk hsh
                                    have HO : Hid (IsTag n f 0 (x + k + 1)) := Lib.hid (by have := (HX.out _ rfl); rw [fromGt, if_pos (by omega), hsh] at this; exact this)
                                    clear hsh
                                    go_wp2_with (first | (go_at_call 22; refine (an_any _ _).mono ?_; rintro e w' ⟨rfl, rfl⟩) | (go_at_call 24; refine (isspace_any _ _).mono ?_; rintro e w' ⟨rfl, rfl⟩))
                                    go_ret2
                                    exact ⟨0, x + k + 1, ret_two (by first | omega | rfl) (by first | omega | rfl), HO, rfl⟩
                                  · rw [if_neg hk]
                                    have HO : Hid (IsTag n f 0 x) := Lib.hid (by have := (HX.out _ rfl); rw [fromGt, if_neg (by omega)] at this; exact this)
                                    clear hsh hk
                                    go_wp2_with (first | (go_at_call 22; refine (an_any _ _).mono ?_; rintro e w' ⟨rfl, rfl⟩) | (go_at_call 24; refine (isspace_any _ _).mono ?_; rintro e w' ⟨rfl, rfl⟩))
                                    go_ret2
                                    exact ⟨0, x, ret_two (by first | omega | rfl) (by first | omega | rfl), HO, rfl⟩
                                · go_wp2_with (first | (go_at_call 22; refine (an_any _ _).mono ?_; rintro e w' ⟨rfl, rfl⟩) | (go_at_call 24; refine (isspace_any _ _).mono ?_; rintro e w' ⟨rfl, rfl⟩))
                                  refine (indexByte_any _ (n - x) _ (fun q => f (x + q)) 62 w B (by exact HCUT x (by omega)) (by omega)).mono ?_
                                  rintro e w' ⟨rfl, rfl⟩
                                  have hsh := scan_shift (isB 62) n f (i := x) (by omega)
                                  by_cases hk : scan (isB 62) (n - x) (fun q => f (x + q)) 0 < n - x
                                  · rw [if_pos hk]
                                    generalize scan (isB 62) (n - x) (fun q => f (x + q)) 0 = k at hk hsh
                                    have HO : Hid (IsTag n f 0 (x + k + 1)) := Lib.hid (by have := (HX.out _ rfl); rw [fromGt, if_pos (by omega), hsh] at this; exact this)
                                    clear hsh
                                    go_wp2_with (first | (go_at_call 22; refine (an_any _ _).mono ?_; rintro e w' ⟨rfl, rfl⟩) | (go_at_call 24; refine (isspace_any _ _).mono ?_; rintro e w' ⟨rfl, rfl⟩))
                                    go_ret2
                                    exact ⟨0, x + k + 1, ret_two (by first | omega | rfl) (by first | omega | rfl), HO, rfl⟩
                                  · rw [if_neg hk]
                                    have HO : Hid (IsTag n f 0 x) := Lib.hid (by have := (HX.out _ rfl); rw [fromGt, if_neg (by omega)] at this; exact this)
                                    clear hsh hk
                                    go_wp2_with (first | (go_at_call 22; refine (an_any _ _).mono ?_; rintro e w' ⟨rfl, rfl⟩) | (go_at_call 24; refine (isspace_any _ _).mono ?_; rintro e w' ⟨rfl, rfl⟩))
                                    go_ret2
                                    exact ⟨0, x, ret_two (by first | omega | rfl) (by first | omega | rfl), HO, rfl⟩
                              · have h62 := h.1
                                have a1 := (tnb h.1).2; have a2 := (tnb h.2.1).2; have a3 := (tnb h.2.2.1).2; have a4 := h.2.2.2
                                clear h
                                have HX : Hid (∀ e : Nat, (0, fromGt n f x) = (0, e) → IsTag n f 0 e) := Lib.hid (fun e he => (HLINK x).out (HSK.out x (.stop x hxl HST.out)) 0 e (by rw [if_neg (by omega), if_neg (by omega), if_neg (fun h => h62 h.2)]; exact he))
                                clear h62
                                by_cases hjx : i + 1 < x
                                · go_wp2_with (first | (go_at_call 22; refine (an_any _ _).mono ?_; rintro e w' ⟨rfl, rfl⟩) | (go_at_call 24; refine (isspace_any _ _).mono ?_; rintro e w' ⟨rfl, rfl⟩))
                                  refine (indexByte_any _ (n - x) _ (fun q => f (x + q)) 62 w B (by exact HCUT x (by omega)) (by omega)).mono ?_
                                  rintro e w' ⟨rfl, rfl⟩
                                  have hsh := scan_shift (isB 62) n f (i := x) (by omega)
                                  by_cases hk : scan (isB 62) (n - x) (fun q => f (x + q)) 0 < n - x
                                  · rw [if_pos hk]
                                    generalize scan (isB 62) (n - x) (fun q => f (x + q)) 0 = k at hk hsh
                                    have HO : Hid (IsTag n f 0 (x + k + 1)) := Lib.hid (by have := (HX.out _ rfl); rw [fromGt, if_pos (by omega), hsh] at this; exact this)
                                    clear hsh
                                    go_wp2_with (first | (go_at_call 22; refine (an_any _ _).mono ?_; rintro e w' ⟨rfl, rfl⟩) | (go_at_call 24; refine (isspace_any _ _).mono ?_; rintro e w' ⟨rfl, rfl⟩))
                                    go_ret2
                                    exact ⟨0, x + k + 1, ret_two (by first | omega | rfl) (by first | omega | rfl), HO, rfl⟩
                                  · rw [if_neg hk]
                                    have HO : Hid (IsTag n f 0 x) := Lib.hid (by have := (HX.out _ rfl); rw [fromGt, if_neg (by omega)] at this; exact this)
                                    clear hsh hk
                                    go_wp2_with (first | (go_at_call 22; refine (an_any _ _).mono ?_; rintro e w' ⟨rfl, rfl⟩) | (go_at_call 24; refine (isspace_any _ _).mono ?_; rintro e w' ⟨rfl, rfl⟩))
                                    go_ret2
                                    exact ⟨0, x, ret_two (by first | omega | rfl) (by first | omega | rfl), HO, rfl⟩
                                · go_wp2_with (first | (go_at_call 22; refine (an_any _ _).mono ?_; rintro e w' ⟨rfl, rfl⟩) | (go_at_call 24; refine (isspace_any _ _).mono ?_; rintro e w' ⟨rfl, rfl⟩))
                                  refine (indexByte_any _ (n - x) _ (fun q => f (x + q)) 62 w B (by exact HCUT x (by omega)) (by omega)).mono ?_
                                  rintro e w' ⟨rfl, rfl⟩
                                  have hsh := scan_shift (isB 62) n f (i := x) (by omega)
                                  by_cases hk : scan (isB 62) (n - x) (fun q => f (x + q)) 0 < n - x
                                  · rw [if_pos hk]
                                    generalize scan (isB 62) (n - x) (fun q => f (x + q)) 0 = k at hk hsh
                                    have HO : Hid (IsTag n f 0 (x + k + 1)) := Lib.hid (by have := (HX.out _ rfl); rw [fromGt, if_pos (by omega), hsh] at this; exact this)
                                    clear hsh
                                    go_wp2_with (first | (go_at_call 22; refine (an_any _ _).mono ?_; rintro e w' ⟨rfl, rfl⟩) | (go_at_call 24; refine (isspace_any _ _).mono ?_; rintro e w' ⟨rfl, rfl⟩))
                                    go_ret2
                                    exact ⟨0, x + k + 1, ret_two (by first | omega | rfl) (by first | omega | rfl), HO, rfl⟩
                                  · rw [if_neg hk]
                                    have HO : Hid (IsTag n f 0 x) := Lib.hid (by have := (HX.out _ rfl); rw [fromGt, if_neg (by omega)] at this; exact this)
                                    clear hsh hk
                                    go_wp2_with (first | (go_at_call 22; refine (an_any _ _).mono ?_; rintro e w' ⟨rfl, rfl⟩) | (go_at_call 24; refine (isspace_any _ _).mono ?_; rintro e w' ⟨rfl, rfl⟩))
                                    go_ret2
                                    exact ⟨0, x, ret_two (by first | omega | rfl) (by first | omega | rfl), HO, rfl⟩
                            · have hl' : lst (f x) = false := by simpa using hl
                              have HSK' : Hid (∀ r, SkipTo n f (x + 1) r → SkipTo n f (i + 1) r) := Lib.hid (fun r hr => HSK.out r (.step x r hxl h92 hl' hr))
                              have hne : f x ≠ 62 ∧ f x ≠ 39 ∧ f x ≠ 34 ∧ spc (f x) = false := by
                                simp only [lst, Bool.or_eq_false_iff, decide_eq_false_iff_not] at hl'
                                exact ⟨hl'.1.1.1, hl'.1.1.2, hl'.1.2, hl'.2⟩
                              have a1 := (tnb hne.1).2; have a2 := (tnb hne.2.1).2; have a3 := (tnb hne.2.2.1).2; have a4 := hne.2.2.2
                              clear hl hl' h92 hne
                              go_wp2_with (first | (go_at_call 22; refine (an_any _ _).mono ?_; rintro e w' ⟨rfl, rfl⟩) | (go_at_call 24; refine (isspace_any _ _).mono ?_; rintro e w' ⟨rfl, rfl⟩))
                              go_round
                              case rel => exact ⟨x + 1, HSK', by omega, by omega, by go_num⟩
                              case measure => simp [intOf]; omega
                        · have HO := Lib.hid ((HLINK x).out (HSK.out x (.over x (by omega))) 1 0 (by rw [if_neg (by omega), if_pos (by omega)]))
                          go_wp2_with (first | (go_at_call 22; refine (an_any _ _).mono ?_; rintro e w' ⟨rfl, rfl⟩) | (go_at_call 24; refine (isspace_any _ _).mono ?_; rintro e w' ⟨rfl, rfl⟩))
                          go_ret2
                          exact ⟨1, 0, ret_two (by first | omega | rfl) (by first | omega | rfl), HO, rfl⟩
                    · obtain rfl : n = i + 1 := by omega
                      obtain ⟨r0, hr0⟩ := skip_total (i + 1) f (i + 1) (i + 1) (by omega)
                      have HO0 := Lib.hid ((HLINK r0).out hr0 0 (i + 1) (by rw [if_pos (by omega)]))
                      clear hr0
                      have e10 : ((i : Int) + 1 : Int) = ((i + 1 : Nat) : Int) := by omega
                      clear e10
                      by_cases hcn : cap = i + 1
                      · go_wp2_with (first | (go_at_call 22; refine (an_any _ _).mono ?_; rintro e w' ⟨rfl, rfl⟩) | (go_at_call 24; refine (isspace_any _ _).mono ?_; rintro e w' ⟨rfl, rfl⟩))
                        refine (indexByte_any _ 0 _ (fun q => f (i + 1 + q)) 62 w B (by have t := (HEND1 hcn).out; rw [hcn, Nat.sub_self] at t; exact t) (by omega)).mono ?_
                        rintro e w' ⟨rfl, rfl⟩
                        rw [scan_end (Nat.le_refl 0), if_neg (by omega)]
                        have HO : Hid (IsTag (i + 1) f 0 (i + 1)) := Lib.hid (HO0.out)
                        go_wp2_with (first | (go_at_call 22; refine (an_any _ _).mono ?_; rintro e w' ⟨rfl, rfl⟩) | (go_at_call 24; refine (isspace_any _ _).mono ?_; rintro e w' ⟨rfl, rfl⟩))
                        go_ret2
                        exact ⟨0, i + 1, ret_two (by first | omega | rfl) (by first | omega | rfl), HO, rfl⟩
                      · go_wp2_with (first | (go_at_call 22; refine (an_any _ _).mono ?_; rintro e w' ⟨rfl, rfl⟩) | (go_at_call 24; refine (isspace_any _ _).mono ?_; rintro e w' ⟨rfl, rfl⟩))
                        refine (indexByte_any _ 0 _ (fun q => f (i + 1 + q)) 62 w B (by exact HEND2 hcn) (by omega)).mono ?_
                        rintro e w' ⟨rfl, rfl⟩
                        rw [scan_end (Nat.le_refl 0), if_neg (by omega)]
                        have HO : Hid (IsTag (i + 1) f 0 (i + 1)) := Lib.hid (HO0.out)
                        go_wp2_with (first | (go_at_call 22; refine (an_any _ _).mono ?_; rintro e w' ⟨rfl, rfl⟩) | (go_at_call 24; refine (isspace_any _ _).mono ?_; rintro e w' ⟨rfl, rfl⟩))
                        go_ret2
                        exact ⟨0, i + 1, ret_two (by first | omega | rfl) (by first | omega | rfl), HO, rfl⟩
                  · have HT := Lib.hid (tag_plain (n := n) (f := f) HB3.out HB0.out HWS.out HM.out (fun h => hi2 (by have := h.1; rw [HFIN.out] at this; exact this)))
                    clear h58
                    exact absurd hi4 hi2
                · have e58 := (tnb h58).2
                  have HT := Lib.hid (tag_plain (n := n) (f := f) HB3.out HB0.out HWS.out HM.out (fun h => h58 (by have := h.2.2; rw [HFIN.out] at this; exact this)))
                  clear h58
                  by_cases hi2 : 2 < i
                  · go_wp2_with (first | (go_at_call 22; refine (an_any _ _).mono ?_; rintro e w' ⟨rfl, rfl⟩) | (go_at_call 24; refine (isspace_any _ _).mono ?_; rintro e w' ⟨rfl, rfl⟩))
                    refine (indexByte_any _ (n - i) _ (fun q => f (i + q)) 62 w B (by exact HCUT i (by omega)) (by omega)).mono ?_
                    rintro e w' ⟨rfl, rfl⟩
                    have hsh := scan_shift (isB 62) n f (i := i) (by omega)
                    by_cases hk : scan (isB 62) (n - i) (fun q => f (i + q)) 0 < n - i
                    · rw [if_pos hk]
                      generalize scan (isB 62) (n - i) (fun q => f (i + q)) 0 = k at hk hsh
                      have HO : Hid (IsTag n f 0 (i + k + 1)) := Lib.hid (by have := (by have := HT.out; rw [HFIN.out] at this; exact this); rw [fromGt, if_pos (by omega), hsh] at this; exact this)
                      clear hsh
                      go_wp2_with (first | (go_at_call 22; refine (an_any _ _).mono ?_; rintro e w' ⟨rfl, rfl⟩) | (go_at_call 24; refine (isspace_any _ _).mono ?_; rintro e w' ⟨rfl, rfl⟩))
                      go_ret2
                      exact ⟨0, i + k + 1, ret_two (by first | omega | rfl) (by first | omega | rfl), HO, rfl⟩
                    · rw [if_neg hk]
                      have HO : Hid (IsTag n f 0 i) := Lib.hid (by have := (by have := HT.out; rw [HFIN.out] at this; exact this); rw [fromGt, if_neg (by omega)] at this; exact this)
                      clear hsh hk
                      go_wp2_with (first | (go_at_call 22; refine (an_any _ _).mono ?_; rintro e w' ⟨rfl, rfl⟩) | (go_at_call 24; refine (isspace_any _ _).mono ?_; rintro e w' ⟨rfl, rfl⟩))
                      go_ret2
                      exact ⟨0, i, ret_two (by first | omega | rfl) (by first | omega | rfl), HO, rfl⟩
                  · exact absurd hi4 hi2
            · obtain rfl : i = n := by omega
              have HM : Hid (mailHere i f (tag1 i f) = 0) := Lib.hid (by rw [HFIN.out]; unfold mailHere; rw [if_neg (fun h => hil h.1)])
              have HT := Lib.hid (tag_plain (n := i) (f := f) HB3.out HB0.out HWS.out HM.out (fun h => by have := h.2.1; rw [HFIN.out] at this; omega))
              by_cases hcn : cap = i
              · go_wp2_with (first | (go_at_call 22; refine (an_any _ _).mono ?_; rintro e w' ⟨rfl, rfl⟩) | (go_at_call 24; refine (isspace_any _ _).mono ?_; rintro e w' ⟨rfl, rfl⟩))
                refine (indexByte_any _ 0 _ (fun q => f (i + q)) 62 w B (by have t := (HEND1 hcn).out; rw [hcn, Nat.sub_self] at t; exact t) (by omega)).mono ?_
                rintro e w' ⟨rfl, rfl⟩
                rw [scan_end (Nat.le_refl 0), if_neg (by omega)]
                have HO : Hid (IsTag i f 0 i) := Lib.hid (by have := HT.out; rw [HFIN.out, fromGt, scan_end (Nat.le_refl i), if_neg (by omega)] at this; exact this)
                go_wp2_with (first | (go_at_call 22; refine (an_any _ _).mono ?_; rintro e w' ⟨rfl, rfl⟩) | (go_at_call 24; refine (isspace_any _ _).mono ?_; rintro e w' ⟨rfl, rfl⟩))
                go_ret2
                exact ⟨0, i, ret_two (by first | omega | rfl) (by first | omega | rfl), HO, rfl⟩
              · go_wp2_with (first | (go_at_call 22; refine (an_any _ _).mono ?_; rintro e w' ⟨rfl, rfl⟩) | (go_at_call 24; refine (isspace_any _ _).mono ?_; rintro e w' ⟨rfl, rfl⟩))
                refine (indexByte_any _ 0 _ (fun q => f (i + q)) 62 w B (by exact HEND2 hcn) (by omega)).mono ?_
                rintro e w' ⟨rfl, rfl⟩
                rw [scan_end (Nat.le_refl 0), if_neg (by omega)]
                have HO : Hid (IsTag i f 0 i) := Lib.hid (by have := HT.out; rw [HFIN.out, fromGt, scan_end (Nat.le_refl i), if_neg (by omega)] at this; exact this)
                go_wp2_with (first | (go_at_call 22; refine (an_any _ _).mono ?_; rintro e w' ⟨rfl, rfl⟩) | (go_at_call 24; refine (isspace_any _ _).mono ?_; rintro e w' ⟨rfl, rfl⟩))
                go_ret2
                exact ⟨0, i, ret_two (by first | omega | rfl) (by first | omega | rfl), HO, rfl⟩
      · have hw' : wch (f 2) = false := by simpa using hw
        have HO := Lib.hid (tag_noname (n := n) (f := f) HB3.out HB0.out (by rw [HT0.out]; exact hw'))
        clear hw
        go_wp2_with (first | (go_at_call 22; refine (an_any _ _).mono ?_; rintro e w' ⟨rfl, rfl⟩) | (go_at_call 24; refine (isspace_any _ _).mono ?_; rintro e w' ⟨rfl, rfl⟩))
        go_ret2
        exact ⟨0, 0, ret_two (by first | omega | rfl) (by first | omega | rfl), HO, rfl⟩
  · have HO := Lib.hid (tag_not (n := n) (f := f) HB3.out h0)
    have d0 := (tnb h0).1
    clear h0
    go_enter Try.func21, Try.ntmps21
    go_wp2
    go_ret2
    exact ⟨0, 0, ret_two (by first | omega | rfl) (by first | omega | rfl), HO, rfl⟩
end Go.Proofs.Ytkkkdcfidoecnaa
