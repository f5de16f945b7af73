/- Lines: rules (the reference). -/
import Derived.Test.YtcelfpgkknfnhaaGreatDoorL10
namespace Go.Proofs.YtcelfpgkknfnhaaGreatDoor
open Go.RowKit
set_option linter.unusedVariables false

set_option maxHeartbeats 4000000 in
theorem ruleSpec_any (A : Option Addr) (n cap : Nat) (f : Nat → Int) (le : Nat) (w : World) (B : Nat) (h : RB w B A n cap f) (he : LEnd n f le) (hn : n ≤ 100000) :
    Calls Tryz.prog 14 #[.slice A n cap] w fun e w' => e = .returned (.bool (ruleF le f)) ∧ w = w' := by
  have HH := Lib.hid h
  have hle := he.1
  have hcap := h.cap
  have hm := h.2.1
  unfold maxLen at hm
  obtain ⟨b, off, rfl, hB, hcell⟩ := h.2.2.2 (by omega)
  have HC := Lib.hid hcell
  have HL : Hid (scan (isB 10) n f 0 = le) := Lib.hid (scan_eq (Nat.zero_le _) hle (fun j _ hj => by unfold isB; simpa using he.2.2 j hj) (by unfold isB; simpa using he.2.1))
  have HU := Lib.hid (h.upto (Nat.le_of_lt hle))
  have HE := Lib.hid (blA_le le f 3)
  clear h hcell he
  go_enter Tryz.func14, Tryz.ntmps14
  go_wp2_with fail
  refine (lineEnd_any _ n cap f w B HH.out hn).mono ?_
  rintro e w' ⟨rfl, rfl⟩
  rw [HL.out]
  go_wp2_with fail
  refine (blanks_any _ le cap f 3 w B HU.out (by omega) (by omega)).mono ?_
  rintro e w' ⟨rfl, rfl⟩
  have HO : Hid (ruleF le f = ruleG le f (blA le f 3)) := Lib.hid rfl
  generalize blA le f 3 = i at HO HE
  obtain ⟨hi1, hi2⟩ := HE.out
  by_cases hil : i < le
  case neg =>
    have e0 : ((le : Int) - (i : Int) == 0) = true := by simp; omega
    have HI : Hid (i = le) := Lib.hid (by omega)
    go_wp2_with fail
    go_ret
    exact ⟨ret_bool (by rw [HO.out]; unfold ruleG; rw [if_neg (fun h => by omega)]), rfl⟩
  have e0 : ((le : Int) - (i : Int) == 0) = false := by simp; omega
  have k0 := HC.out i (by omega)
  go_upto_region 3 with fail
  go_cut [35] (fun tv wx => tv = .bool (!markF (f i)) ∧ w = wx)
  case first =>
    go_wp2
    all_goals
      go_meet
      exact ⟨by congr 1; unfold markF; rw [Bool.eq_iff_iff]; simp at *; omega, rfl⟩
  case rest =>
    obtain ⟨rfl, rfl⟩ := hcut
    cases hm : markF (f i)
    · have HM2 := Lib.hid hm
      clear hm
      go_wp2
      go_ret
      exact ⟨ret_bool (by rw [HO.out]; unfold ruleG; rw [HM2.out, if_neg (by simp)]), rfl⟩
    have HO2 : Hid (ruleF le f = rl (f i) f le i 0) := Lib.hid (by rw [HO.out]; unfold ruleG; rw [if_pos ⟨hil, hm⟩])
    clear hm HO
    go_wp2
    go_loop [2, 4, 38] (fun rv mv kv => ∃ k m : Nat, Hid (rl (f i) f le i 0 = rl (f i) f le (i + k) m) ∧ i + k ≤ le ∧ m ≤ k ∧ rv = .bool false ∧ mv = .int .i64 m ∧ kv = .int .i64 k) (fun _ _ kv => n - (intOf kv).toNat)
    case atStart => exact ⟨0, 0, Lib.hid rfl, by omega, by omega, rfl, rfl, rfl⟩
    case round =>
      obtain ⟨k, m, HS, hk1, hm1, rfl, rfl, rfl⟩ := hrel
      by_cases hkl : i + k < le
      · have kj : w.cell? ⟨b, off + i + k, none⟩ = some (.int .u8 (f (i + k))) := by rw [Nat.add_assoc]; exact HC.out (i + k) (by omega)
        go_wp2
        all_goals first
          | (go_ret; exact ⟨ret_bool (by rw [HO2.out, HS.out, rl_no hkl (by simp at *; omega) (by simp at *; omega)]), rfl⟩)
          | (go_round; case rel => first | exact ⟨k + 1, m + 1, Lib.hid (HS.out.trans (rl_mark hkl (by simp at *; omega))), by omega, by omega, by rfl, by go_num, by go_num⟩ | exact ⟨k + 1, m, Lib.hid (HS.out.trans (rl_blank hkl (by simp at *; omega) (by simp at *; omega))), by omega, by omega, by rfl, by rfl, by go_num⟩
             case measure => simp [intOf]; omega)
      · go_wp2
        all_goals
          go_ret
          exact ⟨ret_bool (by rw [HO2.out, HS.out, rl_end (by omega)]; simp at *; try omega), rfl⟩
end Go.Proofs.YtcelfpgkknfnhaaGreatDoor
