/- Lines: rules (the package). -/
import Derived.Test.YtcelfpgkknfnhaaGreatDoorL8
namespace Go.Proofs.YtcelfpgkknfnhaaGreatDoor
open Go.RowKit
set_option linter.unusedVariables false

set_option maxHeartbeats 4000000 in
theorem isHRule_any (q : Option Addr) (A : Option Addr) (n cap : Nat) (f : Nat → Int) (le : Nat) (w : World) (B : Nat) (h : RB w B A n cap f) (he : LEnd n f le) (hn : n ≤ 100000) :
    Calls Tryz.prog 33 #[.pointer q, .slice A n cap] w fun e w' => e = .returned (.bool (ruleF le f)) ∧ w = w' := by
  obtain ⟨b, off, rfl, hB, hcell⟩ := h.2.2.2 (by have := he.1; omega)
  have hle := he.1
  have l10 := (leb he.2.1).1
  have l32 : (f le == 32) = false := by rw [he.2.1]; rfl
  have HC := Lib.hid hcell
  have HB := Lib.hid he.2.2
  have H10 := Lib.hid he.2.1
  clear h hcell he
  go_enter Tryz.func33, Tryz.ntmps33
  go_upto_block 0 with fail
  go_cut [5] (fun iv wx => ∃ i : Nat, Hid (blA le f 3 = i) ∧ i ≤ le ∧ i ≤ 3 ∧ iv = .int .i64 i ∧ w = wx)
  case first =>
    go_wp2_with fail
    go_loop [5] (fun iv => ∃ i : Nat, Hid (blA le f 3 = scan noBl (min le 3) f i) ∧ i ≤ le ∧ i ≤ 3 ∧ iv = .int .i64 i) (fun iv => n - (intOf iv).toNat)
    case atStart => exact ⟨0, Lib.hid rfl, by omega, by omega, rfl⟩
    case round =>
      obtain ⟨i, HS, hi1, hi2, rfl⟩ := hrel
      have k0 := HC.out i (by omega)
      by_cases hil : i < le
      · go_wp2
        all_goals first
          | (go_meet; exact ⟨i, Lib.hid (HS.out.trans (by first | exact scan_end (by omega) | exact scan_hit (by unfold noBl; simp at *; omega))), by omega, by omega, rfl, rfl⟩)
          | (go_round; case rel => exact ⟨i + 1, Lib.hid (HS.out.trans (scan_go (by omega) (by unfold noBl; simp at *; omega))), by omega, by omega, by go_num⟩
             case measure => simp [intOf]; omega)
      · obtain rfl : i = le := by omega
        go_wp2
        all_goals (go_meet; exact ⟨i, Lib.hid (HS.out.trans (scan_end (by omega))), by omega, by omega, rfl, rfl⟩)
  case rest =>
    obtain ⟨i, HE, hi1, hi2, rfl, rfl⟩ := hcut
    have HO : Hid (ruleF le f = ruleG le f i) := Lib.hid (by unfold ruleF; rw [HE.out])
    have k0 := HC.out i (by omega)
    go_upto_region 4 with fail
    go_cut [37] (fun tv wx => tv = .bool (!markF (f i)) ∧ w = wx)
    case first =>
      go_wp2
      all_goals
        go_meet
        exact ⟨by congr 1; unfold markF; rw [Bool.eq_iff_iff]; simp at *; omega, rfl⟩
    case rest =>
      obtain ⟨rfl, rfl⟩ := hcut
      have HM : Hid (i < le ∨ markF (f i) = false) := Lib.hid (by
        by_cases e : i < le
        · exact .inl e
        · right
          rw [show i = le from by omega, H10.out]; rfl)
      cases hm : markF (f i)
      · have HM2 := Lib.hid hm
        clear hm
        go_wp2
        go_ret
        exact ⟨ret_bool (by rw [HO.out]; unfold ruleG; rw [HM2.out, if_neg (by simp)]), rfl⟩
      have hil : i < le := by
        rcases HM.out with h | h
        · exact h
        · rw [hm] at h; cases h
      have HO2 : Hid (ruleF le f = rl (f i) f le i 0) := Lib.hid (by rw [HO.out]; unfold ruleG; rw [if_pos ⟨hil, hm⟩])
      clear hm HO HM
      go_wp2
      go_loop [4, 5, 7] (fun rv iv mv => ∃ j m : Nat, Hid (rl (f i) f le i 0 = rl (f i) f le j m) ∧ i ≤ j ∧ j ≤ le ∧ m ≤ j ∧ rv = .bool false ∧ iv = .int .i64 j ∧ mv = .int .i64 m) (fun _ iv _ => n - (intOf iv).toNat)
      case atStart => exact ⟨i, 0, Lib.hid rfl, by omega, by omega, by omega, rfl, rfl, rfl⟩
      case round =>
        obtain ⟨j, m, HS, hj1, hj2, hm1, rfl, rfl, rfl⟩ := hrel
        have kj := HC.out j (by omega)
        by_cases hjl : j < le
        · have a1 := (lnb (HB.out j hjl)).1
          go_wp2
          all_goals first
            | (go_ret; exact ⟨ret_bool (by rw [HO2.out, HS.out, rl_no hjl (by simp at *; omega) (by simp at *; omega)]), rfl⟩)
            | (go_round; case rel => first | exact ⟨_, _, _, ⟨j + 1, m + 1, Lib.hid (HS.out.trans (rl_mark hjl (by simp at *; omega))), by omega, by omega, by omega, by rfl, by go_num, by go_num⟩, rfl, rfl, rfl⟩ | exact ⟨_, _, _, ⟨j + 1, m, Lib.hid (HS.out.trans (rl_blank hjl (by simp at *; omega) (by simp at *; omega))), by omega, by omega, by omega, by rfl, by go_num, by rfl⟩, rfl, rfl, rfl⟩
               case measure => simp [intOf]; omega)
        · obtain rfl : j = le := by omega
          go_wp2
          all_goals
            go_ret
            exact ⟨ret_bool (by rw [HO2.out, HS.out, rl_end (by omega)]; simp at *; try omega), rfl⟩
end Go.Proofs.YtcelfpgkknfnhaaGreatDoor
