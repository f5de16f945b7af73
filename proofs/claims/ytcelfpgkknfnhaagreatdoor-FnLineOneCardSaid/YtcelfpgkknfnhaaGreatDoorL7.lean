/- Lines: the prefix of an entry with a number (the package). -/
import Derived.Test.YtcelfpgkknfnhaaGreatDoorL2
import Derived.Deep.DeepCutAuto
import Derived.Deep.CutBlock
namespace Go.Proofs.YtcelfpgkknfnhaaGreatDoor
open Go.RowKit
set_option linter.unusedVariables false
theorem int_lt {a b : Nat} (h : a < b) : decide ((a : Int) < (b : Int)) = true := by simp; omega

/-- Behind i blanks the digits end at j: what the prefix is. -/
def numG (n : Nat) (f : Nat → Int) (i j : Nat) : Nat := if j = i ∨ n ≤ j + 1 then 0 else if f j = 46 ∧ (f (j + 1) = 32 ∨ f (j + 1) = 9) then j + 2 else 0
def numF (n : Nat) (f : Nat → Int) : Nat := numG n f (blA n f 3) (scan noDg n f (blA n f 3))
set_option maxHeartbeats 4000000 in
theorem oliPrefix_any (q : Option Addr) (A : Option Addr) (n cap : Nat) (f : Nat → Int) (w : World) (B : Nat) (h : RB w B A n cap f) (hn0 : 0 < n) (hn : n ≤ 100000) :
    Calls Tryz.prog 39 #[.pointer q, .slice A n cap] w fun e w' => e = .returned (.int .i64 (numF n f)) ∧ w = w' := by
  have HH := Lib.hid h
  clear h
  go_enter Tryz.func39, Tryz.ntmps39
  go_upto_block 0 with fail
  go_cut [5] (fun iv wx => ∃ i : Nat, Hid (blA n f 3 = i) ∧ i ≤ n ∧ i ≤ 3 ∧ iv = .int .i64 i ∧ w = wx)
  case first =>
    go_wp2_with fail
    go_loop [5] (fun iv => ∃ i : Nat, Hid (blA n f 3 = scan noBl (min n 3) f i) ∧ i ≤ n ∧ i ≤ 3 ∧ iv = .int .i64 i) (fun iv => n - (intOf iv).toNat)
    case atStart => exact ⟨0, Lib.hid rfl, by omega, by omega, rfl⟩
    case round =>
      obtain ⟨i, HS, hi1, hi2, rfl⟩ := hrel
      by_cases hil : i < n
      · obtain ⟨b, off, rfl, hB, hcell⟩ := HH.out.2.2.2 (by omega)
        have k0 := hcell i hil
        clear hcell
        go_wp2
        all_goals first
          | (go_meet; exact ⟨i, Lib.hid (HS.out.trans (by first | exact scan_end (by omega) | exact scan_hit (by unfold noBl; simp at *; omega))), by omega, by omega, rfl, rfl⟩)
          | (go_round; case rel => exact ⟨i + 1, Lib.hid (HS.out.trans (scan_go (by omega) (by unfold noBl; simp at *; omega))), by omega, by omega, by go_num⟩
             case measure => simp [intOf]; omega)
      · go_wp2
        all_goals (go_meet; exact ⟨i, Lib.hid (HS.out.trans (scan_end (by omega))), by omega, by omega, rfl, rfl⟩)
  case rest =>
    obtain ⟨i, HE, hi1, hi2, rfl, rfl⟩ := hcut
    go_upto_block 2 with fail
    go_cut [5] (fun iv wx => ∃ j : Nat, Hid (scan noDg n f i = j) ∧ i ≤ j ∧ j ≤ n ∧ iv = .int .i64 j ∧ w = wx)
    case first =>
      go_wp2_with fail
      go_loop [5] (fun iv => ∃ j : Nat, Hid (scan noDg n f i = scan noDg n f j) ∧ i ≤ j ∧ j ≤ n ∧ iv = .int .i64 j) (fun iv => n - (intOf iv).toNat)
      case atStart => exact ⟨i, Lib.hid rfl, by omega, by omega, rfl⟩
      case round =>
        obtain ⟨j, HS, hj1, hj2, rfl⟩ := hrel
        by_cases hil : j < n
        · obtain ⟨b, off, rfl, hB, hcell⟩ := HH.out.2.2.2 (by omega)
          have k0 := hcell j hil
          clear hcell
          go_wp2
          all_goals first
            | (go_meet; exact ⟨j, Lib.hid (HS.out.trans (by first | exact scan_end (by omega) | exact scan_hit (by unfold noDg; simp at *; omega))), by omega, by omega, rfl, rfl⟩)
            | (go_round; case rel => exact ⟨j + 1, Lib.hid (HS.out.trans (scan_go (by omega) (by unfold noDg; simp at *; omega))), by omega, by omega, by go_num⟩
               case measure => simp [intOf]; omega)
        · go_wp2
          all_goals (go_meet; exact ⟨j, Lib.hid (HS.out.trans (scan_end (by omega))), by omega, by omega, rfl, rfl⟩)
    case rest =>
      obtain ⟨j, HD, hj1, hj2, rfl, rfl⟩ := hcut
      have HO : Hid (numF n f = numG n f i j) := Lib.hid (by unfold numF; rw [HE.out, HD.out])
      by_cases hji : j = i
      · subst hji
        go_wp2
        go_ret
        exact ⟨retl (by rw [HO.out]; unfold numG; rw [if_pos (.inl rfl)]; rfl), rfl⟩
      have hb : ((i : Int) == (j : Int)) = false := by simp; omega
      by_cases hj1 : j + 1 < n
      · obtain ⟨b, off, rfl, hB, hcell⟩ := HH.out.2.2.2 (by omega)
        have k0 := hcell j (by omega)
        have k1 := hcell (j + 1) hj1
        clear hcell
        go_wp2
        all_goals
          go_ret
          exact ⟨retl (by rw [HO.out]; unfold numG; rw [if_neg (by omega)]; simp at *; first | (rw [if_pos (by omega)]; omega) | (rw [if_neg (by omega)]; rfl)), rfl⟩
      · go_wp2
        go_ret
        exact ⟨retl (by rw [HO.out]; unfold numG; rw [if_pos (by omega)]; rfl), rfl⟩
end Go.Proofs.YtcelfpgkknfnhaaGreatDoor
