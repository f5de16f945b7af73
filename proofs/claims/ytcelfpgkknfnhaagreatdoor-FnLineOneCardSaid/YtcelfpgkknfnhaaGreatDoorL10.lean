/- Lines: the prefixes of code and of an entry with a number (the reference). -/
import Derived.Test.YtcelfpgkknfnhaaGreatDoorL8
namespace Go.Proofs.YtcelfpgkknfnhaaGreatDoor
open Go.RowKit
set_option linter.unusedVariables false

theorem bl4 {n : Nat} {f : Nat → Int} : blA n f 4 = 4 ↔ 4 ≤ n ∧ f 0 = 32 ∧ f 1 = 32 ∧ f 2 = 32 ∧ f 3 = 32 := by
  unfold blA
  constructor
  · intro h
    obtain ⟨a, b, c, d⟩ := scan_spec noBl f (Nat.zero_le (min n 4))
    rw [h] at b c
    have z : ∀ j, j < 4 → f j = 32 := fun j hj => by
      have := c j (by omega) hj
      unfold noBl at this
      simpa using this
    exact ⟨by omega, z 0 (by omega), z 1 (by omega), z 2 (by omega), z 3 (by omega)⟩
  · rintro ⟨h, a, b, c, d⟩
    rw [show min n 4 = 4 from by omega]
    refine scan_full (by omega) fun j _ hj => ?_
    rcases j with _ | _ | _ | _ | j
    · simp [noBl, a]
    · simp [noBl, b]
    · simp [noBl, c]
    · simp [noBl, d]
    · omega
theorem blA_le (n : Nat) (f : Nat → Int) (k : Nat) : blA n f k ≤ n ∧ blA n f k ≤ k := by
  have := (scan_spec noBl f (Nat.zero_le (min n k))).2.1
  unfold blA
  omega

set_option maxHeartbeats 1000000 in
theorem codeSpec_any (A : Option Addr) (n cap : Nat) (f : Nat → Int) (w : World) (B : Nat) (h : RB w B A n cap f) (hn0 : 0 < n) (hn : n ≤ 100000) :
    Calls Tryz.prog 11 #[.slice A n cap] w fun e w' => e = .returned (.int .i64 (codeF n f)) ∧ w = w' := by
  have HH := Lib.hid h
  obtain ⟨b, off, rfl, hB, hcell⟩ := h.2.2.2 hn0
  have k0 : w.cell? ⟨b, off, none⟩ = some (.int .u8 (f 0)) := hcell 0 hn0
  clear h hcell
  by_cases h9 : f 0 = 9
  · have HO : Hid (codeF n f = 1) := Lib.hid (by unfold codeF; rw [if_pos ⟨hn0, h9⟩])
    have a1 := (leb h9).2
    clear h9
    go_enter Tryz.func11, Tryz.ntmps11
    go_wp2_with fail
    go_ret
    exact ⟨retl (by rw [HO.out]; rfl), rfl⟩
  · have a1 := (lnb h9).2
    have HO : Hid (codeF n f = if blA n f 4 = 4 then 4 else 0) := Lib.hid (by
      unfold codeF; rw [if_neg (fun h => h9 h.2)]
      by_cases e : blA n f 4 = 4
      · rw [if_pos (bl4.1 e), if_pos e]
      · rw [if_neg (fun h => e (bl4.2 h)), if_neg e])
    clear h9
    go_enter Tryz.func11, Tryz.ntmps11
    go_wp2_with fail
    refine (blanks_any _ n cap f 4 w B HH.out (by omega) hn).mono ?_
    rintro e w' ⟨rfl, rfl⟩
    generalize blA n f 4 = k at HO
    go_wp2_with fail
    all_goals
      go_ret
      exact ⟨retl (by rw [HO.out]; simp at *; first | (rw [if_pos (by omega)]; rfl) | (rw [if_neg (by omega)]; rfl)), rfl⟩

set_option maxHeartbeats 4000000 in
theorem numberSpec_any (A : Option Addr) (n cap : Nat) (f : Nat → Int) (w : World) (B : Nat) (h : RB w B A n cap f) (hn : n ≤ 100000) :
    Calls Tryz.prog 13 #[.slice A n cap] w fun e w' => e = .returned (.int .i64 (numF n f)) ∧ w = w' := by
  have HH := Lib.hid h
  have hbl := blA_le n f 3
  clear h
  go_enter Tryz.func13, Tryz.ntmps13
  go_wp2_with fail
  refine (blanks_any A n cap f 3 w B HH.out (by omega) hn).mono ?_
  rintro e w' ⟨rfl, rfl⟩
  have HN : Hid (numF n f = numG n f (blA n f 3) (scan noDg n f (blA n f 3))) := Lib.hid rfl
  generalize blA n f 3 = i at HN hbl
  obtain ⟨hi1, hi2⟩ := hbl
  go_upto_block 0 with fail
  go_cut [3] (fun iv wx => ∃ j : Nat, Hid (scan noDg n f i = j) ∧ i ≤ j ∧ j ≤ n ∧ iv = .int .i64 j ∧ w = wx)
  case first =>
    go_wp2_with fail
    go_loop [3] (fun iv => ∃ j : Nat, Hid (scan noDg n f i = scan noDg n f j) ∧ i ≤ j ∧ j ≤ n ∧ iv = .int .i64 j) (fun iv => n - (intOf iv).toNat)
    case atStart => exact ⟨i, Lib.hid rfl, by omega, by omega, rfl⟩
    case round =>
      obtain ⟨j, HS, hj1, hj2, rfl⟩ := hrel
      by_cases hil : j < n
      · obtain ⟨b, off, rfl, hB, hcell⟩ := HH.out.2.2.2 (by omega)
        have k0 := hcell j hil
        clear hcell
        go_wp2
        all_goals first
          | (go_meet; exact ⟨j, Lib.hid (HS.out.trans (by first | exact scan_end (by omega) | exact scan_hit (by unfold noDg; simp at *; omega))), by omega, by omega, rfl, rfl⟩)
          | (go_round; case rel => exact ⟨j + 1, Lib.hid (HS.out.trans (scan_go (by omega) (by unfold noDg; simp at *; omega))), by omega, by omega, by go_num⟩
             case measure => simp [intOf]; omega)
      · go_wp2
        all_goals (go_meet; exact ⟨j, Lib.hid (HS.out.trans (scan_end (by omega))), by omega, by omega, rfl, rfl⟩)
  case rest =>
    obtain ⟨j, HD, hj1, hj2, rfl, rfl⟩ := hcut
    have HO : Hid (numF n f = numG n f i j) := Lib.hid (by rw [HN.out, HD.out])
    by_cases hji : j = i
    · subst hji
      go_wp2
      go_ret
      exact ⟨retl (by rw [HO.out]; unfold numG; rw [if_pos (.inl rfl)]; rfl), rfl⟩
    have hb : ((j : Int) == (i : Int)) = false := by simp; omega
    by_cases hj1 : j + 1 < n
    · obtain ⟨b, off, rfl, hB, hcell⟩ := HH.out.2.2.2 (by omega)
      have k0 := hcell j (by omega)
      have k1 := hcell (j + 1) hj1
      clear hcell
      go_wp2
      all_goals
        go_ret
        exact ⟨retl (by rw [HO.out]; unfold numG; rw [if_neg (by omega)]; simp at *; first | (rw [if_pos (by omega)]; omega) | (rw [if_neg (by omega)]; rfl)), rfl⟩
    · go_wp2
      go_ret
      exact ⟨retl (by rw [HO.out]; unfold numG; rw [if_pos (by omega)]; rfl), rfl⟩
end Go.Proofs.YtcelfpgkknfnhaaGreatDoor
