/- Lines: the prefix of code, of a definition, an empty line (the package). -/
import Derived.Test.YtcelfpgkknfnhaaGreatDoorL1
namespace Go.Proofs.YtcelfpgkknfnhaaGreatDoor
open Go.RowKit
set_option linter.unusedVariables false

set_option maxHeartbeats 2000000 in
theorem codePrefix_any (q : Option Addr) (A : Option Addr) (n cap : Nat) (f : Nat → Int) (w : World) (B : Nat) (h : RB w B A n cap f) (hn : n ≤ 100000) :
    Calls Tryz.prog 37 #[.pointer q, .slice A n cap] w fun e w' => e = .returned (.int .i64 (codeF n f)) ∧ w = w' := by
  rcases Nat.eq_zero_or_pos n with rfl | hn0
  · clear h
    go_enter Tryz.func37, Tryz.ntmps37
    go_wp2
    go_ret
    exact ⟨rfl, rfl⟩
  obtain ⟨b, off, rfl, hB, hcell⟩ := h.2.2.2 (by omega)
  have hc0 : w.cell? ⟨b, off, none⟩ = some (.int .u8 (f 0)) := hcell 0 (by omega)
  by_cases h9 : f 0 = 9
  · have HO : Hid (codeF n f = 1) := Lib.hid (by unfold codeF; rw [if_pos ⟨by omega, h9⟩])
    have a1 := (leb h9).2
    clear h hcell h9
    go_enter Tryz.func37, Tryz.ntmps37
    go_wp2
    go_ret
    exact ⟨retl (by rw [HO.out]; rfl), rfl⟩
  have a0 := (lnb h9).2
  by_cases h4 : n < 4
  · have HO : Hid (codeF n f = 0) := Lib.hid (by unfold codeF; rw [if_neg (fun h => h9 h.2), if_neg (fun h => by omega)])
    clear h hcell h9
    go_enter Tryz.func37, Tryz.ntmps37
    go_wp2
    go_ret
    exact ⟨retl (by rw [HO.out]; rfl), rfl⟩
  have hc1 := hcell 1 (by omega)
  have hc2 := hcell 2 (by omega)
  have hc3 := hcell 3 (by omega)
  by_cases hb : f 0 = 32 ∧ f 1 = 32 ∧ f 2 = 32 ∧ f 3 = 32
  · have HO : Hid (codeF n f = 4) := Lib.hid (by unfold codeF; rw [if_neg (fun h => h9 h.2), if_pos ⟨by omega, hb⟩])
    have b0 := (leb hb.1).2; have b1 := (leb hb.2.1).2; have b2 := (leb hb.2.2.1).2; have b3 := (leb hb.2.2.2).2
    clear h hcell h9 hb
    go_enter Tryz.func37, Tryz.ntmps37
    go_wp2
    go_ret
    exact ⟨retl (by rw [HO.out]; rfl), rfl⟩
  · have HO : Hid (codeF n f = 0) := Lib.hid (by unfold codeF; rw [if_neg (fun h => h9 h.2), if_neg (fun h => hb h.2)])
    have h4w : f 0 ≠ 32 ∨ (f 0 = 32 ∧ f 1 ≠ 32) ∨ (f 0 = 32 ∧ f 1 = 32 ∧ f 2 ≠ 32) ∨ (f 0 = 32 ∧ f 1 = 32 ∧ f 2 = 32 ∧ f 3 ≠ 32) := by omega
    clear h hcell h9 hb
    rcases h4w with h | ⟨h, g⟩ | ⟨h, g, k⟩ | ⟨h, g, k, l⟩
    · have b0 := (lnb h).2
      clear h
      go_enter Tryz.func37, Tryz.ntmps37
      go_wp2
      go_ret
      exact ⟨retl (by rw [HO.out]; rfl), rfl⟩
    · have b0 := (leb h).2; have b1 := (lnb g).2
      clear h g
      go_enter Tryz.func37, Tryz.ntmps37
      go_wp2
      go_ret
      exact ⟨retl (by rw [HO.out]; rfl), rfl⟩
    · have b0 := (leb h).2; have b1 := (leb g).2; have b2 := (lnb k).2
      clear h g k
      go_enter Tryz.func37, Tryz.ntmps37
      go_wp2
      go_ret
      exact ⟨retl (by rw [HO.out]; rfl), rfl⟩
    · have b0 := (leb h).2; have b1 := (leb g).2; have b2 := (leb k).2; have b3 := (lnb l).2
      clear h g k l
      go_enter Tryz.func37, Tryz.ntmps37
      go_wp2
      go_ret
      exact ⟨retl (by rw [HO.out]; rfl), rfl⟩

/-- An empty line: blanks and tabs, and the line feed. -/
def noWs (c : Int) : Bool := decide (c ≠ 32 ∧ c ≠ 9)
def emptyF (n : Nat) (f : Nat → Int) : Nat := if scan noWs n f 0 < n then (if f (scan noWs n f 0) = 10 then scan noWs n f 0 + 1 else 0) else n
set_option maxHeartbeats 2000000 in
theorem isEmpty_any (q : Option Addr) (A : Option Addr) (n cap : Nat) (f : Nat → Int) (w : World) (B : Nat) (h : RB w B A n cap f) (hn : n ≤ 100000) :
    Calls Tryz.prog 32 #[.pointer q, .slice A n cap] w fun e w' => e = .returned (.int .i64 (emptyF n f)) ∧ w = w' := by
  have HH := Lib.hid h
  clear h
  rcases Nat.eq_zero_or_pos n with rfl | hn0
  · go_enter Tryz.func32, Tryz.ntmps32
    go_wp2
    go_ret
    exact ⟨rfl, rfl⟩
  go_enter Tryz.func32, Tryz.ntmps32
  go_wp2
  go_loop [5] (fun iv => ∃ i : Nat, Hid (scan noWs n f 0 = scan noWs n f i) ∧ i ≤ n ∧ iv = .int .i64 i) (fun iv => n - (intOf iv).toNat)
  case atStart => exact ⟨0, Lib.hid rfl, by omega, rfl⟩
  case round =>
    obtain ⟨i, HS, hi1, rfl⟩ := hrel
    by_cases hil : i < n
    · obtain ⟨b, off, rfl, hB, hcell⟩ := HH.out.2.2.2 (by omega)
      have k0 := hcell i hil
      clear hcell
      by_cases h10 : f i = 10
      · have HE := Lib.hid (HS.out.trans (scan_hit (by unfold noWs; rw [h10]; decide)))
        have HO : Hid (emptyF n f = i + 1) := Lib.hid (by unfold emptyF; rw [HE.out, if_pos hil, if_pos h10])
        have a1 := (leb h10).1; have a2 := (leb h10).2
        clear h10
        go_wp2
        go_ret
        exact ⟨retl (by rw [HO.out]; omega), rfl⟩
      · have a1 := (lnb h10).1; have a2 := (lnb h10).2
        by_cases h32 : f i = 32
        · have HS' := Lib.hid (HS.out.trans (scan_go (by omega) (by unfold noWs; rw [h32]; decide)))
          have a3 := (leb h32).1
          clear h10 h32
          go_wp2
          go_round
          case rel => exact ⟨i + 1, HS', by omega, by go_num⟩
          case measure => simp [intOf]; omega
        · have a3 := (lnb h32).1
          by_cases h9 : f i = 9
          · have HS' := Lib.hid (HS.out.trans (scan_go (by omega) (by unfold noWs; rw [h9]; decide)))
            have a4 := (leb h9).1
            clear h10 h32 h9
            go_wp2
            go_round
            case rel => exact ⟨i + 1, HS', by omega, by go_num⟩
            case measure => simp [intOf]; omega
          · have HE := Lib.hid (HS.out.trans (scan_hit (by unfold noWs; simpa using ⟨h32, h9⟩)))
            have HO : Hid (emptyF n f = 0) := Lib.hid (by unfold emptyF; rw [HE.out, if_pos hil, if_neg h10])
            have a4 := (lnb h9).1
            clear h10 h32 h9
            go_wp2
            go_ret
            exact ⟨retl (by rw [HO.out]; rfl), rfl⟩
    · have HE := Lib.hid (HS.out.trans (scan_end (by omega)))
      have HO : Hid (emptyF n f = n) := Lib.hid (by unfold emptyF; rw [HE.out, if_neg hil])
      have hin : n ≤ i := by omega
      clear hil
      go_wp2
      go_ret
      exact ⟨retl (by rw [HO.out]; omega), rfl⟩
end Go.Proofs.YtcelfpgkknfnhaaGreatDoor
