/- Lines: how many blanks are ahead, where a run of one character ends, the prefixes of code. -/
import Derived.Test.YtcelfpgkknfnhaaGreatDoorProg
import Derived.Test.YtcelfpgkknfnhaaGreatDoorE1
namespace Go.Proofs.YtcelfpgkknfnhaaGreatDoor
open Go.RowKit
set_option linter.unusedVariables false

/-- No blank; no digit; not the character c. -/
def noBl (c : Int) : Bool := decide (c ≠ 32)
def noDg (c : Int) : Bool := decide (¬ (48 ≤ c ∧ c ≤ 57))
def noCh (x c : Int) : Bool := decide (c ≠ x)
/-- Blanks ahead, k at most. -/
def blA (n : Nat) (f : Nat → Int) (k : Nat) : Nat := scan noBl (min n k) f 0
theorem lnb {a b : Int} (h : a ≠ b) : (a != b) = true ∧ (a == b) = false := ⟨by simpa using h, by simpa using h⟩
theorem leb {a b : Int} (h : a = b) : (a != b) = false ∧ (a == b) = true := ⟨by simpa using h, by simpa using h⟩
theorem retl {a b : Int} (h : a = b) : Ending.returned (.int .i64 a) = .returned (.int .i64 b) := by rw [h]

/-- How many blanks are ahead (the reference). -/
theorem blanks_any (A : Option Addr) (n cap : Nat) (f : Nat → Int) (k : Nat) (w : World) (B : Nat) (h : RB w B A n cap f) (hk : k ≤ 4) (hn : n ≤ 100000) :
    Calls Tryz.prog 28 #[.slice A n cap, .int .i64 k] w fun e w' => e = .returned (.int .i64 (blA n f k)) ∧ w = w' := by
  have HH := Lib.hid h
  clear h
  go_enter Tryz.func28, Tryz.ntmps28
  go_wp2
  go_loop [5] (fun iv => ∃ i : Nat, Hid (blA n f k = scan noBl (min n k) f i) ∧ i ≤ n ∧ i ≤ k ∧ iv = .int .i64 i) (fun iv => n - (intOf iv).toNat)
  case atStart => exact ⟨0, Lib.hid rfl, by omega, by omega, rfl⟩
  case round =>
    obtain ⟨i, HS, hi1, hi2, rfl⟩ := hrel
    by_cases hil : i < n
    · obtain ⟨b, off, rfl, hB, hcell⟩ := HH.out.2.2.2 (by omega)
      have k0 := hcell i hil
      clear hcell
      by_cases hik : i < k
      · by_cases hb : f i = 32
        · have HS' := Lib.hid (HS.out.trans (scan_go (by omega) (by unfold noBl; simpa using hb)))
          have a1 := (leb hb).2
          clear hb
          go_wp2
          go_round
          case rel => exact ⟨i + 1, HS', by omega, by omega, by go_num⟩
          case measure => simp [intOf]; omega
        · have HO := Lib.hid (HS.out.trans (scan_hit (by unfold noBl; simpa using hb)))
          have a1 := (lnb hb).2
          clear hb
          go_wp2
          go_ret
          exact ⟨retl (by rw [HO.out]), rfl⟩
      · have HO := Lib.hid (HS.out.trans (scan_end (by omega)))
        go_wp2
        go_ret
        exact ⟨retl (by rw [HO.out]), rfl⟩
    · have HO := Lib.hid (HS.out.trans (scan_end (by omega)))
      go_wp2
      go_ret
      exact ⟨retl (by rw [HO.out]), rfl⟩
/-- The end of a run of one character (the package). -/
theorem skipChar_any (A : Option Addr) (n cap : Nat) (f : Nat → Int) (s : Nat) (c : Int) (w : World) (B : Nat) (h : RB w B A n cap f) (hs : s ≤ n) (hn : n ≤ 100000) :
    Calls Tryz.prog 54 #[.slice A n cap, .int .i64 s, .int .u8 c] w fun e w' => e = .returned (.int .i64 (scan (noCh c) n f s)) ∧ w = w' := by
  have HH := Lib.hid h
  clear h
  go_enter Tryz.func54, Tryz.ntmps54
  go_wp2
  go_loop [7] (fun iv => ∃ i : Nat, Hid (scan (noCh c) n f s = scan (noCh c) n f i) ∧ i ≤ n ∧ iv = .int .i64 i) (fun iv => n - (intOf iv).toNat)
  case atStart => exact ⟨s, Lib.hid rfl, by omega, rfl⟩
  case round =>
    obtain ⟨i, HS, hi1, rfl⟩ := hrel
    by_cases hil : i < n
    · obtain ⟨b, off, rfl, hB, hcell⟩ := HH.out.2.2.2 (by omega)
      have k0 := hcell i hil
      clear hcell
      by_cases hb : f i = c
      · have HS' := Lib.hid (HS.out.trans (scan_go (by omega) (by unfold noCh; simpa using hb)))
        have a1 := (leb hb).2
        clear hb
        go_wp2
        go_round
        case rel => exact ⟨i + 1, HS', by omega, by go_num⟩
        case measure => simp [intOf]; omega
      · have HO := Lib.hid (HS.out.trans (scan_hit (by unfold noCh; simpa using hb)))
        have a1 := (lnb hb).2
        clear hb
        go_wp2
        go_ret
        exact ⟨retl (by rw [HO.out]), rfl⟩
    · have HO := Lib.hid (HS.out.trans (scan_end (by omega)))
      go_wp2
      go_ret
      exact ⟨retl (by rw [HO.out]), rfl⟩
/-- The prefix of code: a tab, four blanks. -/
def codeF (n : Nat) (f : Nat → Int) : Nat := if 1 ≤ n ∧ f 0 = 9 then 1 else if 4 ≤ n ∧ f 0 = 32 ∧ f 1 = 32 ∧ f 2 = 32 ∧ f 3 = 32 then 4 else 0
end Go.Proofs.YtcelfpgkknfnhaaGreatDoor
