/- Lines: an underline (the package). -/
import Derived.Test.YtcelfpgkknfnhaaGreatDoorL1
namespace Go.Proofs.YtcelfpgkknfnhaaGreatDoor
open Go.RowKit
set_option linter.unusedVariables false

/-- Where the blanks behind the run of x end. -/
def unE (n : Nat) (f : Nat → Int) (x : Int) : Nat := scan (noCh 32) n f (scan (noCh x) n f 1)
def unF (n : Nat) (f : Nat → Int) : Nat :=
  if f 0 = 61 then (if unE n f 61 < n ∧ f (unE n f 61) = 10 then 1 else 0) else if f 0 = 45 then (if unE n f 45 < n ∧ f (unE n f 45) = 10 then 2 else 0) else 0
theorem scanF_le (P : Int → Bool) (n : Nat) (f : Nat → Int) : ∀ k i, i + k ≤ n → scanF P n f k i ≤ n
  | 0, i, h => by unfold scanF; omega
  | k + 1, i, h => by
    unfold scanF
    split
    · omega
    · exact scanF_le P n f k (i + 1) (by omega)
theorem scan_le (P : Int → Bool) {n : Nat} (f : Nat → Int) {i : Nat} (h : i ≤ n) : scan P n f i ≤ n := scanF_le P n f _ i (by omega)

set_option maxHeartbeats 2000000 in
theorem isUnderlined_any (q : Option Addr) (A : Option Addr) (n cap : Nat) (f : Nat → Int) (w : World) (B : Nat) (h : RB w B A n cap f) (hn0 : 0 < n) (hn : n ≤ 100000) :
    Calls Tryz.prog 35 #[.pointer q, .slice A n cap] w fun e w' => e = .returned (.int .i64 (unF n f)) ∧ w = w' := by
  have HH := Lib.hid h
  obtain ⟨b, off, rfl, hB, hcell⟩ := h.2.2.2 hn0
  have hc0 : w.cell? ⟨b, off, none⟩ = some (.int .u8 (f 0)) := hcell 0 (by omega)
  have HC := Lib.hid hcell
  clear h hcell
  by_cases h61 : f 0 = 61
  · have a1 := (leb h61).2
    have l1 := scan_le (noCh 61) f (show 1 ≤ n from hn0)
    have l2 := scan_le (noCh 32) f l1
    have HU : Hid (unF n f = if unE n f 61 < n ∧ f (unE n f 61) = 10 then 1 else 0) := Lib.hid (by unfold unF; rw [if_pos h61])
    clear h61
    go_enter Tryz.func35, Tryz.ntmps35
    go_wp2_with fail
    refine (skipChar_any _ n cap f 1 61 w B HH.out hn0 hn).mono ?_
    rintro e w' ⟨rfl, rfl⟩
    unfold unE at HU
    generalize scan (noCh 61) n f 1 = s at HU l1 l2
    go_wp2_with fail
    refine (skipChar_any _ n cap f s 32 w B HH.out l1 hn).mono ?_
    rintro e w' ⟨rfl, rfl⟩
    generalize scan (noCh 32) n f s = u at HU l2
    by_cases hu : u < n
    · have k0 := HC.out u hu
      by_cases h10 : f u = 10
      · have HO := Lib.hid (HU.out.trans (if_pos ⟨hu, h10⟩))
        have x1 := (leb h10).2
        clear h10
        go_wp2_with fail
        go_ret
        exact ⟨retl (by rw [HO.out]; rfl), rfl⟩
      · have HO := Lib.hid (HU.out.trans (if_neg (fun h => h10 h.2)))
        have x1 := (lnb h10).2
        clear h10
        go_wp2_with fail
        go_ret
        exact ⟨retl (by rw [HO.out]; rfl), rfl⟩
    · have HO := Lib.hid (HU.out.trans (if_neg (fun h => hu h.1)))
      go_wp2_with fail
      go_ret
      exact ⟨retl (by rw [HO.out]; rfl), rfl⟩
  have a1 := (lnb h61).2
  by_cases h45 : f 0 = 45
  · have a2 := (leb h45).2
    have l1 := scan_le (noCh 45) f (show 1 ≤ n from hn0)
    have l2 := scan_le (noCh 32) f l1
    have HU : Hid (unF n f = if unE n f 45 < n ∧ f (unE n f 45) = 10 then 2 else 0) := Lib.hid (by unfold unF; rw [if_neg h61, if_pos h45])
    clear h61 h45
    go_enter Tryz.func35, Tryz.ntmps35
    go_wp2_with fail
    refine (skipChar_any _ n cap f 1 45 w B HH.out hn0 hn).mono ?_
    rintro e w' ⟨rfl, rfl⟩
    unfold unE at HU
    generalize scan (noCh 45) n f 1 = s at HU l1 l2
    go_wp2_with fail
    refine (skipChar_any _ n cap f s 32 w B HH.out l1 hn).mono ?_
    rintro e w' ⟨rfl, rfl⟩
    generalize scan (noCh 32) n f s = u at HU l2
    by_cases hu : u < n
    · have k0 := HC.out u hu
      by_cases h10 : f u = 10
      · have HO := Lib.hid (HU.out.trans (if_pos ⟨hu, h10⟩))
        have x1 := (leb h10).2
        clear h10
        go_wp2_with fail
        go_ret
        exact ⟨retl (by rw [HO.out]; rfl), rfl⟩
      · have HO := Lib.hid (HU.out.trans (if_neg (fun h => h10 h.2)))
        have x1 := (lnb h10).2
        clear h10
        go_wp2_with fail
        go_ret
        exact ⟨retl (by rw [HO.out]; rfl), rfl⟩
    · have HO := Lib.hid (HU.out.trans (if_neg (fun h => hu h.1)))
      go_wp2_with fail
      go_ret
      exact ⟨retl (by rw [HO.out]; rfl), rfl⟩
  · have HO : Hid (unF n f = 0) := Lib.hid (by unfold unF; rw [if_neg h61, if_neg h45])
    have a2 := (lnb h45).2
    clear h61 h45
    go_enter Tryz.func35, Tryz.ntmps35
    go_wp2_with fail
    go_ret
    exact ⟨retl (by rw [HO.out]; rfl), rfl⟩
end Go.Proofs.YtcelfpgkknfnhaaGreatDoor
