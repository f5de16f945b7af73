/- Lines: the prefix of a definition (the package). -/
import Derived.Test.YtcelfpgkknfnhaaGreatDoorL1
import Derived.LoopN
namespace Go.Proofs.YtcelfpgkknfnhaaGreatDoor
open Go.RowKit
set_option linter.unusedVariables false

def dliF (n : Nat) (f : Nat → Int) : Nat := if 2 ≤ n ∧ f 0 = 58 ∧ (f 1 = 32 ∨ f 1 = 9) then 2 else 0
set_option maxHeartbeats 2000000 in
theorem dliPrefix_any (q : Option Addr) (A : Option Addr) (n cap : Nat) (f : Nat → Int) (w : World) (B : Nat) (h : RB w B A n cap f) (hn0 : 0 < n) (hn : n ≤ 100000) :
    Calls Tryz.prog 40 #[.pointer q, .slice A n cap] w fun e w' => e = .returned (.int .i64 (dliF n f)) ∧ w = w' := by
  obtain ⟨b, off, rfl, hB, hcell⟩ := h.2.2.2 hn0
  have hc0 : w.cell? ⟨b, off, none⟩ = some (.int .u8 (f 0)) := hcell 0 (by omega)
  by_cases h2 : n < 2
  · have HO : Hid (dliF n f = 0) := Lib.hid (by unfold dliF; rw [if_neg (fun h => by omega)])
    have hx := h2
    clear h hcell
    go_enter Tryz.func40, Tryz.ntmps40
    go_wp2
    go_ret
    exact ⟨retl (by rw [HO.out]; rfl), rfl⟩
  have hc1 := hcell 1 (by omega)
  by_cases h58 : f 0 = 58
  case neg =>
    have HO : Hid (dliF n f = 0) := Lib.hid (by unfold dliF; rw [if_neg (fun h => h58 h.2.1)])
    have a1 := (lnb h58).1
    clear h hcell h58
    go_enter Tryz.func40, Tryz.ntmps40
    go_wp2
    go_ret
    exact ⟨retl (by rw [HO.out]; rfl), rfl⟩
  have a1 := (leb h58).1
  have a0 := (lnb (a := f 0) (b := 32) (by omega)).2
  have hw : f 1 = 32 ∨ (f 1 ≠ 32 ∧ f 1 = 9) ∨ (f 1 ≠ 32 ∧ f 1 ≠ 9) := by omega
  rcases hw with g | g | g
  · have HO : Hid (dliF n f = 2) := Lib.hid (by unfold dliF; rw [if_pos ⟨by omega, h58, .inl g⟩])
    have b1 := (leb g).2
    clear h hcell h58 g
    go_enter Tryz.func40, Tryz.ntmps40
    go_wp2
    refine wp_loop_rounds 1 ?_
    rw [rounds_succ]; go_wp2
    go_ret
    exact ⟨retl (by rw [HO.out]; rfl), rfl⟩
  · have HO : Hid (dliF n f = 2) := Lib.hid (by unfold dliF; rw [if_pos ⟨by omega, h58, .inr g.2⟩])
    have b1 := (lnb g.1).2; have b2 := (leb g.2).2
    clear h hcell h58 g
    go_enter Tryz.func40, Tryz.ntmps40
    go_wp2
    refine wp_loop_rounds 1 ?_
    rw [rounds_succ]; go_wp2
    go_ret
    exact ⟨retl (by rw [HO.out]; rfl), rfl⟩
  · have HO : Hid (dliF n f = 0) := Lib.hid (by unfold dliF; rw [if_neg (fun h => by omega)])
    have b1 := (lnb g.1).2; have b2 := (lnb g.2).2
    clear h hcell h58 g
    go_enter Tryz.func40, Tryz.ntmps40
    go_wp2
    go_ret
    exact ⟨retl (by rw [HO.out]; rfl), rfl⟩
end Go.Proofs.YtcelfpgkknfnhaaGreatDoor
