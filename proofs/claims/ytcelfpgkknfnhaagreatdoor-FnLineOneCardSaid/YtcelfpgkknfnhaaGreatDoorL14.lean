/- Lines: a heading by its sign, at any extensions; LineOf. -/
import Derived.Test.YtcelfpgkknfnhaaGreatDoorL13
namespace Go.Proofs.YtcelfpgkknfnhaaGreatDoor
open Go.RowKit
set_option linter.unusedVariables false

/-- What is said of a heading by its sign at extensions x. -/
def HeadOK (x : Int) (f : Nat → Int) (b : Bool) : Prop := (x = 0 → b = decide (f 0 = 35)) ∧ (b = true → f 0 = 35)
def HeadRet (x : Int) (f : Nat → Int) (e : Ending) : Prop := ∃ b, e = .returned (.bool b) ∧ HeadOK x f b
set_option maxHeartbeats 4000000 in
theorem isPrefixHeading_e (x : Int) (b0 : Nat) (A : Option Addr) (n cap : Nat) (f : Nat → Int) (w : World) (B : Nat) (h : RB w B A n cap f) (hp : w.cell? ⟨b0, 259, none⟩ = some (.int .i64 x)) (hn0 : 0 < n) (hn : n ≤ 100000) :
    Calls Tryz.prog 34 #[.pointer (some ⟨b0, 0, none⟩), .slice A n cap] w fun e w' => HeadRet x f e ∧ w = w' := by
  obtain ⟨b, off, rfl, hB, hcell⟩ := h.2.2.2 hn0
  have hc0 : w.cell? ⟨b, off, none⟩ = some (.int .u8 (f 0)) := hcell 0 (by omega)
  have HC := Lib.hid hcell
  clear h hcell
  by_cases h35 : f 0 = 35
  case neg =>
    have HO : HeadRet x f (.returned (.bool false)) := ⟨false, rfl, fun _ => by simp [h35], fun h => by cases h⟩
    have HO := Lib.hid HO
    have a1 := (lnb h35).1
    clear h35
    go_enter Tryz.func34, Tryz.ntmps34
    go_wp2
    go_ret
    exact ⟨HO.out, rfl⟩
  have HT := Lib.hid (show HeadRet x f (.returned (.bool true)) from ⟨true, rfl, fun _ => by simp [h35], fun _ => h35⟩)
  have HF := Lib.hid (show x ≠ 0 → HeadRet x f (.returned (.bool false)) from fun hx => ⟨false, rfl, fun h => absurd h hx, fun h => by cases h⟩)
  have a1 := (leb h35).1
  clear h35
  cases hbit : (bits BinOp.and IntKind.i64 x 128 != 0)
  · go_enter Tryz.func34, Tryz.ntmps34
    go_wp2
    go_ret
    exact ⟨HT.out, rfl⟩
  · have HX : Hid (x ≠ 0) := Lib.hid (by
      intro e
      rw [e] at hbit
      have : (bits BinOp.and IntKind.i64 0 128 != 0) = false := by decide +kernel
      rw [this] at hbit; cases hbit)
    go_enter Tryz.func34, Tryz.ntmps34
    go_upto_block 0 with fail
    go_cut [5] (fun iv wx => ∃ i : Nat, i ≤ n ∧ i ≤ 6 ∧ iv = .int .i64 i ∧ w = wx)
    case first =>
      go_wp2_with fail
      go_loop [5] (fun iv => ∃ i : Nat, i ≤ n ∧ i ≤ 6 ∧ iv = .int .i64 i) (fun iv => n - (intOf iv).toNat)
      case atStart => exact ⟨0, by omega, by omega, rfl⟩
      case round =>
        obtain ⟨i, hi1, hi2, rfl⟩ := hrel
        by_cases hil : i < n
        · have k0 := HC.out i hil
          go_wp2
          all_goals first
            | (go_meet; exact ⟨i, by omega, by omega, rfl, rfl⟩)
            | (go_round; case rel => exact ⟨i + 1, by omega, by omega, by go_num⟩
               case measure => simp [intOf]; omega)
        · go_wp2
          all_goals (go_meet; exact ⟨i, by omega, by omega, rfl, rfl⟩)
    case rest =>
      obtain ⟨i, hi1, hi2, rfl, rfl⟩ := hcut
      by_cases hil : i < n
      · have k0 := HC.out i hil
        have e0 : ((i : Int) == (n : Int)) = false := by simp; omega
        go_wp2
        all_goals
          go_ret
          first | exact ⟨HT.out, rfl⟩ | exact ⟨HF.out HX.out, rfl⟩
      · have e0 : ((i : Int) == (n : Int)) = true := by simp; omega
        go_wp2
        all_goals
          go_ret
          first | exact ⟨HT.out, rfl⟩ | exact ⟨HF.out HX.out, rfl⟩
end Go.Proofs.YtcelfpgkknfnhaaGreatDoor
