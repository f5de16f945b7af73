/- Reference definitions: the link and its title (a title in the next line). -/
import Derived.Test.YtaljhebalgipjaaGreatDoorD1
namespace Go.Proofs.YtaljhebalgipjaaGreatDoor
open Go.RowKit
set_option linter.unusedVariables false

set_option maxHeartbeats 8000000 in
set_option maxRecDepth 100000 in
theorem scanLink_next (p : Option Addr) (A : Option Addr) (n cap : Nat) (f : Nat → Int) (i0 L U T R Z : Nat) (w : World) (B : Nat) (h : RB w B A n cap f) (hn : n ≤ 100000)
    (hi : i0 < L) (hL : ∀ j, i0 ≤ j → j < L → inkB (f j)) (h60 : f i0 ≠ 60) (hU : U + 1 < n) (hv : f L = 10) (hLU : L < U) (hbl : ∀ j, L < j → j < U → f j = 32) (hT : Tit f n U T R Z) :
    Calls Tryz.prog 48 #[.pointer p, .slice A n cap, .int .i64 i0] w fun e w' => e = .returned (.tuple #[.int .i64 i0, .int .i64 L, .int .i64 T, .int .i64 R, .int .i64 Z]) ∧ w = w' := by
  obtain ⟨b, off, rfl, hB, hcell⟩ := h.2.2.2 (by omega)
  have HC := Lib.hid hcell
  have HL := Lib.hid hL
  have k0 := hcell i0 (by omega)
  have kL := hcell L (by omega)
  have kU := hcell U (by omega)
  have q60 := (lnb h60).2
  have hi0 : (0 : Int) ≤ i0 := by omega
  have hi1 : (i0 : Int) < n := by omega
  have hLn : (L : Int) + 1 < n := by omega
  have hL0' : (0 : Int) < L := by omega
  have hL00 : 0 < L := by omega
  have hUn : (U : Int) + 1 < n := by omega
  have HBL := Lib.hid hbl
  clear hbl
  have HT := Lib.hid hT
  have hTR := hT.hR
  have hTRi : (T : Int) < R := by omega
  have hRZ : R < Z := by have := hT.hZ; omega
  have hzn := hT.zn
  have hZn : (Z : Int) + 1 < n := by omega
  have hRn : (R : Int) < n := by omega
  have hz10 := hT.z10
  have bz13 := (lnb hT.z13).2
  have kZ := hcell Z (by omega)
  have kZ1 := hcell (Z + 1) (by omega)
  have kR := hcell R (by omega)
  have hUT : U < T := by have := hT.hT; omega
  clear hT
  have hu2 : f U ≠ 32 ∧ f U ≠ 9 := by have := HT.out.quo; unfold quoB at this; omega
  have b1 := (lnb hu2.1).2
  have b2 := (lnb hu2.2).2
  clear hu2
  clear h hcell hL h60
  go_enter Tryz.func48, Tryz.ntmps48
  go_upto_block 0 with fail
  go_cut [2] (fun iv wx => iv = .int .i64 L ∧ w = wx)
  case first =>
    go_wp2_with fail
    go_loop [2] (fun iv => ∃ i : Nat, i0 ≤ i ∧ i ≤ L ∧ iv = .int .i64 i) (fun iv => n - (intOf iv).toNat)
    case atStart => exact ⟨i0, by omega, by omega, rfl⟩
    case round =>
      obtain ⟨i, h1, h2, rfl⟩ := hrel
      have ki := HC.out i (by omega)
      by_cases hil : i < L
      · have hk := HL.out i h1 hil
        have a1 := (lnb hk.1).1; have a2 := (lnb hk.2.1).1; have a3 := (lnb hk.2.2.1).1; have a4 := (lnb hk.2.2.2).1
        clear hk
        go_wp2
        go_round
        case rel => exact ⟨i + 1, by omega, by omega, by go_num⟩
        case measure => simp [intOf]; omega
      · obtain rfl : i = L := by omega
        go_wp2
        all_goals
          go_meet
          exact ⟨rfl, rfl⟩
  case rest =>
    obtain ⟨rfl, rfl⟩ := hcut
    go_upto_block 2 with fail
    go_cut [2] (fun iv wx => iv = .int .i64 L ∧ w = wx)
    case first =>
      go_wp2_with fail
      go_loop [2] (fun iv => iv = .int .i64 L) (fun iv => n - (intOf iv).toNat)
      case atStart => rfl
      case round =>
        obtain rfl := hrel
        go_wp2
        go_meet
        exact ⟨rfl, rfl⟩
    case rest =>
      obtain ⟨rfl, rfl⟩ := hcut
      go_upto_block 4 with fail
      go_cut [2] (fun iv wx => iv = .int .i64 U ∧ w = wx)
      case first =>
        go_wp2_with fail
        go_loop [2] (fun iv => ∃ i : Nat, L < i ∧ i ≤ U ∧ iv = .int .i64 i) (fun iv => n - (intOf iv).toNat)
        case atStart => exact ⟨L + 1, by omega, by omega, by go_num⟩
        case round =>
          obtain ⟨i, hi1, hi2, rfl⟩ := hrel
          by_cases hiU : i < U
          · have kk := HC.out i (by omega)
            have hh := HBL.out i hi1 hiU
            go_wp2
            go_round
            case rel => exact ⟨i + 1, by omega, by omega, by go_num⟩
            case measure => simp [intOf]; omega
          · obtain rfl : i = U := by omega
            go_wp2
            go_meet
            exact ⟨rfl, rfl⟩
      case rest =>
        obtain ⟨rfl, rfl⟩ := hcut
        go_upto_region 21 with fail
        go_cut [220] (fun tv wx => tv = .bool true ∧ w = wx)
        case first =>
          rcases HT.out.quo with hq | hq | hq
          all_goals
            go_wp2
            go_meet
            exact ⟨rfl, rfl⟩
        case rest =>
          obtain ⟨rfl, rfl⟩ := hcut
          have hUT' : (U : Int) + 1 = T := by have := HT.out.hT; omega
          go_upto_block 6 with fail
          go_cut [2] (fun iv wx => iv = .int .i64 Z ∧ w = wx)
          case first =>
            go_wp2_with fail
            go_loop [2] (fun iv => ∃ i : Nat, T ≤ i ∧ i ≤ Z ∧ iv = .int .i64 i) (fun iv => n - (intOf iv).toNat)
            case atStart => exact ⟨T, by omega, by omega, by first | rfl | (rw [← hUT'])⟩
            case round =>
              obtain ⟨i, hi1, hi2, rfl⟩ := hrel
              by_cases hiZ : i < Z
              · have kk := HC.out i (by omega)
                have hh := HT.out.body i hi1 hiZ
                have d1 := (lnb hh.1).1; have d2 := (lnb hh.2).1
                clear hh
                go_wp2
                go_round
                case rel => exact ⟨i + 1, by omega, by omega, by go_num⟩
                case measure => simp [intOf]; omega
              · obtain rfl : i = Z := by omega
                go_wp2
                go_meet
                exact ⟨rfl, rfl⟩
          case rest =>
            obtain ⟨rfl, rfl⟩ := hcut
            have hZR : (Z : Int) - 1 = R := by have := HT.out.hZ; omega
            go_upto_block 8 with fail
            go_cut [2] (fun iv wx => iv = .int .i64 R ∧ w = wx)
            case first =>
              go_wp2_with fail
              go_loop [2] (fun iv => iv = .int .i64 R) (fun iv => n - (intOf iv).toNat)
              case atStart => first | rfl | (rw [← hZR])
              case round =>
                obtain rfl := hrel
                rcases HT.out.shut with hc | hc | hc
                all_goals
                  go_wp2
                  go_meet
                  exact ⟨rfl, rfl⟩
            case rest =>
              obtain ⟨rfl, rfl⟩ := hcut
              rcases HT.out.shut with hc | hc | hc
              all_goals
                go_wp2
                (try simp only [Exit.inBlock, Exit.then])
                refine bodyPost_ret (results_tmp5 rfl _ _ _) rfl ?_
                exact ⟨by first | rfl | rw [← hUT'] | (simp; omega), rfl⟩
end Go.Proofs.YtaljhebalgipjaaGreatDoor
