/- Lines: underlines (the reference). -/
import Derived.Test.YtcelfpgkknfnhaaGreatDoorL10
import Derived.Deep.QuietTactic
import Derived.BigQuiet
namespace Go.Proofs.YtcelfpgkknfnhaaGreatDoor
open Go.RowKit
set_option linter.unusedVariables false

theorem blS {k : Nat} {x : Int} {f : Nat → Int} {le i : Nat} (h : i < le) (e : f i = x) : scan (noCh x) le f i = scan (noCh x) le f (i + 1) := scan_go h (by unfold noCh; simp [e])
set_option maxHeartbeats 4000000 in
theorem underSpec_any (A : Option Addr) (n cap : Nat) (f : Nat → Int) (le : Nat) (w : World) (B : Nat) (h : RB w B A n cap f) (he : LEnd n f le) (hn : n ≤ 100000) :
    Calls Tryz.prog 15 #[.slice A n cap] w fun e w' => e = .returned (.int .i64 (unS le f)) ∧ ∃ q, w' = w.drewN q := by
  have HH := Lib.hid h
  have hle := he.1
  have hcap := h.cap
  have hm := h.2.1
  unfold maxLen at hm
  obtain ⟨b, off, rfl, hB, hcell⟩ := h.2.2.2 (by omega)
  have HC := Lib.hid hcell
  have HL : Hid (scan (isB 10) n f 0 = le) := Lib.hid (scan_eq (Nat.zero_le _) hle (fun j _ hj => by unfold isB; simpa using he.2.2 j hj) (by unfold isB; simpa using he.2.1))
  have k0 : w.cell? ⟨b, off, none⟩ = some (.int .u8 (f 0)) := hcell 0 (by omega)
  clear h hcell he
  go_enter Tryz.func15, Tryz.ntmps15
  go_wp2_with fail
  refine (lineEnd_any _ n cap f w B HH.out hn).mono ?_
  rintro e w' ⟨rfl, rfl⟩
  rw [HL.out]
  by_cases hl0 : 0 < le
  case neg =>
    have e0 : ((le : Int) == 0) = true := by simp; omega
    go_wp2_with fail
    go_ret
    exact ⟨retl (by unfold unS; rw [if_neg (fun h => hl0 h.1)]; rfl), 0, rfl⟩
  have e0 : ((le : Int) == 0) = false := by simp; omega
  by_cases hx : f 0 = 61 ∨ f 0 = 45
  case neg =>
    have a1 := (lnb (fun h => hx (.inl h))).1
    have a2 := (lnb (fun h => hx (.inr h))).1
    have HX := Lib.hid hx
    clear hx
    go_wp2_with fail
    go_ret
    exact ⟨retl (by unfold unS; rw [if_neg (fun h => HX.out h.2.1)]; rfl), 0, rfl⟩
  have HX := Lib.hid hx
  clear hx
  go_upto_region 2 with fail
  go_cut [25] (fun tv wx => tv = .bool false ∧ w = wx)
  case first =>
    rcases HX.out with h | h
    · have a1 := (leb h).1
      clear h
      go_wp2_with fail
      go_meet
      exact ⟨rfl, rfl⟩
    · have a1 := (lnb (show f 0 ≠ 61 by omega)).1
      have a2 := (leb h).1
      clear h
      go_wp2_with fail
      go_meet
      exact ⟨rfl, rfl⟩
  case rest =>
    obtain ⟨rfl, rfl⟩ := hcut
    go_upto_block 0 with fail
    go_cut [4] (fun iv wx => ∃ i q : Nat, Hid (scan (noCh (f 0)) le f 0 = i) ∧ i ≤ le ∧ iv = .int .i64 i ∧ wx = w.drewN q)
    case first =>
      go_wp2_with fail
      go_loopw [4] (fun iv wr => ∃ i q : Nat, Hid (scan (noCh (f 0)) le f 0 = scan (noCh (f 0)) le f i) ∧ i ≤ le ∧ iv = .int .i64 i ∧ wr = w.drewN q) (fun iv _ => n - (intOf iv).toNat)
      case atStart => exact ⟨0, 0, Lib.hid rfl, by omega, rfl, rfl⟩
      case round =>
        obtain ⟨i, q, HS, hi1, rfl, rfl⟩ := hrel
        by_cases hil : i < le
        · have ki := HC.out i (by omega)
          have hd : decide ((i : Int) < (le : Int)) = true := by simp; omega
          have hd2 : decide (i < le) = true := by simp; omega
          have hi0 : (0 : Int) ≤ i := by omega
          by_cases hb : f i = f 0
          · have a1 := (leb hb).2
            have HS' := Lib.hid (HS.out.trans (scan_go hil (by unfold noCh; simp [hb])))
            clear hb
            go_wp2_with fail
            go_quiet (fail)
            go_wp2
            go_roundw
            case rel => exact ⟨i + 1, q + nq, HS', by omega, by go_num, rfl⟩
            case measure => simp [intOf]; omega
          · have a1 := (lnb hb).2
            have HO := Lib.hid (HS.out.trans (scan_hit (by unfold noCh; simpa using hb)))
            clear hb
            go_wp2_with fail
            go_quiet (fail)
            go_wp2
            go_meet
            exact ⟨i, _, HO, hi1, rfl, World.drewN_drewN _ _ _⟩
        · have hd : decide ((i : Int) < (le : Int)) = false := by simp; omega
          have hd2 : decide (i < le) = false := by simp; omega
          have HO := Lib.hid (HS.out.trans (scan_end (by omega)))
          go_wp2_with fail
          go_quiet (fail)
          go_wp2
          go_meet
          exact ⟨i, _, HO, hi1, rfl, World.drewN_drewN _ _ _⟩
    case rest =>
      obtain ⟨i, q, HE, hi1, rfl, rfl⟩ := hcut
      have HX2 := HX
      have HU : Hid (unS le f = if scan (noCh 32) le f i = le then (if f 0 = 61 then 1 else 2) else 0) := Lib.hid (by
        unfold unS
        rw [HE.out]
        by_cases e : scan (noCh 32) le f i = le
        · rw [if_pos e, if_pos ⟨hl0, HX2.out, e⟩]
        · rw [if_neg e, if_neg (fun h => e h.2.2)])
      go_wp2
      go_loop [2, 46] (fun rv kv => ∃ k : Nat, Hid (scan (noCh 32) le f i = scan (noCh 32) le f (i + k)) ∧ i + k ≤ le ∧ rv = .int .i64 0 ∧ kv = .int .i64 k) (fun _ kv => n - (intOf kv).toNat)
      case atStart => exact ⟨0, Lib.hid rfl, by omega, rfl, rfl⟩
      case round =>
        obtain ⟨k, HS, hk1, rfl, rfl⟩ := hrel
        by_cases hkl : i + k < le
        · have kj : w.cell? ⟨b, off + i + k, none⟩ = some (.int .u8 (f (i + k))) := by rw [Nat.add_assoc]; exact HC.out (i + k) (by omega)
          by_cases hb : f (i + k) = 32
          · have a1 := (leb hb).1
            have HS' := Lib.hid (HS.out.trans (scan_go hkl (by unfold noCh; simp [hb])))
            clear hb
            go_wp2
            go_round
            case rel => exact ⟨k + 1, HS', by omega, rfl, by go_num⟩
            case measure => simp [intOf]; omega
          · have a1 := (lnb hb).1
            have HO := Lib.hid (HS.out.trans (scan_hit (by unfold noCh; simpa using hb)))
            clear hb
            go_wp2
            go_ret
            exact ⟨retl (by rw [HU.out, HO.out, if_neg (by omega)]; rfl), _, rfl⟩
        · have HO := Lib.hid (HS.out.trans (scan_end (by omega)))
          have hk2 : Hid (i + k = le) := Lib.hid (by omega)
          by_cases h61 : f 0 = 61
          · have a1 := (leb h61).2
            have H61 := Lib.hid h61
            clear h61
            go_wp2
            go_ret
            exact ⟨retl (by rw [HU.out, HO.out, if_pos hk2.out, if_pos H61.out]; rfl), _, rfl⟩
          · have a1 := (lnb h61).2
            have H61 := Lib.hid h61
            clear h61
            go_wp2
            go_ret
            exact ⟨retl (by rw [HU.out, HO.out, if_pos hk2.out, if_neg H61.out]; rfl), _, rfl⟩
end Go.Proofs.YtcelfpgkknfnhaaGreatDoor
