/- Punctuation: a text without any of its characters. -/
import Derived.Test.YtghmbpogniopoaaDoorQ1
import Derived.Test.YtghmbpogniopoaaDoorQS
import Derived.Deep.RegionWith
import Derived.Deep.QuietTactic
import Derived.BigQuiet
namespace Go.Proofs.YtghmbpogniopoaaDoor
open Go.RowKit
set_option linter.unusedVariables false

theorem nilAhead_w (a : Addr) (w : World) : (nilAhead 185 38 (.pointer (some a)) "Write").run Tryd.prog w = .ok (some false) w := by kernel_rfl
theorem method_w (a : Addr) (w : World) : (method 185 38 (.pointer (some a)) "Write").run Tryd.prog w = .ok (36, .pointer (some a)) w := by kernel_rfl
theorem below_drewN (B n : Nat) (w : World) : Below B w (w.drewN n) := ⟨rfl, rfl, rfl, Nat.le_refl _, fun _ _ => rfl⟩
theorem addr_add_off (b o j : Nat) : (⟨b, o, none⟩ : Addr).add j = ⟨b, o + j, none⟩ := by
  unfold Addr.add
  split
  · subst_vars; rfl
  · rfl
theorem neqNil_w (w : World) : (binOp .neq 41 .nilFunc .nilFunc).run Tryd.prog w = .ok (.bool false) w := by kernel_rfl
set_option maxHeartbeats 4000000 in
set_option maxRecDepth 100000 in
theorem processQuiet (q ob : Nat) (s d : Bool) (T : Nat → Value) (A : Option Addr) (n cap : Nat) (f : Nat → Int) (w : World) (B : Nat) (hT : Tab w q s d T) (h : RB w B A n cap f) (hn : n ≤ 100000)
    (hq : ∀ j, j < n → T (f j).toNat = .nilFunc) (hb : Lib.IsBuffer 33 5 ob ob [] w) (hne : ∀ a, A = some a → a.block ≠ ob) :
    Calls Tryd.prog 12 #[.pointer (some ⟨q, 0, none⟩), .iface 38 (.pointer (some ⟨ob, 0, none⟩)), .slice A n cap] w fun e w' => e = .returned (.tuple #[]) ∧ Hid (Lib.IsBuffer 33 5 ob ob (((List.range n).map f).map (Value.int .u8)) w') ∧ Below ob w w' := by
  have HH := Lib.hid h; have HT := Lib.hid hT; have HQ := Lib.hid hq; have HB := Lib.hid hb
  have hcap := h.cap
  clear h hT hq hb
  have hna := nilAhead_w; have hme := method_w; have hnn := neqNil_w
  have hmf : ∀ (fn : Fn) (first cap : Array Value) (w : World), (Instr.makeFunc fn first cap).run Tryd.prog w = .ok (.func fn first cap) w := fun _ _ _ _ => rfl
  go_enter Tryd.func12, Tryd.ntmps12
  go_upto_block 0 with fail
  go_cut [6] (fun mv wx => ∃ k, mv = .int .i64 0 ∧ wx = w.drewN k)
  case first =>
    go_wp2_with fail
    go_loopw [6, 7] (fun mv iv wr => ∃ i k : Nat, i ≤ n ∧ mv = .int .i64 0 ∧ iv = .int .i64 i ∧ wr = w.drewN k) (fun _ iv _ => n - (intOf iv).toNat)
    case atStart => exact ⟨0, 0, by omega, rfl, rfl, rfl⟩
    case round =>
      obtain ⟨i, k, hi, rfl, rfl, rfl⟩ := hrel
      by_cases hin : i < n
      · obtain ⟨b, off, rfl, hbB, hcell⟩ := HH.out.2.2.2 (by omega)
        have ki := hcell i hin
        have hrg := HH.out.rng i
        have hi0 : (0 : Int) ≤ i := by omega
        have hi1 : (i : Int) < n := by omega
        have kt := HT.out.cell (f i).toNat (by omega)
        rw [HQ.out i hin] at kt
        have h256 : f i < 256 := by omega
        have h00 : 0 ≤ f i := by omega
        clear hcell
        go_wp2_with fail
        go_quiet (fail)
        go_wp2_with fail
        go_roundw
        case rel => exact ⟨i + 1, k + nq, by omega, rfl, by go_num, by simp⟩
        case measure => simp [intOf]; omega
      · go_wp2_with fail
        go_meet
        exact ⟨k, rfl, rfl⟩
  case rest =>
    obtain ⟨k, rfl, rfl⟩ := hcut
    by_cases hn0 : 0 < n
    · obtain ⟨b, off, rfl, hbB, hcell⟩ := HH.out.2.2.2 hn0
      have hnz : (0 : Int) < n := by omega
      have hbo := hne _ rfl
      have HC := Lib.hid hcell
      clear hcell
      have HCall := fun (j : Nat) => Tryd.Buffer_Write_any ob ob [] (((List.range n).map f).map (Value.int .u8)) ⟨b, off, none⟩ n (cap - 0) (w.drewN j) (HB.out.drewN _) (Nat.le_of_lt HB.out.lt) (by simp) (by simp) hbo (fun j v hj => by
        have hl := List.getElem?_eq_some_iff.1 hj
        obtain ⟨hl1, hl2⟩ := hl
        simp at hl1 hl2
        subst hl2
        rw [World.cell?_drewN, addr_add_off]; exact HC.out j hl1) (by simp [Value.oneCell']) (by simp; omega)
      go_wp2_with fail
      go_region_with (go_at_call 36; refine (HCall _).mono ?_; rintro e w1 ⟨rfl, hb1, hb2, -⟩)
      all_goals
        go_end0
        exact ⟨rfl, Lib.hid hb1, (below_drewN _ _ _).trans hb2⟩
    · obtain rfl : n = 0 := by omega
      go_wp2_with fail
      go_end0
      exact ⟨rfl, Lib.hid (HB.out.drewN _), below_drewN _ _ _⟩
end Go.Proofs.YtghmbpogniopoaaDoor
