/- The parser without extensions, with the cell of its extensions; a heading by its sign. -/
import Derived.Test.YtcelfpgkknfnhaaGreatDoorL1
import Derived.WalkKit
import Derived.Lib.Hide
import Derived.Maps.AppendAt
import Derived.Lib.OthersKept
import Derived.Laws.Cover4
import Derived.Laws.IdiomStrings
import Derived.WalkLawsBesides
import Derived.WalkSpells
import Derived.Outline
import Derived.ProofKit
import Derived.LoopN
import Derived.Handy
namespace Go.Proofs.YtcelfpgkknfnhaaGreatDoor
open Go.RowKit
set_option linter.unusedVariables false

set_option maxHeartbeats 4000000 in
set_option maxRecDepth 1000000 in
theorem parser_z (w : World) :
    Calls Tryz.prog 17 #[.int .i64 0] w fun e w' => (∃ b : Nat, e = .returned (.pointer (some ⟨b, 0, none⟩)) ∧ w.heap.size ≤ b ∧ w'.cell? ⟨b, 259, none⟩ = some (.int .i64 0)) ∧ Below w.heap.size w w' := by
  have hmf : ∀ (fn : Fn) (first cap : Array Value) (w : World), (Instr.makeFunc fn first cap).run Tryz.prog w = .ok (.func fn first cap) w := fun _ _ _ _ => rfl
  go_enter Tryz.func17, Tryz.ntmps17
  have hmm := @run_makeMap Tryz.prog
  have hsf := fun (a : Addr) (fn : Fn) (f c : Array Value) (m : Mode) (w : World) => run_store Tryz.prog w a (.func fn f c) m rfl
  go_wp2
  refine wp_loop_rounds 2 ?_
  rw [rounds_succ]; go_wp2
  rw [rounds_succ]; go_wp2
  go_ret
  refine ⟨⟨_, rfl, by omega, ?_⟩, (((((Below.refl _ _).alloc (by simp) _).alloc (by simp <;> omega) _).alloc (by simp <;> omega) _).alloc (by simp <;> omega) _).alloc (by simp <;> omega) _⟩
  simp [go_sem]
  done

set_option maxHeartbeats 2000000 in
theorem isPrefixHeading_z (b0 : Nat) (A : Option Addr) (n cap : Nat) (f : Nat → Int) (w : World) (B : Nat) (h : RB w B A n cap f) (hp : w.cell? ⟨b0, 259, none⟩ = some (.int .i64 0)) (hn0 : 0 < n) (hn : n ≤ 100000) :
    Calls Tryz.prog 34 #[.pointer (some ⟨b0, 0, none⟩), .slice A n cap] w fun e w' => e = .returned (.bool (decide (f 0 = 35))) ∧ w = w' := by
  obtain ⟨b, off, rfl, hB, hcell⟩ := h.2.2.2 hn0
  have hc0 : w.cell? ⟨b, off, none⟩ = some (.int .u8 (f 0)) := hcell 0 (by omega)
  have hbit : (bits BinOp.and IntKind.i64 0 128 != 0) = false := by decide +kernel
  clear h hcell
  by_cases h35 : f 0 = 35
  · have HO : Hid (decide (f 0 = 35) = true) := Lib.hid (by simp [h35])
    have a1 := (leb h35).1
    clear h35
    go_enter Tryz.func34, Tryz.ntmps34
    go_wp2
    go_ret
    exact ⟨by rw [HO.out]; rfl, rfl⟩
  · have HO : Hid (decide (f 0 = 35) = false) := Lib.hid (by simp [h35])
    have a1 := (lnb h35).1
    clear h35
    go_enter Tryz.func34, Tryz.ntmps34
    go_wp2
    go_ret
    exact ⟨by rw [HO.out]; rfl, rfl⟩
end Go.Proofs.YtcelfpgkknfnhaaGreatDoor

