/- The parser with any extensions, with the cell of its extensions; a heading by its sign. -/
import Derived.Test.YtcelfpgkknfnhaaGreatDoorL5
import Derived.Deep.DeepCutAuto
import Derived.Deep.CutBlock
namespace Go.Proofs.YtcelfpgkknfnhaaGreatDoor
open Go.RowKit
set_option linter.unusedVariables false

set_option maxHeartbeats 8000000 in
set_option maxRecDepth 1000000 in
theorem parser_e (x : Int) (w : World) (h0 : 0 ≤ x) (h1 : x ≤ 131070) :
    Calls Tryz.prog 17 #[.int .i64 x] w fun e w' => (∃ b : Nat, e = .returned (.pointer (some ⟨b, 0, none⟩)) ∧ w.heap.size ≤ b ∧ w'.cell? ⟨b, 259, none⟩ = some (.int .i64 x)) ∧ Below w.heap.size w w' := by
  have hmf : ∀ (fn : Fn) (first cap : Array Value) (w : World), (Instr.makeFunc fn first cap).run Tryz.prog w = .ok (.func fn first cap) w := fun _ _ _ _ => rfl
  have hmk : ∀ (w : World), (Instr.makeSlice 53 (.int .i64 0) (.int .i64 0)).run Tryz.prog w = .ok (.slice (some ⟨w.heap.size, 0, none⟩) 0 0) (w.alloc (.cells #[] 89)) := fun _ => by kernel_rfl
  go_enter Tryz.func17, Tryz.ntmps17
  have hmm := @run_makeMap Tryz.prog
  have hsf := fun (a : Addr) (fn : Fn) (f c : Array Value) (m : Mode) (w : World) => run_store Tryz.prog w a (.func fn f c) m rfl
  go_wp2
  refine wp_loop_rounds 2 ?_
  rw [rounds_succ]; go_wp2
  rw [rounds_succ]; go_wp2
  all_goals
    go_ret
    refine ⟨⟨_, rfl, by omega, ?_⟩, ?_⟩
    · simp [go_sem]
      done
    · first
        | exact ((((((Below.refl _ _).alloc (by simp) _).alloc (by simp <;> omega) _).alloc (by simp <;> omega) _).alloc (by simp <;> omega) _).alloc (by simp <;> omega) _).alloc (by simp <;> omega) _
        | exact (((((Below.refl _ _).alloc (by simp) _).alloc (by simp <;> omega) _).alloc (by simp <;> omega) _).alloc (by simp <;> omega) _).alloc (by simp <;> omega) _
end Go.Proofs.YtcelfpgkknfnhaaGreatDoor
