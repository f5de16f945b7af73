/- The parser. -/
import Derived.Test.YtepomhngebfapaaDoorRows
import Derived.WalkKit
import Derived.Lib.Hide
import Derived.Maps.AppendAt
import Derived.Lib.OthersKept
import Derived.Laws.Cover4
import Derived.Laws.IdiomStrings
import Derived.WalkLawsBesides
import Derived.WalkSpells
import Derived.Outline
import Derived.ProofKit
import Derived.LoopN
import Derived.Handy
namespace Go.Proofs.YtepomhngebfapaaDoor
open Go.RowKit
set_option linter.unusedVariables false

set_option maxHeartbeats 4000000 in
set_option maxRecDepth 1000000 in
theorem parser_0 (w : World) :
    Calls Tryd.prog 8 #[.int .i64 0] w fun e w' => (∃ q, e = .returned (.pointer q)) ∧ Below w.heap.size w w' := by
  have hmf : ∀ (fn : Fn) (first cap : Array Value) (w : World), (Instr.makeFunc fn first cap).run Tryd.prog w = .ok (.func fn first cap) w := fun _ _ _ _ => rfl
  go_enter Tryd.func8, Tryd.ntmps8
  have hmm := @run_makeMap Tryd.prog
  have hsf := fun (a : Addr) (fn : Fn) (f c : Array Value) (m : Mode) (w : World) => run_store Tryd.prog w a (.func fn f c) m rfl
  go_wp2
  refine wp_loop_rounds 2 ?_
  rw [rounds_succ]; go_wp2
  rw [rounds_succ]; go_wp2
  go_ret
  exact ⟨⟨_, rfl⟩, (((((Below.refl _ _).alloc (by simp) _).alloc (by simp <;> omega) _).alloc (by simp <;> omega) _).alloc (by simp <;> omega) _).alloc (by simp <;> omega) _⟩
end Go.Proofs.YtepomhngebfapaaDoor

