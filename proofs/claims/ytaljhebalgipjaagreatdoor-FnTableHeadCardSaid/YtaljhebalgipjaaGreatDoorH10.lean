/- Tables: the parser. -/
import Derived.Test.YtaljhebalgipjaaGreatDoorH4
import Derived.WalkKit
import Derived.Lib.Hide
import Derived.Maps.AppendAt
import Derived.Lib.OthersKept
import Derived.Laws.Cover4
import Derived.Laws.IdiomStrings
import Derived.WalkLawsBesides
import Derived.WalkSpells
import Derived.Outline
import Derived.ProofKit
namespace Go.Proofs.YtaljhebalgipjaaGreatDoor
open Go.RowKit
set_option linter.unusedVariables false

theorem heap_at (w : World) (o : Obj) (k : Nat) (h : k = w.heap.size) : (w.alloc o).heap[k]? = some o := by subst h; exact heap_alloc_new w _
theorem heap_up {w : World} {o : Obj} {k : Nat} (o' : Obj) (hk : k < w.heap.size) (h : w.heap[k]? = some o) : (w.alloc o').heap[k]? = some o := by
  rw [Below.heap_alloc _ _ _ hk]; exact h
theorem zero_size : 269 ≤ Tryz.zeroCells72.size := by decide +kernel
set_option maxHeartbeats 4000000 in
set_option maxRecDepth 1000000 in
theorem parser_sp (w : World) :
    Calls Tryz.prog 22 #[.int .i64 0] w fun e w' => (∃ pb nb L ty, e = .returned (.pointer (some ⟨pb, 0, none⟩)) ∧ SP w' w.heap.size pb nb 1 L ty 0 ∧ ty 0 = 0) ∧ Below w.heap.size w w' := by
  have hmf : ∀ (fn : Fn) (first cap : Array Value) (w : World), (Instr.makeFunc fn first cap).run Tryz.prog w = .ok (.func fn first cap) w := fun _ _ _ _ => rfl
  have hmk : ∀ (w : World), (Instr.makeSlice 69 (.int .i64 0) (.int .i64 0)).run Tryz.prog w = .ok (.slice (some ⟨w.heap.size, 0, none⟩) 0 0) (w.alloc (.cells #[] 73)) := fun _ => by kernel_rfl
  go_enter Tryz.func22, Tryz.ntmps22
  have hzs := zero_size
  have hmm := @run_makeMap Tryz.prog
  have hsf := fun (a : Addr) (fn : Fn) (f c : Array Value) (m : Mode) (w : World) => run_store Tryz.prog w a (.func fn f c) m rfl
  go_wp2
  refine wp_loop_rounds 2 ?_
  rw [rounds_succ]; go_wp2
  rw [rounds_succ]; go_wp2
  all_goals
    go_ret
    refine ⟨⟨_, fun _ => w.heap.size + 1 + 1 + 1 + 1, fun _ _ => none, fun _ => 0, rfl, ⟨⟨?blk, ?inj, ?rng, ?low⟩, ?par, by omega, by omega⟩, rfl⟩, ?b⟩
    case blk =>
      intro i hi
      refine ⟨_, heap_at _ _ _ (by simp), rfl, rfl, fun k h1 h5 => ?_⟩
      obtain rfl | rfl | rfl | rfl | rfl : k = 1 ∨ k = 2 ∨ k = 3 ∨ k = 4 ∨ k = 5 := by omega
      all_goals rfl
    case inj => intro i j hi hj _; omega
    case rng => intro k i j _ _ _ h; cases h
    case low => intro i _; omega
    case par =>
      refine ⟨_, heap_up _ (by simp) (heap_up _ (by simp) (heap_at _ _ _ (by simp))), ?_, ?_⟩
      · simp
        done
      · simp
        done
    case b => exact ((((((Below.refl _ _).alloc (by simp) _).alloc (by simp <;> omega) _).alloc (by simp <;> omega) _).alloc (by simp <;> omega) _).alloc (by simp <;> omega) _)
end Go.Proofs.YtaljhebalgipjaaGreatDoor
