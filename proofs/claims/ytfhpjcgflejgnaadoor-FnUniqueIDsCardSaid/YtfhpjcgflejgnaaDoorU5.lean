/- Ids made unique (the package): a new renderer. -/
import Derived.Test.YtfhpjcgflejgnaaDoorU4
import Derived.LoopN
import Derived.Handy
import Derived.Deep.RegionHeld3
namespace Go.Proofs.YtfhpjcgflejgnaaDoor
open Go.RowKit Go.Maps
set_option linter.unusedVariables false

set_option maxHeartbeats 8000000 in
set_option maxRecDepth 1000000 in
theorem newPants_0 (w : World) :
    Calls Tryd.prog 11 #[.int .i64 0] w fun e w' => (∃ q, e = .returned (.pointer q)) ∧ Below w.heap.size w w' := by
  have hmf : ∀ (fn : Fn) (first cap : Array Value) (w : World), (Instr.makeFunc fn first cap).run Tryd.prog w = .ok (.func fn first cap) w := fun _ _ _ _ => rfl
  go_enter Tryd.func11, Tryd.ntmps11
  have hsf := fun (a : Addr) (fn : Fn) (f c : Array Value) (m : Mode) (w : World) => run_store Tryd.prog w a (.func fn f c) m rfl
  go_wp2
  go_ret
  refine ⟨⟨_, rfl⟩, ?_⟩
  repeat' first
    | exact Below.refl _ _
    | refine Below.alloc ?_ ?_ _
    | (simp; done)
    | (simp; omega)
/-- A renderer with an empty map of ids. -/
def RendU (w w' : World) (e : Ending) : Prop := ∃ (b mb : Nat), e = .returned (.pointer (some ⟨b, 0, none⟩)) ∧ w'.cell? ⟨b, 11, none⟩ = some (.map (some mb)) ∧
  Hid (w'.ownsMap Tryd.prog 9 (plainElem Tryd.prog 3) mb 0 (.map [] : DataW Unit)) ∧ w.heap.size ≤ b ∧ w.heap.size ≤ mb
theorem below_gb {w w' : World} (hb : Below w.heap.size w w') : w.grownBy w' none := ⟨hb.os, hb.tape, hb.output, hb.size, fun k hk _ => hb.block k hk⟩
set_option maxHeartbeats 8000000 in
set_option maxRecDepth 1000000 in
theorem newHTML_0 (w : World) :
    Calls Tryd.prog 7 #[.agg #[.string ByteArray.empty, .string ByteArray.empty, .string ByteArray.empty, .string ByteArray.empty, .string ByteArray.empty, .int .i64 0, .string ByteArray.empty, .string ByteArray.empty, .string ByteArray.empty, .int .i64 0]] w fun e w' => RendU w w' e ∧ Below w.heap.size w w' := by
  have hmm := @run_makeMap Tryd.prog
  have hbit : (bits BinOp.and IntKind.i64 0 1024 != 0) = false := by decide +kernel
  go_enter Tryd.func7, Tryd.ntmps7
  go_wp2_with fail
  generalize hW1 : w.alloc _ = W1
  have q0 : W1.cell? ⟨w.heap.size, 0, none⟩ = some (.string ByteArray.empty) := by rw [← hW1]; simp [go_sem]
  have q1 : W1.cell? ⟨w.heap.size, 1, none⟩ = some (.string ByteArray.empty) := by rw [← hW1]; simp [go_sem]
  obtain ⟨S2, q2⟩ : ∃ S, W1.cell? ⟨w.heap.size, 2, none⟩ = some (.string S) := ⟨_, by rw [← hW1]; simp [go_sem]; rfl⟩
  have q3 : W1.cell? ⟨w.heap.size, 3, none⟩ = some (.string ByteArray.empty) := by rw [← hW1]; simp [go_sem]
  have q4 : W1.cell? ⟨w.heap.size, 4, none⟩ = some (.string ByteArray.empty) := by rw [← hW1]; simp [go_sem]
  have q5 : W1.cell? ⟨w.heap.size, 5, none⟩ = some (.int .i64 0) := by rw [← hW1]; simp [go_sem]
  have q6 : W1.cell? ⟨w.heap.size, 6, none⟩ = some (.string ByteArray.empty) := by rw [← hW1]; simp [go_sem]
  have q7 : W1.cell? ⟨w.heap.size, 7, none⟩ = some (.string ByteArray.empty) := by rw [← hW1]; simp [go_sem]
  have q8 : W1.cell? ⟨w.heap.size, 8, none⟩ = some (.string ByteArray.empty) := by rw [← hW1]; simp [go_sem]
  have q9 : W1.cell? ⟨w.heap.size, 9, none⟩ = some (.int .i64 0) := by rw [← hW1]; simp [go_sem]
  have hz : W1.heap.size = w.heap.size + 1 := by rw [← hW1]; simp
  have HB0 : Hid (Below w.heap.size w W1) := Lib.hid (by rw [← hW1]; exact (Below.refl _ _).alloc (Nat.le_refl _) _)
  have HZ := Lib.hid hz
  have hlt : w.heap.size < W1.heap.size := by omega
  clear hW1 hz
  generalize w.heap.size = b0 at q0 q1 q2 q3 q4 q5 q6 q7 q8 q9 hlt
  have hal : ∀ ob o, (W1.alloc ob).cell? ⟨b0, o, none⟩ = W1.cell? ⟨b0, o, none⟩ := fun ob o => ((Below.refl W1.heap.size W1).alloc (Nat.le_refl _) ob).cell (p := ⟨b0, o, none⟩) hlt
  go_region_held3 (fun w' => w'.cell? ⟨b0, 0, none⟩ = some (.string ByteArray.empty) ∧ w'.cell? ⟨b0, 1, none⟩ = some (.string ByteArray.empty) ∧ w'.cell? ⟨b0, 2, none⟩ = some (.string S2) ∧ w'.cell? ⟨b0, 3, none⟩ = some (.string ByteArray.empty) ∧ w'.cell? ⟨b0, 4, none⟩ = some (.string ByteArray.empty) ∧ w'.cell? ⟨b0, 5, none⟩ = some (.int .i64 0) ∧ w'.cell? ⟨b0, 6, none⟩ = some (.string ByteArray.empty) ∧ w'.cell? ⟨b0, 7, none⟩ = some (.string ByteArray.empty) ∧ w'.cell? ⟨b0, 8, none⟩ = some (.string ByteArray.empty) ∧ w'.cell? ⟨b0, 9, none⟩ = some (.int .i64 0))
    (first | go_keep | (refine ⟨?_, ?_, ?_, ?_, ?_, ?_, ?_, ?_, ?_, ?_⟩ <;> simp only [hcw, q0, q1, q2, q3, q4, q5, q6, q7, q8, q9]))
    (first
      | (go_at_call 11; refine (newPants_0 _).mono ?_; rintro e w1 ⟨⟨q, rfl⟩, hb1⟩; have hcw : ∀ o, w1.cell? ⟨b0, o, none⟩ = W1.cell? ⟨b0, o, none⟩ := fun o => (hb1.cell (p := ⟨b0, o, none⟩) (by simp; omega)).trans (by simp [hal])))
  all_goals
    clear q0 q1 q2 q3 q4 q5 q6 q7 q8 q9
    have HB1 := Lib.hid hb1
    clear hb1 hcw
    go_wp2
    go_ret
    first
      | exact ⟨⟨_, _, rfl, by simp [go_sem], Lib.hid (((World.ownsMap_made W1 _ _ _).drew.kept (row := none) (below_gb HB1.out) (by simp)).alloc _), by have := HZ.out; have := HB1.out.size; simp at this; omega, by have := HZ.out; omega⟩,
          (((HB0.out.alloc (by have := HZ.out; omega) _).drew).trans (HB1.out.mono (by have := HZ.out; simp; omega))).alloc (by have := HZ.out; have := HB1.out.size; simp at this; omega) _⟩
      | exact ⟨⟨_, _, rfl, by simp [go_sem], Lib.hid ((World.ownsMap_made _ _ _ _).alloc _), by have := HZ.out; have := HB1.out.size; simp at this; simp; omega, by have := HZ.out; have := HB1.out.size; simp at this; omega⟩,
          (((HB0.out.drew).trans (HB1.out.mono (by have := HZ.out; simp; omega))).alloc (by have := HZ.out; have := HB1.out.size; simp at this; omega) _).alloc (by have := HZ.out; have := HB1.out.size; simp at this; simp; omega) _⟩
end Go.Proofs.YtfhpjcgflejgnaaDoor
