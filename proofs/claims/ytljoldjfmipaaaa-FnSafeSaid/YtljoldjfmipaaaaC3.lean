/- The package's test for safe links. -/
import Derived.Test.YtljoldjfmipaaaaC2
import Derived.Test.YtljoldjfmipaaaaB3
import Derived.Lib.SmallJoins
namespace Go.Proofs.Ytljoldjfmipaaaa
open Go.RowKit
set_option linter.unusedVariables false

/-- A slice of slices of bytes, the k-th of which reads as the bytes g k. -/
def RowsB (w : World) (g m : Nat) (len : Nat → Nat) (f : Nat → Nat → Int) : Prop :=
  ∀ k, k < m → ∃ q, w.cell? ⟨g, k, none⟩ = some (.slice (some ⟨q, 0, none⟩) (len k) (len k)) ∧ RB w w.heap.size (some ⟨q, 0, none⟩) (len k) (len k) (f k)
theorem rb_marked (w : World) (l : List Int) (hl : ∀ x ∈ l, 0 ≤ x ∧ x ≤ 255) (h8 : l.length ≤ 100) (C : Array Value) (hC : C = (l.map (Value.int .u8)).toArray) (e : TypeId) (fz : Nat × Nat) :
    RB (w.alloc (.cells C e fz)) (w.heap.size + 1) (some ⟨w.heap.size, 0, none⟩) l.length l.length (fun j => l.getD j 0) := by
  subst hC
  refine ⟨Nat.le_refl _, by unfold maxLen; omega, getD_rng hl, fun _ => ⟨_, _, rfl, by omega, fun j hj => ?_⟩⟩
  rw [Nat.zero_add, World.cell?_alloc_mark]
  simp [hj]

theorem rows_paths (w : World) (e : TypeId) :
    RowsB ((((w.alloc (.cells #[.int .u8 47] 5 (1, 2))).alloc (.cells #[.int .u8 46, .int .u8 47] 5 (2, 3))).alloc (.cells #[.int .u8 46, .int .u8 46, .int .u8 47] 5 (3, 4))).alloc
      (.cells #[.slice (some ⟨w.heap.size, 0, none⟩) 1 1, .slice (some ⟨w.heap.size + 1, 0, none⟩) 2 2, .slice (some ⟨w.heap.size + 1 + 1, 0, none⟩) 3 3] e)) (w.heap.size + 1 + 1 + 1) 3 pathLen pathF := by
  intro k hk
  have a1 := rb_marked w [47] (by simp) (by simp) _ rfl 5 (1, 2)
  have a2 := rb_marked (w.alloc (.cells #[.int .u8 47] 5 (1, 2))) [46, 47] (by simp) (by simp) _ rfl 5 (2, 3)
  have a3 := rb_marked ((w.alloc (.cells #[.int .u8 47] 5 (1, 2))).alloc (.cells #[.int .u8 46, .int .u8 47] 5 (2, 3))) [46, 46, 47] (by simp) (by simp) _ rfl 5 (3, 4)
  simp only [World.size_alloc] at a2 a3
  rw [World.cell?_alloc_at _ _ _ _ (by simp)]
  match k, hk with
  | 0, _ => exact ⟨_, rfl, RB.more (a1.below ((((Below.refl _ _).alloc (by simp) _).alloc (by simp) _).alloc (by simp) _)) (by simp)⟩
  | 1, _ => exact ⟨_, rfl, RB.more (a2.below (((Below.refl _ _).alloc (by simp) _).alloc (by simp) _)) (by simp)⟩
  | 2, _ => exact ⟨_, rfl, RB.more (a3.below ((Below.refl _ _).alloc (by simp) _)) (by simp)⟩

set_option maxHeartbeats 400000 in
theorem validPaths_any (w : World) :
    Calls Try.prog 31 #[] w fun e w' => ∃ g, e = .returned (.slice (some ⟨g, 0, none⟩) 3 3) ∧ Hid (RowsB w' g 3 pathLen pathF) ∧ Below w.heap.size w w' := by
  have kc := fun (w : World) (C : Array Value) (n c g : Nat) (hg : g = w.heap.size) => Joins.run_convert_bytes_const_at (P := Try.prog) w 25 5 C n c g hg Try.underlying25 Try.underlying5
  go_enter Try.func31, Try.ntmps31
  go_wp2
  go_ret
  exact ⟨_, rfl, rows_paths w _, ((((Below.refl _ _).alloc (by simp <;> omega) _).alloc (by simp <;> omega) _).alloc (by simp <;> omega) _).alloc (by simp <;> omega) _⟩

theorem rows_uris (w : World) (e : TypeId) :
    RowsB (((((w.alloc (.cells #[.int .u8 104, .int .u8 116, .int .u8 116, .int .u8 112, .int .u8 58, .int .u8 47, .int .u8 47] 5 (7, 8))).alloc (.cells #[.int .u8 104, .int .u8 116, .int .u8 116, .int .u8 112, .int .u8 115, .int .u8 58, .int .u8 47, .int .u8 47] 5 (8, 9))).alloc
      (.cells #[.int .u8 102, .int .u8 116, .int .u8 112, .int .u8 58, .int .u8 47, .int .u8 47] 5 (6, 7))).alloc (.cells #[.int .u8 109, .int .u8 97, .int .u8 105, .int .u8 108, .int .u8 116, .int .u8 111, .int .u8 58, .int .u8 47, .int .u8 47] 5 (9, 10))).alloc
      (.cells #[.slice (some ⟨w.heap.size, 0, none⟩) 7 7, .slice (some ⟨w.heap.size + 1, 0, none⟩) 8 8, .slice (some ⟨w.heap.size + 1 + 1, 0, none⟩) 6 6, .slice (some ⟨w.heap.size + 1 + 1 + 1, 0, none⟩) 9 9] e)) (w.heap.size + 1 + 1 + 1 + 1) 4 uriLen uriF := by
  intro k hk
  have a1 := rb_marked w [104, 116, 116, 112, 58, 47, 47] (by simp) (by simp) _ rfl 5 (7, 8)
  have a2 := rb_marked (w.alloc (.cells #[.int .u8 104, .int .u8 116, .int .u8 116, .int .u8 112, .int .u8 58, .int .u8 47, .int .u8 47] 5 (7, 8))) [104, 116, 116, 112, 115, 58, 47, 47] (by simp) (by simp) _ rfl 5 (8, 9)
  have a3 := rb_marked ((w.alloc (.cells #[.int .u8 104, .int .u8 116, .int .u8 116, .int .u8 112, .int .u8 58, .int .u8 47, .int .u8 47] 5 (7, 8))).alloc (.cells #[.int .u8 104, .int .u8 116, .int .u8 116, .int .u8 112, .int .u8 115, .int .u8 58, .int .u8 47, .int .u8 47] 5 (8, 9))) [102, 116, 112, 58, 47, 47] (by simp) (by simp) _ rfl 5 (6, 7)
  have a4 := rb_marked (((w.alloc (.cells #[.int .u8 104, .int .u8 116, .int .u8 116, .int .u8 112, .int .u8 58, .int .u8 47, .int .u8 47] 5 (7, 8))).alloc (.cells #[.int .u8 104, .int .u8 116, .int .u8 116, .int .u8 112, .int .u8 115, .int .u8 58, .int .u8 47, .int .u8 47] 5 (8, 9))).alloc
      (.cells #[.int .u8 102, .int .u8 116, .int .u8 112, .int .u8 58, .int .u8 47, .int .u8 47] 5 (6, 7))) [109, 97, 105, 108, 116, 111, 58, 47, 47] (by simp) (by simp) _ rfl 5 (9, 10)
  simp only [World.size_alloc] at a2 a3 a4
  rw [World.cell?_alloc_at _ _ _ _ (by simp)]
  match k, hk with
  | 0, _ => exact ⟨_, rfl, RB.more (a1.below (((((Below.refl _ _).alloc (by simp) _).alloc (by simp) _).alloc (by simp) _).alloc (by simp) _)) (by simp)⟩
  | 1, _ => exact ⟨_, rfl, RB.more (a2.below ((((Below.refl _ _).alloc (by simp) _).alloc (by simp) _).alloc (by simp) _)) (by simp)⟩
  | 2, _ => exact ⟨_, rfl, RB.more (a3.below (((Below.refl _ _).alloc (by simp) _).alloc (by simp) _)) (by simp)⟩
  | 3, _ => exact ⟨_, rfl, RB.more (a4.below ((Below.refl _ _).alloc (by simp) _)) (by simp)⟩

set_option maxHeartbeats 800000 in
theorem validUris_any (w : World) :
    Calls Try.prog 32 #[] w fun e w' => ∃ g, e = .returned (.slice (some ⟨g, 0, none⟩) 4 4) ∧ Hid (RowsB w' g 4 uriLen uriF) ∧ Below w.heap.size w w' := by
  have kc := fun (w : World) (C : Array Value) (n c g : Nat) (hg : g = w.heap.size) => Joins.run_convert_bytes_const_at (P := Try.prog) w 25 5 C n c g hg Try.underlying25 Try.underlying5
  go_enter Try.func32, Try.ntmps32
  go_wp2
  go_ret
  exact ⟨_, rfl, rows_uris w _, (((((Below.refl _ _).alloc (by simp <;> omega) _).alloc (by simp <;> omega) _).alloc (by simp <;> omega) _).alloc (by simp <;> omega) _).alloc (by simp <;> omega) _⟩
end Go.Proofs.Ytljoldjfmipaaaa
