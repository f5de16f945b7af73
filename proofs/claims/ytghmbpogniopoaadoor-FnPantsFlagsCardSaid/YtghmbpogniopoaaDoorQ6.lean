/- Punctuation: the door on three dots; flags. -/
import Derived.Test.YtghmbpogniopoaaDoorQ5
import Derived.Test.YtghmbpogniopoaaDoorB1e
namespace Go.Proofs.YtghmbpogniopoaaDoor
open Go.RowKit
set_option linter.unusedVariables false

theorem rb_dots (w : World) (e : TypeId) (fz : Nat × Nat) :
    RB (w.alloc (.cells #[.int .u8 46, .int .u8 46, .int .u8 46] e fz)) (w.heap.size + 1) (some ⟨w.heap.size, 0, none⟩) 3 3 (fun _ => 46) := by
  refine ⟨Nat.le_refl _, by unfold maxLen; omega, fun j => by simp, fun _ => ⟨_, _, rfl, by omega, fun j hj => ?_⟩⟩
  rw [Nat.zero_add, World.cell?_alloc_mark]
  match j, hj with
  | 0, _ => rfl
  | 1, _ => rfl
  | 2, _ => rfl
theorem dots_str : strOf ((List.range 8).map dotsF) = ⟨#[38, 104, 101, 108, 108, 105, 112, 59]⟩ := by decide +kernel
theorem pants_dots (w : World) :
    Calls Tryd.prog 7 #[.int .i64 0, .slice (some ⟨w.heap.size, 0, none⟩) 3 3] (w.alloc (.cells #[.int .u8 46, .int .u8 46, .int .u8 46] 5 (3, 4))) fun e w' => ∃ A' c', e = .returned (.slice A' 8 c') ∧
      (convert 22 9 (.slice A' 8 c')).run Tryd.prog w' = .ok (.string ⟨#[38, 104, 101, 108, 108, 105, 112, 59]⟩) w' ∧ Below w.heap.size w w' := by
  have hb0 := (Below.refl w.heap.size w).alloc (Nat.le_refl _) (.cells #[.int .u8 46, .int .u8 46, .int .u8 46] 5 (3, 4))
  have h := rb_dots w 5 (3, 4)
  refine (pants_of 0 (by omega) (by omega) 3 (fun _ => 46) 8 dotsF dots_rng (by omega) (by omega) (dots_wrote 0) _ _ _ (h.more (by simp))).mono ?_
  rintro e w' ⟨A', c', rfl, hr, hb⟩
  have hc := hr.out.conv (P := Tryd.prog) 22 9 5 Tryd.underlying22 Tryd.underlying5 Tryd.underlying9
  rw [dots_str] at hc
  exact ⟨A', c', rfl, hc, hb0.trans (hb.mono (by simp))⟩
theorem isFlags_any (x : Int) (w : World) : Calls Tryd.prog 5 #[.int .i64 x] w fun e w' => e = .returned (.bool (decide (0 ≤ x) && decide (x < 524288))) ∧ w = w' := by
  go_enter Tryd.func5, Tryd.ntmps5
  go_wp2
  all_goals
    go_ret
    exact ⟨ret_bool (by rw [Bool.eq_iff_iff]; simp at *; omega), rfl⟩
end Go.Proofs.YtghmbpogniopoaaDoor
