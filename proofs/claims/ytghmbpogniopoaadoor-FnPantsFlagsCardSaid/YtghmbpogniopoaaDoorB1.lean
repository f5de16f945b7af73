/- Contracts of the functions that copy and compare slices of bytes. -/
import Derived.Test.YtghmbpogniopoaaDoorRows
import Derived.Test.YtghmbpogniopoaaDoorMem2
namespace Go.Proofs.YtghmbpogniopoaaDoor
open Go.RowKit
set_option linter.unusedVariables false

theorem Tryd.infoB : (Tryd.prog.info? 5).map (fun i => (i.zero, i.size, i.bytes)) = some (some (.int .u8 0), 1, 1) := by kernel_rfl

/-- A copy: nil stays nil; else a new row of its own. -/
def Copied (w w' : World) (A : Option Addr) (n : Nat) (f : Nat → Int) (A' : Option Addr) (c' : Nat) : Prop :=
  w'.ownsRow w.heap.size 5 1 (.slice A' n c') n (((List.range n).map f).map (Value.int .u8)) ∧ RB w' w'.heap.size A' n c' f ∧ A'.isSome = A.isSome

theorem copied_nil {w : World} {c : Nat} {f : Nat → Int} (h : RB w w.heap.size none 0 c f) : Copied w w none 0 f none 0 :=
  ⟨World.ownsRow_nil _ _ _ _, ⟨Nat.le_refl _, by unfold maxLen; omega, h.rng, fun h => absurd h (by omega)⟩, rfl⟩
theorem copied_of {w w' : World} {A : Option Addr} {n : Nat} {f : Nat → Int} {A' : Option Addr} {c' : Nat} (hr : ∀ j, 0 ≤ f j ∧ f j ≤ 255) (hA : A.isSome = true) (hA' : A'.isSome = true)
    (h : w'.ownsRow w.heap.size 5 1 (.slice A' n c') n (((List.range n).map f).map (Value.int .u8))) : Copied w w' A n f A' c' := by
  refine ⟨h, ?_, by rw [hA, hA']⟩
  have hl : ((List.range n).map f).length = n := by simp
  have h2 : w'.ownsRow w.heap.size 5 1 (.slice A' ((List.range n).map f).length c') ((List.range n).map f).length (((List.range n).map f).map (Value.int .u8)) := by rw [hl]; exact h
  have := RB.of_own h2 (by intro x hx; simp only [List.mem_map, List.mem_range] at hx; obtain ⟨j, _, rfl⟩ := hx; exact hr j)
  rw [hl] at this
  exact this.same (fun j hj => by simp [hj]) hr
theorem nil_len {w : World} {B n c : Nat} {f : Nat → Int} (h : RB w B none n c f) : n = 0 := by
  rcases Nat.eq_zero_or_pos n with h0 | h0
  · exact h0
  · obtain ⟨b, off, e, _⟩ := h.2.2.2 h0; cases e

set_option maxHeartbeats 400000 in
theorem clone_any (A : Option Addr) (n c : Nat) (f : Nat → Int) (w : World) (h : RB w w.heap.size A n c f) (hn : n ≤ 140737488351232) :
    Calls Tryd.prog 8 #[.slice A n c] w fun e w' => ∃ A' c', e = .returned (.slice A' n c') ∧ Hid (Copied w w' A n f A' c') ∧ Below w.heap.size w w' := by
  obtain ⟨i0, hi, hz0, hz1, hz2⟩ := info_parts Tryd.infoB
  have q : ∀ (w : World) (a : Option Addr) (n c n' c' : Nat), (binOp .eql 22 (.slice a n c) (.slice none n' c')).run Tryd.prog w = .ok (.bool a.isNone) w := fun w a n c n' c' => Lib.run_eql_slice_nil w _ _ a n c n' c' Tryd.underlying22
  cases A with
  | none =>
    obtain rfl := nil_len h
    have HC := Lib.hid (copied_nil h)
    clear h
    go_enter Tryd.func8, Tryd.ntmps8
    go_wp2
    go_ret
    exact ⟨_, _, rfl, HC, Below.refl _ _⟩
  | some a =>
    have H1 := Lib.hid (RB.more (h.below ((Below.refl _ w).alloc (Nat.le_refl _) (.cells #[] 5))) (B' := w.heap.size + 1) (by omega))
    have HR := Lib.hid h.rng
    have hown0 : (w.alloc (.cells #[] 5)).ownsRow w.heap.size 5 1 (.slice (some ⟨w.heap.size, 0, none⟩) 0 0) 0 (([] : List Int).map (Value.int .u8)) :=
      World.ownsRow_made w #[] 0 (Nat.le_refl _) (by unfold maxLen; omega) (by simp)
    have HO := Lib.hid hown0
    clear h hown0
    go_enter Tryd.func8, Tryd.ntmps8
    go_wp2_with (at_builtin; refine wpList_appB (.tmp 5) (.tmp 6) _ w.heap.size 5 i0 (.int .u8 0) _ _ 0 0 [] HO.out _ _ _ _ _ H1.out rfl rfl rfl Tryd.underlying22 hi hz0 hz1 hz2 rfl rfl rfl (by omega) (by simp) ?_; intro A1 c1 w1 hown1 hg1 hs1)
    go_ret
    refine ⟨A1, c1, ?_, Lib.hid (copied_of HR.out rfl (by simpa using hs1) (by simpa using hown1)), ((Below.refl _ w).alloc (Nat.le_refl _) _).grown hg1 (by simp) (fun k hk => by simp at hk; omega)⟩
    simp
set_option maxHeartbeats 400000 in
theorem own_any (A : Option Addr) (n c : Nat) (f : Nat → Int) (w : World) (h : RB w w.heap.size A n c f) (hn : n ≤ 140737488351232) :
    Calls Tryd.prog 13 #[.slice A n c] w fun e w' => ∃ A' c', e = .returned (.slice A' n c') ∧ Hid (Copied w w' A n f A' c') ∧ Below w.heap.size w w' := by
  obtain ⟨i0, hi, hz0, hz1, hz2⟩ := info_parts Tryd.infoB
  have q : ∀ (w : World) (a : Option Addr) (n c n' c' : Nat), (binOp .eql 22 (.slice a n c) (.slice none n' c')).run Tryd.prog w = .ok (.bool a.isNone) w := fun w a n c n' c' => Lib.run_eql_slice_nil w _ _ a n c n' c' Tryd.underlying22
  cases A with
  | none =>
    obtain rfl := nil_len h
    have HC := Lib.hid (copied_nil h)
    clear h
    go_enter Tryd.func13, Tryd.ntmps13
    go_wp2
    go_ret
    exact ⟨_, _, rfl, HC, Below.refl _ _⟩
  | some a =>
    have H1 := Lib.hid (RB.more (h.below ((Below.refl _ w).alloc (Nat.le_refl _) (.cells #[] 5))) (B' := w.heap.size + 1) (by omega))
    have HR := Lib.hid h.rng
    have hown0 : (w.alloc (.cells #[] 5)).ownsRow w.heap.size 5 1 (.slice (some ⟨w.heap.size, 0, none⟩) 0 0) 0 (([] : List Int).map (Value.int .u8)) :=
      World.ownsRow_made w #[] 0 (Nat.le_refl _) (by unfold maxLen; omega) (by simp)
    have HO := Lib.hid hown0
    clear h hown0
    go_enter Tryd.func13, Tryd.ntmps13
    go_wp2_with (at_builtin; refine wpList_appB (.tmp 5) (.tmp 6) _ w.heap.size 5 i0 (.int .u8 0) _ _ 0 0 [] HO.out _ _ _ _ _ H1.out rfl rfl rfl Tryd.underlying22 hi hz0 hz1 hz2 rfl rfl rfl (by omega) (by simp) ?_; intro A1 c1 w1 hown1 hg1 hs1)
    go_ret
    refine ⟨A1, c1, ?_, Lib.hid (copied_of HR.out rfl (by simpa using hs1) (by simpa using hown1)), ((Below.refl _ w).alloc (Nat.le_refl _) _).grown hg1 (by simp) (fun k hk => by simp at hk; omega)⟩
    simp

end Go.Proofs.YtghmbpogniopoaaDoor
