/- The doors to the package's comments, and its answer at one text. -/
import Derived.Test.YtepomhngebfapaaDoorP2
namespace Go.Proofs.YtepomhngebfapaaDoor
open Go.RowKit
set_option linter.unusedVariables false

theorem commentDoor_any (q : Option Addr) (A : Option Addr) (n cap : Nat) (f : Nat → Int) (w : World) (B : Nat) (h : RB w B A n cap f) (hn : n ≤ 100000) :
    Calls Tryd.prog 7 #[.pointer q, .slice A n cap] w fun e w' => e = .returned (.int .i64 (cmF n f)) ∧ w = w' := by
  have C := Lib.hid (comment_any q A n cap f w B h hn)
  clear h
  go_enter Tryd.func7, Tryd.ntmps7
  go_wp2_with fail
  refine C.out.mono ?_
  rintro e w' ⟨rfl, rfl⟩
  go_wp2_with fail
  go_ret
  exact ⟨rfl, rfl⟩
theorem implComment_any (A : Option Addr) (n cap : Nat) (f : Nat → Int) (w : World) (h : RB w w.heap.size A n cap f) (hn : n ≤ 100000) :
    Calls Tryd.prog 4 #[.slice A n cap] w fun e w' => e = .returned (.int .i64 (cmF n f)) ∧ Below w.heap.size w w' := by
  have HH := Lib.hid h
  clear h
  go_enter Tryd.func4, Tryd.ntmps4
  go_wp2_with fail
  refine (parser_0 w).mono ?_
  rintro e w0 ⟨⟨q, rfl⟩, hb0⟩
  go_wp2_with fail
  refine (own_any A n cap f w0 ((HH.out.below hb0).more hb0.size) (by omega)).mono ?_
  rintro e w1 ⟨A1, c1, rfl, hc1, hb1⟩
  go_wp2_with fail
  refine (commentDoor_any q A1 n c1 f w1 _ hc1.out.2.1 hn).mono ?_
  rintro e w2 ⟨rfl, rfl⟩
  go_wp2_with fail
  go_ret
  exact ⟨rfl, hb0.trans (hb1.mono hb0.size)⟩
theorem rbc_marked (w : World) (l : List Int) (hl : ∀ x ∈ l, 0 ≤ x ∧ x ≤ 255) (h8 : l.length ≤ 100) (C : Array Value) (hC : C = (l.map (Value.int .u8)).toArray) (e : TypeId) (fz : Nat × Nat) :
    RB (w.alloc (.cells C e fz)) (w.heap.size + 1) (some ⟨w.heap.size, 0, none⟩) l.length l.length (fun j => l.getD j 0) := by
  subst hC
  refine ⟨Nat.le_refl _, by unfold maxLen; omega, fun j => ?_, fun _ => ⟨_, _, rfl, by omega, fun j hj => ?_⟩⟩
  · show 0 ≤ l.getD j 0 ∧ l.getD j 0 ≤ 255
    rcases Nat.lt_or_ge j l.length with hj | hj
    · exact hl _ (by rw [List.getD_eq_getElem?_getD, List.getElem?_eq_getElem hj]; exact List.getElem_mem hj)
    · rw [List.getD_eq_getElem?_getD, List.getElem?_eq_none hj]; simp
  rw [Nat.zero_add, World.cell?_alloc_mark]
  simp [hj]
theorem comment_b : cmF 12 (fun j => [60, 33, 45, 45, 32, 97, 32, 45, 45, 62, 32, 98].getD j 0) = 10 := by decide +kernel
theorem implComment_b (w : World) :
    Calls Tryd.prog 4 #[.slice (some ⟨w.heap.size, 0, none⟩) 12 12] (w.alloc (.cells #[.int .u8 60, .int .u8 33, .int .u8 45, .int .u8 45, .int .u8 32, .int .u8 97, .int .u8 32, .int .u8 45, .int .u8 45, .int .u8 62, .int .u8 32, .int .u8 98] 5 (12, 13))) fun e w' => e = .returned (.int .i64 10) ∧ Below w.heap.size w w' := by
  have hb0 := (Below.refl w.heap.size w).alloc (Nat.le_refl _) (.cells #[.int .u8 60, .int .u8 33, .int .u8 45, .int .u8 45, .int .u8 32, .int .u8 97, .int .u8 32, .int .u8 45, .int .u8 45, .int .u8 62, .int .u8 32, .int .u8 98] 5 (12, 13))
  have h := rbc_marked w [60, 33, 45, 45, 32, 97, 32, 45, 45, 62, 32, 98] (by simp) (by simp) _ rfl 5 (12, 13)
  refine (implComment_any _ 12 12 _ _ (RB.more h (by simp)) (by omega)).mono ?_
  rintro e w' ⟨rfl, hb⟩
  exact ⟨by rw [comment_b]; rfl, hb0.trans (hb.mono (by simp))⟩
end Go.Proofs.YtepomhngebfapaaDoor
