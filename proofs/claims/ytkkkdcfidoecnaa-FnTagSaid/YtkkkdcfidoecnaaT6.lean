/- The doors to the package's reading of a tag, and its answer at an address of mail. -/
import Derived.Test.YtkkkdcfidoecnaaT4a
import Derived.Test.YtkkkdcfidoecnaaT4b
import Derived.Test.YtkkkdcfidoecnaaT5a
import Derived.Test.YtkkkdcfidoecnaaT5b
import Derived.Test.YtkkkdcfidoecnaaB1
namespace Go.Proofs.Ytkkkdcfidoecnaa
open Go.RowKit
set_option linter.unusedVariables false

theorem tagLength_any (A : Option Addr) (n cap : Nat) (f : Nat → Int) (w : World) (B : Nat) (h : RB w B A n cap f) (hn : n ≤ 100000) :
    Calls Try.prog 21 #[.slice A n cap] w fun e w' => ∃ k en : Nat, e = .returned (.tuple #[.int .i64 k, .int .i64 en]) ∧ Hid (IsTag n f k en) ∧ w = w' := by
  by_cases h1 : f 1 = 47
  · exact tagLength_2 A n cap f w B h hn h1
  · exact tagLength_1 A n cap f w B h hn h1
theorem tagOf_any (A : Option Addr) (n cap : Nat) (f : Nat → Int) (w : World) (B : Nat) (h : RB w B A n cap f) (hn : n ≤ 100000) :
    Calls Try.prog 9 #[.slice A n cap] w fun e w' => ∃ k en : Nat, e = .returned (.tuple #[.int .i64 k, .int .i64 en]) ∧ Hid (IsTag n f k en) ∧ w = w' := by
  by_cases h1 : f 1 = 47
  · exact tagOf_2 A n cap f w B h hn h1
  · exact tagOf_1 A n cap f w B h hn h1
theorem tagDoor_any (A : Option Addr) (n cap : Nat) (f : Nat → Int) (w : World) (B : Nat) (h : RB w B A n cap f) (hn : n ≤ 100000) :
    Calls Try.prog 13 #[.slice A n cap] w fun e w' => ∃ k en : Nat, e = .returned (.tuple #[.int .i64 k, .int .i64 en]) ∧ Hid (IsTag n f k en) ∧ w = w' := by
  have C := Lib.hid (tagLength_any A n cap f w B h hn)
  clear h
  go_enter Try.func13, Try.ntmps13
  go_wp2_with fail
  refine C.out.mono ?_
  rintro e w' ⟨k, en, rfl, hr, rfl⟩
  go_wp2_with fail
  go_ret2
  exact ⟨k, en, rfl, hr, rfl⟩
theorem implTag_any (A : Option Addr) (n cap : Nat) (f : Nat → Int) (w : World) (h : RB w w.heap.size A n cap f) (hn : n ≤ 100000) :
    Calls Try.prog 8 #[.slice A n cap] w fun e w' => ∃ k en : Nat, e = .returned (.tuple #[.int .i64 k, .int .i64 en]) ∧ Hid (IsTag n f k en) ∧ Below w.heap.size w w' := by
  have C := Lib.hid (own_any A n cap f w h (by omega))
  clear h
  go_enter Try.func8, Try.ntmps8
  go_wp2_with fail
  refine C.out.mono ?_
  rintro e w1 ⟨A1, c1, rfl, hc1, hb1⟩
  go_wp2_with fail
  refine (tagDoor_any A1 n c1 f w1 _ hc1.out.2.1 hn).mono ?_
  rintro e w2 ⟨k, en, rfl, hr, rfl⟩
  go_wp2_with fail
  go_ret2
  exact ⟨k, en, rfl, hr, hb1⟩
theorem rbt_marked (w : World) (l : List Int) (hl : ∀ x ∈ l, 0 ≤ x ∧ x ≤ 255) (h8 : l.length ≤ 100) (C : Array Value) (hC : C = (l.map (Value.int .u8)).toArray) (e : TypeId) (fz : Nat × Nat) :
    RB (w.alloc (.cells C e fz)) (w.heap.size + 1) (some ⟨w.heap.size, 0, none⟩) l.length l.length (fun j => l.getD j 0) := by
  subst hC
  refine ⟨Nat.le_refl _, by unfold maxLen; omega, fun j => ?_, fun _ => ⟨_, _, rfl, by omega, fun j hj => ?_⟩⟩
  · show 0 ≤ l.getD j 0 ∧ l.getD j 0 ≤ 255
    rcases Nat.lt_or_ge j l.length with hj | hj
    · exact hl _ (by rw [List.getD_eq_getElem?_getD, List.getElem?_eq_getElem hj]; exact List.getElem_mem hj)
    · rw [List.getD_eq_getElem?_getD, List.getElem?_eq_none hj]; simp
  rw [Nat.zero_add, World.cell?_alloc_mark]
  simp [hj]
theorem tag_b : IsTag 7 (fun j => [60, 97, 64, 98, 46, 99, 62].getD j 0) 2 7 :=
  tag_any fun r => by
    have h1 : tag1 7 (fun j => [60, 97, 64, 98, 46, 99, 62].getD j 0) = 2 := by decide +kernel
    have h2 : mailHere 7 (fun j => [60, 97, 64, 98, 46, 99, 62].getD j 0) 2 = 5 := by decide +kernel
    unfold tagF
    rw [h1, h2, if_neg (by omega), if_neg (by decide), if_neg (by decide), if_pos (by omega)]
theorem implTag_b (w : World) :
    Calls Try.prog 8 #[.slice (some ⟨w.heap.size, 0, none⟩) 7 7] (w.alloc (.cells #[.int .u8 60, .int .u8 97, .int .u8 64, .int .u8 98, .int .u8 46, .int .u8 99, .int .u8 62] 5 (7, 8))) fun e w' => e = .returned (.tuple #[.int .i64 2, .int .i64 7]) ∧ Below w.heap.size w w' := by
  have hb0 := (Below.refl w.heap.size w).alloc (Nat.le_refl _) (.cells #[.int .u8 60, .int .u8 97, .int .u8 64, .int .u8 98, .int .u8 46, .int .u8 99, .int .u8 62] 5 (7, 8))
  have h := rbt_marked w [60, 97, 64, 98, 46, 99, 62] (by simp) (by simp) _ rfl 5 (7, 8)
  refine (implTag_any _ 7 7 _ _ (RB.more h (by simp)) (by omega)).mono ?_
  rintro e w' ⟨k, en, rfl, hr, hb⟩
  obtain ⟨rfl, rfl⟩ := hr.out.unique tag_b
  exact ⟨rfl, hb0.trans (hb.mono (by simp))⟩
end Go.Proofs.Ytkkkdcfidoecnaa
