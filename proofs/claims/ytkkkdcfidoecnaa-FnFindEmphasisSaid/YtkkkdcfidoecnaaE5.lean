/- The doors to the package's search, and its answer at two bytes. -/
import Derived.Test.YtkkkdcfidoecnaaE2
import Derived.Test.YtkkkdcfidoecnaaB1
import Derived.Test.YtkkkdcfidoecnaaE4
namespace Go.Proofs.Ytkkkdcfidoecnaa
open Go.RowKit
set_option linter.unusedVariables false

theorem emphDoor_any (A : Option Addr) (n cap : Nat) (f : Nat → Int) (c : Int) (w : World) (B : Nat) (h : RB w B A n cap f) (hn : n ≤ 100000) (hc : c = 42 ∨ c = 95 ∨ c = 126) :
    Calls Try.prog 10 #[.slice A n cap, .int .u8 c] w fun e w' => ∃ r : Nat, e = .returned (.int .i64 r) ∧ Hid (OutE c n f 0 r) ∧ w = w' := by
  have C := Lib.hid (findEmph_any A n cap f c w B h hn hc)
  clear h hc
  go_enter Try.func10, Try.ntmps10
  go_wp2_with fail
  refine C.out.mono ?_
  rintro e w' ⟨r, rfl, hr, rfl⟩
  go_wp2_with fail
  go_ret
  exact ⟨r, rfl, hr, rfl⟩
theorem implEmph_any (A : Option Addr) (n cap : Nat) (f : Nat → Int) (c : Int) (w : World) (h : RB w w.heap.size A n cap f) (hn : n ≤ 100000) (hc : c = 42 ∨ c = 95 ∨ c = 126) :
    Calls Try.prog 5 #[.slice A n cap, .int .u8 c] w fun e w' => ∃ r : Nat, e = .returned (.int .i64 r) ∧ Hid (OutE c n f 0 r) ∧ Below w.heap.size w w' := by
  have C := Lib.hid (own_any A n cap f w h (by omega))
  have HCC := Lib.hid hc
  clear h hc
  go_enter Try.func5, Try.ntmps5
  go_wp2_with fail
  refine C.out.mono ?_
  rintro e w1 ⟨A1, c1, rfl, hc1, hb1⟩
  go_wp2_with fail
  refine (emphDoor_any A1 n c1 f c w1 _ hc1.out.2.1 hn HCC.out).mono ?_
  rintro e w2 ⟨r, rfl, hr, rfl⟩
  go_wp2_with fail
  go_ret
  exact ⟨r, rfl, hr, hb1⟩
theorem rbe_marked (w : World) (l : List Int) (hl : ∀ x ∈ l, 0 ≤ x ∧ x ≤ 255) (h8 : l.length ≤ 100) (C : Array Value) (hC : C = (l.map (Value.int .u8)).toArray) (e : TypeId) (fz : Nat × Nat) :
    RB (w.alloc (.cells C e fz)) (w.heap.size + 1) (some ⟨w.heap.size, 0, none⟩) l.length l.length (fun j => l.getD j 0) := by
  subst hC
  refine ⟨Nat.le_refl _, by unfold maxLen; omega, fun j => ?_, fun _ => ⟨_, _, rfl, by omega, fun j hj => ?_⟩⟩
  · show 0 ≤ l.getD j 0 ∧ l.getD j 0 ≤ 255
    rcases Nat.lt_or_ge j l.length with hj | hj
    · exact hl _ (by rw [List.getD_eq_getElem?_getD, List.getElem?_eq_getElem hj]; exact List.getElem_mem hj)
    · rw [List.getD_eq_getElem?_getD, List.getElem?_eq_none hj]; simp
  rw [Nat.zero_add, World.cell?_alloc_mark]
  simp [hj]
theorem emph_a : stepE 42 2 (fun j => [97, 42].getD j 0) 0 = .inl 1 := by decide +kernel
theorem implEmph_a (w : World) :
    Calls Try.prog 5 #[.slice (some ⟨w.heap.size, 0, none⟩) 2 2, .int .u8 42] (w.alloc (.cells #[.int .u8 97, .int .u8 42] 5 (2, 3))) fun e w' => e = .returned (.int .i64 1) ∧ Below w.heap.size w w' := by
  have hb0 := (Below.refl w.heap.size w).alloc (Nat.le_refl _) (.cells #[.int .u8 97, .int .u8 42] 5 (2, 3))
  have h := rbe_marked w [97, 42] (by simp) (by simp) _ rfl 5 (2, 3)
  refine (implEmph_any _ 2 2 _ 42 _ (RB.more h (by simp)) (by omega) (.inl rfl)).mono ?_
  rintro e w' ⟨r, rfl, hr, hb⟩
  obtain rfl := hr.out.unique 1 (.done _ _ emph_a)
  exact ⟨rfl, hb0.trans (hb.mono (by simp))⟩
end Go.Proofs.Ytkkkdcfidoecnaa
