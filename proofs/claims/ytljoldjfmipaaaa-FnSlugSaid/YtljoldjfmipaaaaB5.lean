/- The thin package's slug. -/
import Derived.Test.YtljoldjfmipaaaaB4
namespace Go.Proofs.Ytljoldjfmipaaaa
open Go.RowKit

theorem slugLen_le (f : Nat → Int) (n : Nat) : slugLen f n ≤ n := by
  have h1 := (slo_shi (ginv f n)).2.1
  have h2 := (gT_len f n).1
  unfold slugLen; omega
theorem slugAt_rng (f : Nat → Int) (n : Nat) : ∀ j, 0 ≤ slugAt f n j ∧ slugAt f n j ≤ 255 := fun j => by
  unfold slugAt
  rcases Nat.lt_or_ge (slo (gT f n).1 + j) (gT f n).1.length with h | h
  · have := (ginv f n).rng ((gT f n).1.getD (slo (gT f n).1 + j) 0) (by rw [List.getD_eq_getElem?_getD, List.getElem?_eq_getElem h]; exact List.getElem_mem h)
    omega
  · rw [List.getD_eq_getElem?_getD, List.getElem?_eq_none h]; simp

theorem slugifyDoor_any (A : Option Addr) (n c : Nat) (f : Nat → Int) (w : World) (h : RB w w.heap.size A n c f) (hn : n ≤ 100000) :
    Calls Try.prog 22 #[.slice A n c] w fun e w' => ∃ v, e = .returned v ∧ Hid (IsSlug w' f n v) ∧ Below w.heap.size w w' := by
  have C := Lib.hid (slugify_any A n c f w h hn)
  clear h
  go_enter Try.func22, Try.ntmps22
  go_wp2_with fail
  refine C.out.mono ?_
  rintro e w' ⟨v, rfl, hs, hb⟩
  go_wp2
  go_ret
  exact ⟨v, rfl, hs, hb⟩

set_option maxHeartbeats 400000 in
theorem implSlug_any (A : Option Addr) (n c : Nat) (f : Nat → Int) (w : World) (h : RB w w.heap.size A n c f) (hn : n ≤ 100000) :
    Calls Try.prog 14 #[.slice A n c] w fun e w' => ∃ A' c', e = .returned (.slice A' (slugLen f n) c') ∧ Hid (RB w' w'.heap.size A' (slugLen f n) c' (slugAt f n)) ∧ Below w.heap.size w w' := by
  have hl := slugLen_le f n
  have C := Lib.hid (own_any A n c f w h (by omega))
  clear h
  go_enter Try.func14, Try.ntmps14
  go_wp2_with fail
  refine C.out.mono ?_
  rintro e w1 ⟨A1, c1, rfl, hc1, hb1⟩
  go_wp2_with fail
  refine (slugifyDoor_any A1 n c1 f w1 hc1.out.2.1 hn).mono ?_
  rintro e w2 ⟨v, rfl, hs, hb2⟩
  obtain ⟨A2, c2, rfl, hr2⟩ := hs.out
  have HR2 := Lib.hid hr2
  clear hr2 hs
  go_wp2_with fail
  refine (own_any A2 _ c2 _ w2 HR2.out (by omega)).mono ?_
  rintro e w3 ⟨A3, c3, rfl, hc3, hb3⟩
  go_wp2_with fail
  go_ret
  exact ⟨A3, c3, rfl, Lib.hid hc3.out.2.1, (hb1.trans (hb2.mono hb1.size)).trans (hb3.mono (Nat.le_trans hb1.size hb2.size))⟩

/-- Three bytes of a constant, in a marked block. -/
theorem rb_const (w : World) (x y z : Int) (hx : 0 ≤ x ∧ x ≤ 255) (hy : 0 ≤ y ∧ y ≤ 255) (hz : 0 ≤ z ∧ z ≤ 255) (e : TypeId) (fz : Nat × Nat) :
    RB (w.alloc (.cells #[.int .u8 x, .int .u8 y, .int .u8 z] e fz)) (w.heap.size + 1) (some ⟨w.heap.size, 0, none⟩) 3 3 (fun j => [x, y, z].getD j 0) := by
  refine ⟨Nat.le_refl _, by unfold maxLen; omega, fun j => ?_, fun _ => ⟨_, _, rfl, by omega, fun j hj => ?_⟩⟩
  · match j with
    | 0 => exact hx
    | 1 => exact hy
    | 2 => exact hz
    | j + 3 => simp
  · rw [Nat.zero_add, World.cell?_alloc_mark]
    match j, hj with
    | 0, _ => rfl
    | 1, _ => rfl
    | 2, _ => rfl
theorem slug_ab : slugLen (fun j => [97, 32, 98].getD j 0) 3 = 3 ∧ strOf ((List.range 3).map (slugAt (fun j => [97, 32, 98].getD j 0) 3)) = ⟨#[97, 45, 98]⟩ := by decide +kernel
theorem implSlug_ab (w : World) :
    Calls Try.prog 14 #[.slice (some ⟨w.heap.size, 0, none⟩) 3 3] (w.alloc (.cells #[.int .u8 97, .int .u8 32, .int .u8 98] 5 (3, 4))) fun e w' => ∃ A' c', e = .returned (.slice A' 3 c') ∧
      (convert 25 9 (.slice A' 3 c')).run Try.prog w' = .ok (.string ⟨#[97, 45, 98]⟩) w' ∧ Below w.heap.size w w' := by
  have hb0 := (Below.refl w.heap.size w).alloc (Nat.le_refl _) (.cells #[.int .u8 97, .int .u8 32, .int .u8 98] 5 (3, 4))
  have h := rb_const w 97 32 98 (by omega) (by omega) (by omega) 5 (3, 4)
  refine (implSlug_any _ 3 3 _ _ (h.more (by simp)) (by omega)).mono ?_
  rintro e w' ⟨A', c', rfl, hr, hb⟩
  obtain ⟨h1, h2⟩ := slug_ab
  have hr' := hr.out
  rw [h1] at hr'
  have hc := hr'.conv (P := Try.prog) 25 9 5 Try.underlying25 Try.underlying5 Try.underlying9
  rw [h2] at hc
  exact ⟨A', c', by rw [h1], hc, hb0.trans (hb.mono (by simp))⟩
end Go.Proofs.Ytljoldjfmipaaaa
