/- Reference definitions: the limits of the statement. -/
import Derived.Test.YtaljhebalgipjaaGreatDoorD9
namespace Go.Proofs.YtaljhebalgipjaaGreatDoor
open Go.RowKit
set_option linter.unusedVariables false

set_option maxHeartbeats 1600000 in
theorem isExt_of (x : Int) (w : World) :
    Calls Tryz.prog 12 #[.int .i64 x] w fun e w' => BoolP (0 ≤ x ∧ x ≤ 131070) e ∧ w' = w := by
  by_cases h0 : 0 ≤ x
  · by_cases h1 : x ≤ 131070
    · have HP := Lib.hid (And.intro h0 h1)
      go_enter Tryz.func12, Tryz.ntmps12
      go_wp2
      all_goals
        go_ret
        exact ⟨⟨_, rfl, fun _ => HP.out⟩, rfl⟩
    · go_enter Tryz.func12, Tryz.ntmps12
      go_wp2
      all_goals
        go_ret
        exact ⟨⟨false, rfl, fun h => by cases h⟩, rfl⟩
  · go_enter Tryz.func12, Tryz.ntmps12
    go_wp2
    all_goals
      go_ret
      exact ⟨⟨false, rfl, fun h => by cases h⟩, rfl⟩

theorem empty_size {s : ByteArray} (h : s.toList.isEmpty = true) : s.size = 0 := by
  rw [← decide_eq_emptyBytes] at h
  rw [of_decide_eq_true h]; rfl
/-- What the reference asks. -/
def DefP (bl q : Int) (id path title : ByteArray) : Prop := bl ≤ 3 ∧ idB id.data.toList = true ∧ idB path.data.toList = true ∧ (title.size = 0 ∨ LineP title) ∧ q ≤ 2
set_option maxHeartbeats 4000000 in
theorem isDef_of (w : World) (bl q : Int) (id path title : ByteArray) (nx : Bool) (h1 : id.size ≤ 2147483647) (h2 : path.size ≤ 2147483647) (h3 : title.size ≤ 2147483647) :
    Calls Tryz.prog 13 #[.agg #[.int .u8 bl, .string id, .string path, .string title, .int .u8 q, .bool nx]] w fun e w' => BoolP (DefP bl q id path title) e ∧ Below w.heap.size w w' := by
  have HB := Lib.hid ((Below.refl w.heap.size w).alloc (Nat.le_refl _) (.cells #[.int .u8 bl, .string id, .string path, .string title, .int .u8 q, .bool nx] 34))
  by_cases k1 : bl ≤ 3
  · cases e1 : idB id.data.toList with
    | false =>
      have E1 := Lib.hid e1
      clear e1
      go_enter Tryz.func13, Tryz.ntmps13
      go_wp2_with fail
      refine (isID_any id _ h1).mono ?_
      rintro e w' ⟨rfl, rfl⟩
      rw [E1.out]
      go_wp2
      go_ret
      exact ⟨⟨false, rfl, fun h => by cases h⟩, HB.out⟩
    | true =>
      cases e2 : idB path.data.toList with
      | false =>
        have E1 := Lib.hid e1; have E2 := Lib.hid e2
        clear e1 e2
        go_enter Tryz.func13, Tryz.ntmps13
        go_wp2_with fail
        refine (isID_any id _ h1).mono ?_
        rintro e w' ⟨rfl, rfl⟩
        rw [E1.out]
        go_wp2_with fail
        refine (isID_any path _ h2).mono ?_
        rintro e w' ⟨rfl, rfl⟩
        rw [E2.out]
        go_wp2
        go_ret
        exact ⟨⟨false, rfl, fun h => by cases h⟩, HB.out⟩
      | true =>
        have E1 := Lib.hid e1; have E2 := Lib.hid e2
        clear e1 e2
        go_enter Tryz.func13, Tryz.ntmps13
        go_wp2_with fail
        refine (isID_any id _ h1).mono ?_
        rintro e w' ⟨rfl, rfl⟩
        rw [E1.out]
        go_wp2_with fail
        refine (isID_any path _ h2).mono ?_
        rintro e w' ⟨rfl, rfl⟩
        rw [E2.out]
        by_cases k3 : title.toList.isEmpty = true
        · have K3 := Lib.hid k3
          by_cases kq : q ≤ 2
          · have HP : Hid (DefP bl q id path title) := Lib.hid ⟨k1, E1.out, E2.out, .inl (empty_size K3.out), kq⟩
            go_wp2
            go_ret
            exact ⟨⟨true, by first | rfl | exact ret_bool (decide_eq_true kq), fun _ => HP.out⟩, HB.out⟩
          · go_wp2
            go_ret
            exact ⟨⟨false, by first | rfl | exact ret_bool (decide_eq_false (by omega)), fun h => by cases h⟩, HB.out⟩
        · have k3' : title.toList.isEmpty = false := by simpa using k3
          clear k3
          go_wp2_with fail
          refine (isLine_of title _ h3).mono ?_
          rintro e w' ⟨⟨bb, rfl, hbb⟩, rfl⟩
          have HBB := Lib.hid hbb
          clear hbb
          cases bb with
          | false =>
            go_wp2
            all_goals
              go_ret
              exact ⟨⟨false, rfl, fun h => by cases h⟩, HB.out⟩
          | true =>
            by_cases kq : q ≤ 2
            · have HP : Hid (DefP bl q id path title) := Lib.hid ⟨k1, E1.out, E2.out, .inr (HBB.out rfl), kq⟩
              go_wp2
              go_ret
              exact ⟨⟨true, by first | rfl | exact ret_bool (decide_eq_true kq), fun _ => HP.out⟩, HB.out⟩
            · go_wp2
              go_ret
              exact ⟨⟨false, by first | rfl | exact ret_bool (decide_eq_false (by omega)), fun h => by cases h⟩, HB.out⟩
  · go_enter Tryz.func13, Tryz.ntmps13
    go_wp2
    go_ret
    exact ⟨⟨false, rfl, fun h => by cases h⟩, HB.out⟩
end Go.Proofs.YtaljhebalgipjaaGreatDoor
