/- Punctuation: the classes of characters. -/
import Derived.Test.YtghmbpogniopoaaDoorF2
import Derived.Lib.SlBytesConst
namespace Go.Proofs.YtghmbpogniopoaaDoor
open Go.RowKit
set_option linter.unusedVariables false

def spc (c : Int) : Bool := decide (c = 32 ∨ (9 ≤ c ∧ c ≤ 13))
def pu (c : Int) : Bool := decide ((33 ≤ c ∧ c ≤ 47) ∨ (58 ≤ c ∧ c ≤ 64) ∨ (91 ≤ c ∧ c ≤ 96) ∨ (123 ≤ c ∧ c ≤ 126))
def wbd (c : Int) : Bool := decide (c = 0) || spc c || pu c
def dgt (c : Int) : Bool := decide (48 ≤ c ∧ c ≤ 57)
def low (c : Int) : Int := if 65 ≤ c ∧ c ≤ 90 then c + 32 else c
def puL : List Int := [33, 34, 35, 36, 37, 38, 39, 40, 41, 42, 43, 44, 45, 46, 47, 58, 59, 60, 61, 62, 63, 64, 91, 92, 93, 94, 95, 96, 123, 124, 125, 126]
def puF (j : Nat) : Int := puL.getD j 0
theorem tolower_any (c : Int) (w : World) (hc : 0 ≤ c ∧ c ≤ 255) :
    Calls Tryd.prog 30 #[.int .u8 c] w fun e w' => e = .returned (.int .u8 (low c)) ∧ w = w' := by
  go_enter Tryd.func30, Tryd.ntmps30
  go_wp2
  all_goals go_ret
  all_goals exact ⟨ret_int (by unfold low; split <;> omega), rfl⟩
theorem isdigit_any (c : Int) (w : World) :
    Calls Tryd.prog 35 #[.int .u8 c] w fun e w' => e = .returned (.bool (dgt c)) ∧ w = w' := by
  go_enter Tryd.func35, Tryd.ntmps35
  go_wp2
  all_goals go_ret
  all_goals exact ⟨ret_bool (by first | rfl | (rw [Bool.eq_iff_iff]; simp [dgt] <;> omega)), rfl⟩
theorem isspace_any (c : Int) (w : World) :
    Calls Tryd.prog 38 #[.int .u8 c] w fun e w' => e = .returned (.bool (spc c)) ∧ w = w' := by
  go_enter Tryd.func38, Tryd.ntmps38
  go_wp2
  all_goals go_ret
  all_goals refine ⟨ret_bool ?_, rfl⟩
  all_goals first | rfl | (simp_all [spc]; done) | (rw [Bool.eq_iff_iff]; simp_all [spc] <;> omega)
theorem pu_in {c : Int} (h : pu c = true) : ∃ j, j < 32 ∧ puF j = c := by
  have h' := of_decide_eq_true h
  have hall : ∀ k : Fin 128, ((33 ≤ (k.val : Int) ∧ (k.val : Int) ≤ 47) ∨ (58 ≤ (k.val : Int) ∧ (k.val : Int) ≤ 64) ∨ (91 ≤ (k.val : Int) ∧ (k.val : Int) ≤ 96) ∨ (123 ≤ (k.val : Int) ∧ (k.val : Int) ≤ 126)) → ∃ j : Fin 32, puF j.val = (k.val : Int) := by decide +kernel
  obtain ⟨j, hj⟩ := hall ⟨c.toNat, by omega⟩ (by simp only; omega)
  exact ⟨j.val, j.isLt, by rw [hj]; simp only; omega⟩
theorem pu_of (j : Nat) (hj : j < 32) : pu (puF j) = true := by
  have hall : ∀ j : Fin 32, pu (puF j.val) = true := by decide +kernel
  exact hall ⟨j, hj⟩
set_option maxHeartbeats 1600000 in
theorem ispunct_any (c : Int) (w : World) :
    Calls Tryd.prog 39 #[.int .u8 c] w fun e w' => e = .returned (.bool (pu c)) ∧ Below w.heap.size w w' := by
  have kc := fun (w : World) (C : Array Value) (n c : Nat) => Lib.run_convert_bytes_const (P := Tryd.prog) w 22 5 C n c Tryd.underlying22 Tryd.underlying5
  obtain ⟨W, hW⟩ : ∃ W, W = w.alloc (.cells (puL.map (Value.int .u8)).toArray 5 (32, 33)) := ⟨_, rfl⟩
  have HC : Hid (∀ i, i < 32 → W.cell? ⟨w.heap.size, i, none⟩ = some (.int .u8 (puF i))) := Lib.hid fun i hi => by
    rw [hW]
    have hl : puL.length = 32 := rfl
    have h := heap_alloc_new w (.cells (puL.map (Value.int .u8)).toArray 5 (32, 33))
    have hl2 : ((puL.map (Value.int .u8)).toArray)[i]? = some (.int .u8 (puF i)) := by simp [puF, hl, hi]
    unfold World.cell?
    simp only [h]
    exact hl2
  have HB : Hid (Below w.heap.size w W) := Lib.hid (by rw [hW]; exact (Below.refl w.heap.size w).alloc (Nat.le_refl _) _)
  have hW2 : w.alloc (.cells #[.int .u8 33, .int .u8 34, .int .u8 35, .int .u8 36, .int .u8 37, .int .u8 38, .int .u8 39, .int .u8 40, .int .u8 41, .int .u8 42, .int .u8 43, .int .u8 44, .int .u8 45, .int .u8 46, .int .u8 47, .int .u8 58, .int .u8 59, .int .u8 60, .int .u8 61, .int .u8 62, .int .u8 63, .int .u8 64, .int .u8 91, .int .u8 92, .int .u8 93, .int .u8 94, .int .u8 95, .int .u8 96, .int .u8 123, .int .u8 124, .int .u8 125, .int .u8 126] 5 (32, 33)) = W := by rw [hW]; rfl
  clear hW
  go_enter Tryd.func39, Tryd.ntmps39
  go_upto_block 0 with fail
  clear hW2
  go_wp2_with fail
  go_loop [8, 2] (fun iv rv => ∃ i : Nat, i ≤ 32 ∧ iv = .int .i64 i ∧ rv = .bool false ∧ Hid (∀ j, j < i → puF j ≠ c)) (fun iv _ => 32 - (intOf iv).toNat)
  case atStart => exact ⟨0, by omega, rfl, rfl, Lib.hid (fun j hj => by omega)⟩
  case round =>
    obtain ⟨i, hi, rfl, rfl, HJ⟩ := hrel
    by_cases hin : i < 32
    · have ci := HC.out i hin
      have hin' : (i : Int) < 32 := by omega
      by_cases he : c = puF i
      · have HP : Hid (pu c = true) := Lib.hid (by rw [he]; exact pu_of i hin)
        go_wp2
        go_ret
        exact ⟨ret_bool (by first | exact HP.out.symm | (rw [← he]; exact HP.out.symm)), HB.out⟩
      · have HJ2 : Hid (∀ j, j < i + 1 → puF j ≠ c) := Lib.hid fun j hj => by
          by_cases e : j = i
          · subst e; exact fun h => he h.symm
          · exact HJ.out j (by omega)
        go_wp2
        go_round
        case rel => exact ⟨i + 1, by omega, by go_num, rfl, HJ2⟩
        case measure => simp [intOf]; omega
    · obtain rfl : i = 32 := by omega
      have HP : Hid (pu c = false) := Lib.hid (by
        cases h : pu c with
        | false => rfl
        | true => obtain ⟨j, hj, e⟩ := pu_in h; exact absurd e (HJ.out j hj))
      go_wp2
      go_ret
      exact ⟨ret_bool HP.out.symm, HB.out⟩
theorem wordB_any (c : Int) (w : World) :
    Calls Tryd.prog 32 #[.int .u8 c] w fun e w' => e = .returned (.bool (wbd c)) ∧ Below w.heap.size w w' := by
  by_cases h0 : c = 0
  · have h : Hid (wbd c = true) := Lib.hid (by simp [wbd, h0])
    go_enter Tryd.func32, Tryd.ntmps32
    go_wp2
    go_ret
    exact ⟨ret_bool (by rw [h.out]), Below.refl _ _⟩
  · cases hs : spc c with
    | true =>
      have h : Hid (wbd c = true) := Lib.hid (by simp [wbd, hs])
      go_enter Tryd.func32, Tryd.ntmps32
      go_wp2_with (go_at_call 38; refine (isspace_any _ _).mono ?_; rintro e w' ⟨rfl, rfl⟩)
      go_ret
      exact ⟨ret_bool (by rw [h.out]), Below.refl _ _⟩
    | false =>
      have h : Hid (wbd c = (c == 0 || pu c)) := Lib.hid (by simp [wbd, hs, h0])
      go_enter Tryd.func32, Tryd.ntmps32
      go_wp2_with (first | (go_at_call 38; refine (isspace_any _ _).mono ?_; rintro e w' ⟨rfl, rfl⟩) | (go_at_call 39; refine (ispunct_any _ _).mono ?_; rintro e w' ⟨rfl, hb⟩))
      go_ret
      exact ⟨ret_bool (by rw [h.out]), hb⟩
end Go.Proofs.YtghmbpogniopoaaDoor
