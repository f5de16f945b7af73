/- Reference definitions: the door; what the reference asks of a definition. -/
import Derived.Test.YtaljhebalgipjaaGreatDoorD5
import Derived.Test.YtaljhebalgipjaaGreatDoorD4
namespace Go.Proofs.YtaljhebalgipjaaGreatDoor
open Go.RowKit
set_option linter.unusedVariables false

/-- Is it an id? -/
def idB (l : List UInt8) : Bool := l.all (fun c => 97 ≤ c.toNat && c.toNat ≤ 122) && decide (0 < l.length) && decide (l.length ≤ 20)
theorem idB_of {l : List UInt8} (h : idB l = true) : Lets l ∧ 0 < l.length ∧ l.length ≤ 20 := by
  unfold idB at h
  simp only [Bool.and_eq_true, List.all_eq_true, decide_eq_true_eq] at h
  exact ⟨fun x hx => h.1.1 x hx, h.1.2, h.2⟩
theorem all_bad {l : List UInt8} {P : UInt8 → Bool} {Q : Int → Bool} (hPQ : ∀ c : UInt8, P c = Q c.toNat) {i : Nat} (hi : i < l.length) (h : Q (bt l i) = false) : l.all P = false := by
  rw [List.all_eq_false]
  refine ⟨l[i], List.getElem_mem hi, ?_⟩
  rw [hPQ]
  unfold bt at h
  rw [List.getElem?_eq_getElem hi] at h
  simpa using h
theorem all_good {l : List UInt8} {P : UInt8 → Bool} {Q : Int → Bool} (hPQ : ∀ c : UInt8, P c = Q c.toNat) (h : ∀ j, j < l.length → Q (bt l j) = true) : l.all P = true := by
  rw [List.all_eq_true]
  intro x hx
  obtain ⟨j, hj, rfl⟩ := List.getElem_of_mem hx
  have := h j hj
  unfold bt at this
  rw [List.getElem?_eq_getElem hj] at this
  rw [hPQ]
  simpa using this
def letQ (c : Int) : Bool := decide (97 ≤ c) && decide (c ≤ 122)
theorem letQ_eq (c : UInt8) : (97 ≤ c.toNat && c.toNat ≤ 122) = letQ c.toNat := by
  unfold letQ
  rw [Bool.eq_iff_iff]
  simp
  omega
theorem idB_bad {l : List UInt8} {i : Nat} (hi : i < l.length) (h : letQ (bt l i) = false) : idB l = false := by
  unfold idB
  rw [all_bad (Q := letQ) letQ_eq hi h]; rfl
theorem idB_end {l : List UInt8} (h : ∀ j, j < l.length → letQ (bt l j) = true) : idB l = (decide (0 < l.length) && decide (l.length ≤ 20)) := by
  unfold idB
  rw [all_good (Q := letQ) letQ_eq h, Bool.true_and]
theorem str_len (s : ByteArray) : s.data.toList.length = s.size := by
  rw [Array.length_toList]; rfl
set_option maxHeartbeats 1600000 in
theorem isID_any (s : ByteArray) (w : World) (hs : s.size ≤ 2147483647) :
    Calls Tryz.prog 24 #[.string s] w fun e w' => e = .returned (.bool (idB s.data.toList)) ∧ w' = w := by
  have hf := bt_str s
  have HL := Lib.hid (str_len s)
  go_enter Tryz.func24, Tryz.ntmps24
  go_wp2_with fail
  go_loop [3, 2] (fun iv rv => ∃ i : Nat, i ≤ s.size ∧ iv = .int .i64 i ∧ rv = .bool false ∧ Hid (∀ j, j < i → letQ (bt s.data.toList j) = true)) (fun iv _ => s.size - (intOf iv).toNat)
  case atStart => exact ⟨0, by omega, rfl, rfl, Lib.hid (fun j hj => by omega)⟩
  case round =>
    obtain ⟨i, hi, rfl, rfl, HJ⟩ := hrel
    by_cases his : i < s.size
    · have hik := hf i his
      have his' : (i : Int) < s.size := by omega
      cases hq : letQ (bt s.data.toList i) with
      | false =>
        have HB := Lib.hid (idB_bad (l := s.data.toList) (i := i) (by rw [HL.out]; exact his) hq)
        have hq' : bt s.data.toList i < 97 ∨ ¬ bt s.data.toList i < 97 ∧ 122 < bt s.data.toList i := by
          unfold letQ at hq; simp at hq; omega
        clear hq
        rcases hq' with h1 | ⟨h0, h1⟩
        · have e1 := decide_eq_true h1
          go_wp2
          go_ret
          exact ⟨by rw [HB.out]; rfl, rfl⟩
        · have e0 := decide_eq_false h0
          have e1 := decide_eq_true h1
          go_wp2
          go_ret
          exact ⟨by rw [HB.out]; rfl, rfl⟩
      | true =>
        have HJ2 : Hid (∀ j, j < i + 1 → letQ (bt s.data.toList j) = true) := Lib.hid fun j hj => by
          by_cases e : j = i
          · subst e; exact hq
          · exact HJ.out j (by omega)
        have hq' : ¬ bt s.data.toList i < 97 ∧ ¬ 122 < bt s.data.toList i := by
          unfold letQ at hq; simp at hq; omega
        clear hq
        have e0 := decide_eq_false hq'.1
        have e1 := decide_eq_false hq'.2
        clear hq'
        go_wp2
        go_round
        case rel => exact ⟨i + 1, by omega, by go_num, rfl, HJ2⟩
        case measure => simp [intOf]; omega
    · obtain rfl : i = s.size := by omega
      have HE : Hid (idB s.data.toList = (decide (0 < s.size) && decide (s.size ≤ 20))) := Lib.hid (by rw [idB_end (fun j hj => HJ.out j (by rw [HL.out] at hj; exact hj)), HL.out])
      go_wp2
      all_goals
        go_ret
        refine ⟨ret_bool ?_, rfl⟩
        rw [HE.out, Bool.eq_iff_iff]
        simp
        try omega

/-- A Bool that is true at p alone. -/
def BoolP (p : Prop) (e : Ending) : Prop := ∃ b : Bool, e = .returned (.bool b) ∧ (b = true → p)
/-- What a line of words is. -/
def LineP (s : ByteArray) : Prop := Words s.data.toList ∧ 0 < s.size ∧ s.size ≤ 60
theorem words_of {l : List UInt8} (h : ∀ j, j < l.length → bt l j = 32 ∨ (97 ≤ bt l j ∧ bt l j ≤ 122)) : Words l := by
  intro x hx
  obtain ⟨j, hj, rfl⟩ := List.getElem_of_mem hx
  have := h j hj
  unfold bt at this
  rw [List.getElem?_eq_getElem hj] at this
  simp only [Option.getD_some] at this
  omega
set_option maxHeartbeats 1600000 in
theorem isLine_of (s : ByteArray) (w : World) (hs : s.size ≤ 2147483647) :
    Calls Tryz.prog 18 #[.string s] w fun e w' => BoolP (LineP s) e ∧ w' = w := by
  have hf := bt_str s
  have HL := Lib.hid (str_len s)
  go_enter Tryz.func18, Tryz.ntmps18
  go_wp2_with fail
  go_loop [4, 3, 2] (fun iv bv rv => ∃ (i : Nat) (bk : Bool), i ≤ s.size ∧ iv = .int .i64 i ∧ bv = .bool bk ∧ rv = .bool false ∧ (i = 0 → bk = true) ∧ Hid (∀ j, j < i → bt s.data.toList j = 32 ∨ (97 ≤ bt s.data.toList j ∧ bt s.data.toList j ≤ 122))) (fun iv _ _ => s.size - (intOf iv).toNat)
  case atStart => exact ⟨0, true, by omega, rfl, rfl, rfl, fun _ => rfl, Lib.hid (fun j hj => by omega)⟩
  case round =>
    obtain ⟨i, bk, hi, rfl, rfl, rfl, hbk, HJ⟩ := hrel
    by_cases his : i < s.size
    · have hik := hf i his
      have his' : (i : Int) < s.size := by omega
      have HJ2 : Hid (bt s.data.toList i = 32 ∨ (97 ≤ bt s.data.toList i ∧ bt s.data.toList i ≤ 122) → ∀ j, j < i + 1 → bt s.data.toList j = 32 ∨ (97 ≤ bt s.data.toList j ∧ bt s.data.toList j ≤ 122)) := Lib.hid fun hq j hj => by
          by_cases e : j = i
          · subst e; exact hq
          · exact HJ.out j (by omega)
      by_cases h32 : bt s.data.toList i = 32
      · have e32 := (leb h32).2
        have HK := Lib.hid h32
        cases bk with
        | true =>
          go_wp2
          go_ret
          exact ⟨⟨false, rfl, fun h => by cases h⟩, rfl⟩
        | false =>
          go_wp2
          go_round
          case rel => exact ⟨i + 1, true, by omega, by go_num, rfl, rfl, fun _ => rfl, Lib.hid (HJ2.out (.inl HK.out))⟩
          case measure => simp [intOf]; omega
      · have e32 := (lnb h32).2
        by_cases h97 : bt s.data.toList i < 97
        · have e1 := decide_eq_true h97
          go_wp2
          go_ret
          exact ⟨⟨false, rfl, fun h => by cases h⟩, rfl⟩
        · have e1 := decide_eq_false h97
          by_cases h122 : 122 < bt s.data.toList i
          · have e2 := decide_eq_true h122
            go_wp2
            go_ret
            exact ⟨⟨false, rfl, fun h => by cases h⟩, rfl⟩
          · have e2 := decide_eq_false h122
            go_wp2
            go_round
            case rel => exact ⟨i + 1, false, by omega, by go_num, rfl, rfl, fun h => by omega, Lib.hid (HJ2.out (.inr ⟨by omega, by omega⟩))⟩
            case measure => simp [intOf]; omega
    · obtain rfl : i = s.size := by omega
      have HW : Hid (bk = false ∧ s.size ≤ 60 → LineP s) := Lib.hid fun h => ⟨words_of (fun j hj => HJ.out j (by rw [HL.out] at hj; exact hj)), by
        rcases Nat.eq_zero_or_pos s.size with h0 | h0
        · have := hbk h0; rw [h.1] at this; cases this
        · exact h0, h.2⟩
      clear hbk
      cases bk with
      | true =>
        go_wp2
        go_ret
        exact ⟨⟨false, rfl, fun h => by cases h⟩, rfl⟩
      | false =>
        go_wp2
        go_ret
        refine ⟨⟨decide ((s.size : Int) ≤ 60), rfl, fun h => HW.out ⟨by trivial, by have := of_decide_eq_true h; omega⟩⟩, ?_⟩
        first | trivial | rfl
end Go.Proofs.YtaljhebalgipjaaGreatDoor
