/- Punctuation: the quiet texts. -/
import Derived.Test.YtghmbpogniopoaaDoorQ4
namespace Go.Proofs.YtghmbpogniopoaaDoor
open Go.RowKit
set_option linter.unusedVariables false

/-- A byte that no action is laid for. -/
def qb (b : Int) : Bool := b != 34 && b != 38 && b != 39 && b != 40 && b != 45 && b != 46 && !(decide (49 ≤ b) && decide (b ≤ 57)) && b != 60 && b != 96
theorem qb_tab (q : Nat) (am : Value) (an ds lx fr : Bool) (b : Int) (h0 : 0 ≤ b) (hb : b < 256) (h : qb b = true) : T4 q am an ds lx fr b.toNat = .nilFunc := by
  unfold qb at h
  simp at h
  unfold T4 T3 T2 T1
  rw [if_neg (by omega), if_neg (by omega), if_neg (by omega)]
  have e2 : (if b.toNat = 39 then Value.func (.func 18) #[.pointer (some ⟨q, 0, none⟩)] #[] else if b.toNat = 40 then .func (.func 19) #[.pointer (some ⟨q, 0, none⟩)] #[] else if b.toNat = 45 then if ds = true then if lx = true then .func (.func 20) #[.pointer (some ⟨q, 0, none⟩)] #[] else .func (.func 21) #[.pointer (some ⟨q, 0, none⟩)] #[] else .nilFunc else if b.toNat = 38 then am else if b.toNat = 34 then if an = true then .func (.func 16) #[.pointer (some ⟨q, 0, none⟩)] #[] else .func (.func 17) #[.pointer (some ⟨q, 0, none⟩)] #[] else .nilFunc) = Value.nilFunc := by
    rw [if_neg (by omega), if_neg (by omega), if_neg (by omega), if_neg (by omega), if_neg (by omega)]
  cases fr
  · rw [if_neg (by simp), if_neg (by omega)]; exact e2
  · rw [if_pos rfl, if_neg (by omega)]; exact e2
theorem quiet_wrote (x : Int) (n : Nat) (f : Nat → Int) (hn : n ≤ 100000) (hr : ∀ j, 0 ≤ f j ∧ f j ≤ 255) (hq : ∀ j, j < n → qb (f j) = true) : Wrote x n f n f := by
  intro q ob am A cap w hT hA hR hb hne hoq
  exact processQuiet q ob false false _ A n cap f w _ hT hR hn (fun j hj => qb_tab _ _ _ _ _ _ _ (hr j).1 (by have := (hr j).2; omega) (hq j hj)) hb (fun a e => by have := hne a e; omega)
def QR (e : Ending) (n : Nat) (f : Nat → Int) : Prop := ∃ v : Bool, e = .returned (.bool v) ∧ (v = true → ∀ j, j < n → qb (f j) = true)
set_option maxHeartbeats 4000000 in
theorem isQuiet_any (A : Option Addr) (n cap : Nat) (f : Nat → Int) (w : World) (B : Nat) (h : RB w B A n cap f) (hn : n ≤ 100000) :
    Calls Tryd.prog 10 #[.slice A n cap] w fun e w' => QR e n f ∧ w = w' := by
  have HH := Lib.hid h
  have hcap := h.cap
  clear h
  go_enter Tryd.func10, Tryd.ntmps10
  go_wp2_with fail
  go_loop [2, 7] (fun rv iv => ∃ i : Nat, i ≤ n ∧ rv = .bool false ∧ iv = .int .i64 i ∧ Hid (∀ j, j < i → qb (f j) = true)) (fun _ iv => n - (intOf iv).toNat)
  case atStart => exact ⟨0, by omega, rfl, rfl, Lib.hid (fun j hj => absurd hj (by omega))⟩
  case round =>
    obtain ⟨i, hi, rfl, rfl, HQ⟩ := hrel
    by_cases hin : i < n
    · obtain ⟨b, off, rfl, hbB, hcell⟩ := HH.out.2.2.2 (by omega)
      have ki := hcell i hin
      clear hcell
      have hi0 : (0 : Int) ≤ i := by omega
      have hi1 : (i : Int) < n := by omega
      go_upto_region 4 with fail
      go_cut [4, 48] (fun bv tv wx => tv = .bool (!qb (f i)) ∧ w = wx)
      case first =>
        go_wp2
        all_goals
          go_meet
          exact ⟨by congr 1; unfold qb; rw [Bool.eq_iff_iff]; simp at *; omega, rfl⟩
      case rest =>
        obtain ⟨rfl, rfl⟩ := hcut
        cases hqb : qb (f i)
        · go_wp2_with fail
          go_ret
          exact ⟨⟨false, rfl, fun h => by cases h⟩, rfl⟩
        · have HQB := Lib.hid hqb
          clear hqb
          go_wp2_with fail
          go_round
          case rel => exact ⟨i + 1, by omega, rfl, by go_num, Lib.hid (fun j hj => by
            rcases Nat.lt_or_ge j i with h | h
            · exact HQ.out j h
            · obtain rfl : j = i := by omega
              exact HQB.out)⟩
          case measure => simp [intOf]; omega
    · obtain rfl : i = n := by omega
      go_wp2_with fail
      go_ret
      exact ⟨⟨true, rfl, fun _ => HQ.out⟩, rfl⟩
end Go.Proofs.YtghmbpogniopoaaDoor
