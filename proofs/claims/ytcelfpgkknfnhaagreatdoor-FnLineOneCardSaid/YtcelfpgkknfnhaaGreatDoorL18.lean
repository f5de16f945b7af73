/- Lines: what begins a line does not begin it as anything else (plain). -/
import Derived.Test.YtcelfpgkknfnhaaGreatDoorL17
import Derived.Test.YtcelfpgkknfnhaaGreatDoorL10
namespace Go.Proofs.YtcelfpgkknfnhaaGreatDoor
open Go.RowKit
set_option linter.unusedVariables false

section
variable {n : Nat} {f : Nat → Int}
theorem bl0 (h : f 0 ≠ 32) : blA n f 3 = 0 := by unfold blA; exact scan_hit (by unfold noBl; simpa using h)
theorem key_quo (h : 0 < quoF n f) : f (blA n f 3) = 62 := by
  unfold quoF at h
  by_cases e : blA n f 3 < n ∧ f (blA n f 3) = 62
  · exact e.2
  · rw [if_neg e] at h; omega
theorem key_uli (h : 0 < uliF n f) : f (blA n f 3) = 42 ∨ f (blA n f 3) = 43 ∨ f (blA n f 3) = 45 := by
  unfold uliF at h
  by_cases e : n ≤ blA n f 3 + 1
  · rw [if_pos e] at h; omega
  · rw [if_neg e] at h
    by_cases g : (f (blA n f 3) = 42 ∨ f (blA n f 3) = 43 ∨ f (blA n f 3) = 45) ∧ (f (blA n f 3 + 1) = 32 ∨ f (blA n f 3 + 1) = 9)
    · exact g.1
    · rw [if_neg g] at h; omega
theorem key_num (h : 0 < numF n f) : 48 ≤ f (blA n f 3) ∧ f (blA n f 3) ≤ 57 := by
  unfold numF numG at h
  have hb := (blA_le n f 3).1
  obtain ⟨a, b, c, d⟩ := scan_spec noDg f hb
  by_cases e : scan noDg n f (blA n f 3) = blA n f 3 ∨ n ≤ scan noDg n f (blA n f 3) + 1
  · rw [if_pos e] at h; omega
  · have := c (blA n f 3) (Nat.le_refl _) (by omega)
    unfold noDg at this
    simpa using this
theorem key_dli (h : 0 < dliF n f) : f (blA n f 3) = 58 := by
  unfold dliF at h
  by_cases e : 2 ≤ n ∧ f 0 = 58 ∧ (f 1 = 32 ∨ f 1 = 9)
  · rw [bl0 (by omega)]; exact e.2.1
  · rw [if_neg e] at h; omega
theorem key_head (h : f 0 = 35) : f (blA n f 3) = 35 := by rw [bl0 (by omega)]; exact h
theorem key_un (h : 0 < unF n f) : f (blA n f 3) = 61 ∨ f (blA n f 3) = 45 := by
  unfold unF at h
  by_cases e : f 0 = 61
  · rw [bl0 (by omega)]; exact .inl e
  · by_cases g : f 0 = 45
    · rw [bl0 (by omega)]; exact .inr g
    · rw [if_neg e, if_neg g] at h; omega
theorem key_code (h : 0 < codeF n f) : f (blA n f 3) = 9 ∨ f (blA n f 3) = 32 := by
  unfold codeF at h
  by_cases e : 1 ≤ n ∧ f 0 = 9
  · rw [bl0 (by omega)]; exact .inl e.2
  · by_cases g : 4 ≤ n ∧ f 0 = 32 ∧ f 1 = 32 ∧ f 2 = 32 ∧ f 3 = 32
    · have : blA n f 3 = 3 := by
        unfold blA
        rw [show min n 3 = 3 from by omega]
        refine scan_full (by omega) fun j _ hj => ?_
        rcases j with _ | _ | _ | j
        · simp [noBl, g.2.1]
        · simp [noBl, g.2.2.1]
        · simp [noBl, g.2.2.2.1]
        · omega
      rw [this]; exact .inr g.2.2.2.2
    · rw [if_neg e, if_neg g] at h; omega
theorem key_empty (hn : 0 < n) (h10 : f (n - 1) = 10) (h : 0 < emptyF n f) : f (blA n f 3) = 9 ∨ f (blA n f 3) = 32 ∨ f (blA n f 3) = 10 := by
  obtain ⟨a, b, c, d⟩ := scan_spec noWs f (Nat.zero_le n)
  have hl : scan noWs n f 0 < n := by
    rcases Nat.lt_or_ge (scan noWs n f 0) n with hl | hl
    · exact hl
    · have := c (n - 1) (by omega) (by omega)
      unfold noWs at this
      simp at this
      omega
  unfold emptyF at h
  rw [if_pos hl] at h
  generalize scan noWs n f 0 = s at h hl c
  by_cases e : f s = 10
  · obtain ⟨a', b', c', d'⟩ := scan_spec noBl f (Nat.zero_le (min n 3))
    have hs : blA n f 3 ≤ s := by
      rcases Nat.lt_or_ge s (blA n f 3) with z | z
      · have := c' s (by omega) z
        unfold noBl at this
        simp at this
        omega
      · exact z
    rcases Nat.lt_or_ge (blA n f 3) s with z | z
    · have := c _ (Nat.zero_le _) z
      unfold noWs at this
      simp at this
      by_cases y : f (blA n f 3) = 32
      · exact .inr (.inl y)
      · exact .inl (this y)
    · rw [show blA n f 3 = s from by omega]; exact .inr (.inr e)
  · rw [if_neg e] at h; omega
theorem key_rule {le : Nat} (he : LEnd n f le) (h : ruleF le f = true) : f (blA n f 3) = 42 ∨ f (blA n f 3) = 45 ∨ f (blA n f 3) = 95 := by
  obtain ⟨h1, h2, h3⟩ := he
  have e : blA n f 3 = blA le f 3 := by
    unfold blA
    rcases Nat.lt_or_ge le 3 with g | g
    · rw [show min le 3 = le from by omega]
      exact scan_cut (Nat.zero_le _) (by omega) (by unfold noBl; simp; omega)
    · rw [show min le 3 = 3 from by omega, show min n 3 = 3 from by omega]
  rw [e]
  unfold ruleF ruleG at h
  by_cases g : blA le f 3 < le ∧ markF (f (blA le f 3)) = true
  · have := g.2
    unfold markF at this
    simpa using this
  · rw [if_neg g] at h; cases h
end
/-- What is said of the nine answers. -/
structure OneL (e : Int) (r hb : Bool) (un q c u o d : Int) : Prop where
  pos : 0 ≤ e ∧ 0 ≤ un ∧ 0 ≤ q ∧ 0 ≤ c ∧ 0 ≤ u ∧ 0 ≤ o ∧ 0 ≤ d
  kq : 0 < q → u = 0 ∧ o = 0 ∧ d = 0 ∧ hb = false ∧ e = 0 ∧ c = 0
  ku : 0 < u → q = 0 ∧ o = 0 ∧ d = 0 ∧ hb = false ∧ e = 0 ∧ c = 0
  ko : 0 < o → q = 0 ∧ u = 0 ∧ d = 0 ∧ hb = false ∧ e = 0 ∧ c = 0
  kd : 0 < d → q = 0 ∧ u = 0 ∧ o = 0 ∧ hb = false ∧ e = 0 ∧ c = 0
  kh : hb = true → q = 0 ∧ u = 0 ∧ o = 0 ∧ d = 0 ∧ e = 0 ∧ c = 0
  ke : 0 < e ∨ 0 < c → r = false ∧ un = 0
theorem one_of {n le : Nat} {f : Nat → Int} {hb : Bool} (hn : 0 < n) (h10 : f (n - 1) = 10) (he : LEnd n f le) (hh : hb = true → f 0 = 35) :
    OneL (emptyF n f) (ruleF le f) hb (unF n f) (quoF n f) (codeF n f) (uliF n f) (numF n f) (dliF n f) := by
  have k1 := @key_quo n f; have k2 := @key_uli n f; have k3 := @key_num n f; have k4 := @key_dli n f
  have k5 : hb = true → f (blA n f 3) = 35 := fun h => key_head (hh h)
  have k6 := @key_un n f; have k7 := @key_code n f; have k8 := key_empty hn h10; have k9 := @key_rule n f le he
  generalize f (blA n f 3) = x at k1 k2 k3 k4 k5 k6 k7 k8 k9
  have hbf : x ≠ 35 → hb = false := fun h => by cases hb with | false => rfl | true => exact absurd (k5 rfl) h
  have rf : x ≠ 42 → x ≠ 45 → x ≠ 95 → ruleF le f = false := fun a b c => by
    cases hr : ruleF le f with
    | false => rfl
    | true => rcases k9 hr with h | h | h <;> contradiction
  refine ⟨by omega, fun h => ?_, fun h => ?_, fun h => ?_, fun h => ?_, fun h => ?_, fun h => ?_⟩
  · have := k1 (by omega)
    exact ⟨by omega, by omega, by omega, hbf (by omega), by omega, by omega⟩
  · have := k2 (by omega)
    exact ⟨by omega, by omega, by omega, hbf (by omega), by omega, by omega⟩
  · have := k3 (by omega)
    exact ⟨by omega, by omega, by omega, hbf (by omega), by omega, by omega⟩
  · have := k4 (by omega)
    exact ⟨by omega, by omega, by omega, hbf (by omega), by omega, by omega⟩
  · have := k5 h
    exact ⟨by omega, by omega, by omega, by omega, by omega, by omega⟩
  · have : x = 9 ∨ x = 32 ∨ x = 10 := by
      rcases h with h | h
      · exact k8 (by omega)
      · have := k7 (by omega); omega
    exact ⟨rf (by omega) (by omega) (by omega), by omega⟩
end Go.Proofs.YtcelfpgkknfnhaaGreatDoor
