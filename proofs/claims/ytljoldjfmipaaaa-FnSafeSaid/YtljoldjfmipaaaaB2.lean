/- The slug in plain words. -/
import Derived.Test.YtljoldjfmipaaaaA1
namespace Go.Proofs.Ytljoldjfmipaaaa
open Go.RowKit
set_option linter.unusedVariables false

def gstep (p : List Int × Bool) (c : Int) : List Int × Bool := if isw c then (p.1 ++ [c], false) else if p.2 then (p.1, true) else (p.1 ++ [45], true)
def gT (f : Nat → Int) (k : Nat) : List Int × Bool := iter gstep ([], false) f k
theorem g_word {f : Nat → Int} {k : Nat} {o : List Int} {s : Bool} (e : gT f k = (o, s)) (h : isw (f k) = true) : gT f (k + 1) = (o ++ [f k], false) := by
  show gstep (gT f k) (f k) = _
  simp [gstep, h, e]
theorem g_skip {f : Nat → Int} {k : Nat} {o : List Int} (e : gT f k = (o, true)) (h : isw (f k) = false) : gT f (k + 1) = (o, true) := by
  show gstep (gT f k) (f k) = _
  simp [gstep, h, e]
theorem g_dash {f : Nat → Int} {k : Nat} {o : List Int} (e : gT f k = (o, false)) (h : isw (f k) = false) : gT f (k + 1) = (o ++ [45], true) := by
  show gstep (gT f k) (f k) = _
  simp [gstep, h, e]
theorem g_sym (f : Nat → Int) (k : Nat) : (gT f (k + 1)).2 = !isw (f k) := by
  show (gstep (gT f k) (f k)).2 = _
  unfold gstep
  by_cases h : isw (f k) = true
  · simp [h]
  · have h' : isw (f k) = false := by simpa using h
    by_cases hs : (gT f k).2 = true <;> simp [h', hs]

theorem isw_45 : isw 45 = false := by decide
theorem isw_rng {c : Int} (h : isw c = true) : 48 ≤ c ∧ c ≤ 122 := by simp [isw] at h; omega
/-- What is true of the row at each place. -/
structure GInv (o : List Int) (s : Bool) : Prop where
  rng : ∀ x ∈ o, 45 ≤ x ∧ x ≤ 122
  last : s = true → 0 < o.length ∧ o.getD (o.length - 1) 0 = 45
  open_ : s = false → 0 < o.length → o.getD (o.length - 1) 0 ≠ 45
  two : ∀ i, i + 1 < o.length → o.getD i 0 = 45 → o.getD (i + 1) 0 ≠ 45
theorem gD_left (o : List Int) (x : Int) (i : Nat) (h : i < o.length) : (o ++ [x]).getD i 0 = o.getD i 0 := by
  simp [List.getD, List.getElem?_append_left h]
theorem gD_last (o : List Int) (x : Int) : (o ++ [x]).getD o.length 0 = x := by simp [List.getD]
theorem ginv_push {o : List Int} {s : Bool} {x : Int} {s' : Bool} (h : GInv o s) (hx : 45 ≤ x ∧ x ≤ 122) (hs : s' = true → x = 45) (hs2 : s' = false → x ≠ 45) (hs3 : x = 45 → s = false) : GInv (o ++ [x]) s' := by
  have e : (o ++ [x]).length = o.length + 1 := by simp
  refine ⟨?_, ?_, ?_, ?_⟩
  · intro y hy; simp at hy; rcases hy with hy | rfl
    · exact h.rng y hy
    · exact hx
  · intro ht; rw [e]; refine ⟨by omega, ?_⟩
    rw [Nat.add_sub_cancel, gD_last]; exact hs ht
  · intro ht _; rw [e, Nat.add_sub_cancel, gD_last]; exact hs2 ht
  · intro i hi hd
    rw [e] at hi
    rcases Nat.lt_or_ge (i + 1) o.length with hl | hl
    · rw [gD_left _ _ _ hl]; rw [gD_left _ _ _ (by omega)] at hd
      exact h.two i hl hd
    · obtain rfl : i = o.length - 1 := by omega
      have hl0 : o.length - 1 + 1 = o.length := by omega
      rw [gD_left _ _ _ (by omega)] at hd
      rw [hl0, gD_last]
      intro hx45
      exact h.open_ (hs3 hx45) (by omega) hd
theorem ginv (f : Nat → Int) : ∀ k, GInv (gT f k).1 (gT f k).2
  | 0 => ⟨by simp [gT, iter], by simp [gT, iter], by simp [gT, iter], by simp [gT, iter]⟩
  | k + 1 => by
    have ih := ginv f k
    obtain ⟨o, s, e⟩ : ∃ o s, gT f k = (o, s) := ⟨_, _, rfl⟩
    rw [e] at ih
    by_cases hw : isw (f k) = true
    · rw [g_word e hw]
      have := isw_rng hw
      exact ginv_push ih (by omega) (by simp) (by intro _ h; rw [h, isw_45] at hw; cases hw) (by intro h; rw [h, isw_45] at hw; cases hw)
    · have hw' : isw (f k) = false := by simpa using hw
      cases s
      · rw [g_dash e hw']
        exact ginv_push ih (by omega) (fun _ => rfl) (by simp) (fun _ => rfl)
      · rw [g_skip e hw']
        exact ih
theorem gT_len (f : Nat → Int) : ∀ k, (gT f k).1.length ≤ k ∧ (0 < k → 0 < (gT f k).1.length)
  | 0 => by simp [gT, iter]
  | k + 1 => by
    have ih := gT_len f k
    obtain ⟨o, s, e⟩ : ∃ o s, gT f k = (o, s) := ⟨_, _, rfl⟩
    have hi := ginv f k
    rw [e] at ih hi
    simp only at ih
    by_cases hw : isw (f k) = true
    · rw [g_word e hw]; simp; omega
    · have hw' : isw (f k) = false := by simpa using hw
      cases s
      · rw [g_dash e hw']; simp; omega
      · rw [g_skip e hw']
        have := (hi.last rfl).1
        simp only at this ih ⊢
        omega

/-- Where the slug begins and ends in the row. -/
def slo (o : List Int) : Nat := if 1 < o.length ∧ o.getD 0 0 = 45 then 1 else 0
def shi (o : List Int) : Nat := if 1 < o.length ∧ o.getD (o.length - 1) 0 = 45 then o.length - 1 else o.length
theorem slo_shi {o : List Int} {s : Bool} (h : GInv o s) : slo o ≤ shi o ∧ shi o ≤ o.length ∧ (0 < o.length → slo o < shi o) := by
  unfold slo shi
  by_cases h1 : 1 < o.length ∧ o.getD 0 0 = 45 <;> by_cases h2 : 1 < o.length ∧ o.getD (o.length - 1) 0 = 45
  · rw [if_pos h1, if_pos h2]
    have : o.length ≠ 2 := fun e => by
      have := h.two 0 (by omega) h1.2
      rw [e] at h2
      exact this h2.2
    omega
  · rw [if_pos h1, if_neg h2]; omega
  · rw [if_neg h1, if_pos h2]; omega
  · rw [if_neg h1, if_neg h2]; omega
def slugLen (f : Nat → Int) (n : Nat) : Nat := shi (gT f n).1 - slo (gT f n).1
def slugAt (f : Nat → Int) (n j : Nat) : Int := (gT f n).1.getD (slo (gT f n).1 + j) 0
theorem slugLen_zero (f : Nat → Int) : slugLen f 0 = 0 := by simp [slugLen, gT, iter, shi, slo]
end Go.Proofs.Ytljoldjfmipaaaa
