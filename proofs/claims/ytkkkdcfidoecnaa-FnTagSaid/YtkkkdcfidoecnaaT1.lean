/- Tags in plain words. -/
import Derived.Test.YtkkkdcfidoecnaaE1
namespace Go.Proofs.Ytkkkdcfidoecnaa
open Go.RowKit
set_option linter.unusedVariables false

/-- An ASCII letter or digit; the characters of a scheme, of an address of mail; blanks; what ends an automatic link. -/
def wch (c : Int) : Bool := decide (48 ≤ c ∧ c ≤ 57) || decide (97 ≤ c ∧ c ≤ 122) || decide (65 ≤ c ∧ c ≤ 90)
def tch (c : Int) : Bool := wch c || decide (c = 46) || decide (c = 43) || decide (c = 45)
def mch (c : Int) : Bool := wch c || decide (c = 45) || decide (c = 46) || decide (c = 95) || decide (c = 64)
def spc (c : Int) : Bool := decide (c = 32) || decide (c = 9) || decide (c = 10) || decide (c = 13) || decide (c = 12) || decide (c = 11)
def lst (c : Int) : Bool := decide (c = 62) || decide (c = 39) || decide (c = 34) || spc c
def notT (c : Int) : Bool := !tch c
def notM (c : Int) : Bool := !mch c

theorem scan_eq {P : Int → Bool} {n : Nat} {f : Nat → Int} : ∀ (d i m : Nat), m = i + d → m ≤ n → (∀ j, i ≤ j → j < m → P (f j) = false) → (m = n ∨ P (f m) = true) → scan P n f i = m
  | 0, i, m, hd, hm, hj, he => by
    obtain rfl : m = i := by omega
    rcases he with h | h
    · exact scan_end (by omega)
    · exact scan_hit h
  | d + 1, i, m, hd, hm, hj, he => by
    rw [scan_go (by omega) (hj i (by omega) (by omega))]
    exact scan_eq d (i + 1) m (by omega) hm (fun j h1 h2 => hj j (by omega) h2) he
theorem scanF_spec (P : Int → Bool) (n : Nat) (f : Nat → Int) : ∀ k i, i + k = n → (i ≤ scanF P n f k i ∧ scanF P n f k i ≤ n ∧ (∀ j, i ≤ j → j < scanF P n f k i → P (f j) = false) ∧ (scanF P n f k i < n → P (f (scanF P n f k i)) = true))
  | 0, i, h => by simp only [scanF]; exact ⟨Nat.le_refl _, by omega, fun j h1 h2 => by omega, fun h => by omega⟩
  | k + 1, i, h => by
    unfold scanF
    by_cases hp : P (f i) = true
    · rw [if_pos hp]; exact ⟨Nat.le_refl _, by omega, fun j h1 h2 => by omega, fun _ => hp⟩
    · rw [if_neg hp]
      obtain ⟨a, b, c, d⟩ := scanF_spec P n f k (i + 1) (by omega)
      refine ⟨by omega, b, fun j h1 h2 => ?_, d⟩
      rcases Nat.eq_or_lt_of_le h1 with rfl | h1'
      · simpa using hp
      · exact c j h1' h2
theorem scan_spec (P : Int → Bool) (n : Nat) (f : Nat → Int) {i : Nat} (hi : i ≤ n) : i ≤ scan P n f i ∧ scan P n f i ≤ n ∧ (∀ j, i ≤ j → j < scan P n f i → P (f j) = false) ∧ (scan P n f i < n → P (f (scan P n f i)) = true) :=
  scanF_spec P n f (n - i) i (by omega)
theorem scan_shift (P : Int → Bool) (n : Nat) (f : Nat → Int) {i : Nat} (hi : i ≤ n) : scan P n f i = i + scan P (n - i) (fun j => f (i + j)) 0 := by
  obtain ⟨a, b, c, d⟩ := scan_spec P (n - i) (fun j => f (i + j)) (Nat.zero_le _)
  refine scan_eq (scan P (n - i) (fun j => f (i + j)) 0) i _ rfl (by omega) (fun j h1 h2 => ?_) ?_
  · have := c (j - i) (by omega) (by omega)
    rwa [show i + (j - i) = j from by omega] at this
  · rcases Nat.lt_or_ge (scan P (n - i) (fun j => f (i + j)) 0) (n - i) with h | h
    · exact .inr (d h)
    · left; omega

/-- How many signs '@' stand in the first k places. -/
def cnt (f : Nat → Int) : Nat → Nat
  | 0 => 0
  | k + 1 => cnt f k + if f k = 64 then 1 else 0
theorem cnt_le (f : Nat → Int) : ∀ k, cnt f k ≤ k
  | 0 => Nat.le_refl _
  | k + 1 => by have := cnt_le f k; unfold cnt; split <;> omega
/-- The mail address that begins at 0: where it ends, or 0. -/
def mailEnd (n : Nat) (f : Nat → Int) : Nat := if scan notM n f 0 < n ∧ f (scan notM n f 0) = 62 ∧ cnt f (scan notM n f 0) = 1 then scan notM n f 0 + 1 else 0
/-- The end behind the next greater-than sign from i on, or i. -/
def fromGt (n : Nat) (f : Nat → Int) (i : Nat) : Nat := if scan (isB 62) n f i < n then scan (isB 62) n f i + 1 else i
/-- The way over a link, two places at a backslash. -/
inductive SkipTo (n : Nat) (f : Nat → Int) : Nat → Nat → Prop
  | over (i : Nat) (h : n ≤ i) : SkipTo n f i i
  | stop (i : Nat) (h : i < n) (h1 : lst (f i) = true) : SkipTo n f i i
  | esc (i r : Nat) (h : i < n) (h1 : f i = 92) (hr : SkipTo n f (i + 2) r) : SkipTo n f i r
  | step (i r : Nat) (h : i < n) (h1 : f i ≠ 92) (h2 : lst (f i) = false) (hr : SkipTo n f (i + 1) r) : SkipTo n f i r
theorem lst_92 {y : Int} (h : y = 92) : lst y = false := by subst h; decide
theorem SkipTo.unique {n : Nat} {f : Nat → Int} {i r : Nat} (h : SkipTo n f i r) : ∀ s, SkipTo n f i s → r = s := by
  induction h with
  | over i h =>
    intro s hs
    cases hs with
    | over => rfl
    | stop => rfl
    | esc _ _ h' => omega
    | step _ _ h' => omega
  | stop i h h1 =>
    intro s hs
    cases hs with
    | over => rfl
    | stop => rfl
    | esc _ _ h' h1' => rw [lst_92 h1'] at h1; cases h1
    | step _ _ h' _ h2' => rw [h1] at h2'; cases h2'
  | esc i r h h1 hr ih =>
    intro s hs
    cases hs with
    | over _ h' => omega
    | stop _ _ h1' => rw [lst_92 h1] at h1'; cases h1'
    | esc _ _ _ _ hr' => exact ih s hr'
    | step _ _ _ h1' => exact absurd h1 h1'
  | step i r h h1 h2 hr ih =>
    intro s hs
    cases hs with
    | over _ h' => omega
    | stop _ _ h1' => rw [h2] at h1'; cases h1'
    | esc _ _ _ h1' => exact absurd h1' h1
    | step _ _ _ _ _ hr' => exact ih s hr'
/-- Where the name begins, where its characters end. -/
def tag0 (f : Nat → Int) : Nat := if f 1 = 47 then 2 else 1
def tag1 (n : Nat) (f : Nat → Int) : Nat := scan notT n f (tag0 f)
def mailHere (n : Nat) (f : Nat → Int) (i : Nat) : Nat := if i < n ∧ f i = 64 then mailEnd (n - i) (fun j => f (i + j)) else 0
/-- What a less-than sign begins, and where it ends; r: where the way over a link ends. -/
def tagF (n : Nat) (f : Nat → Int) (r : Nat) : Nat × Nat :=
  if n < 3 then (0, 0) else if f 0 ≠ 60 then (0, 0) else if wch (f (tag0 f)) = false then (0, 0) else
  if mailHere n f (tag1 n f) ≠ 0 then (2, tag1 n f + mailHere n f (tag1 n f)) else
  if 2 < tag1 n f ∧ tag1 n f < n ∧ f (tag1 n f) = 58 then
    (if n ≤ tag1 n f + 1 then (0, n) else if n ≤ r then (1, 0) else if tag1 n f + 1 < r ∧ f r = 62 then (1, r + 1) else (0, fromGt n f r))
  else (0, fromGt n f (tag1 n f))
/-- The answer. -/
def IsTag (n : Nat) (f : Nat → Int) (k e : Nat) : Prop := ∃ r, (2 < tag1 n f ∧ tag1 n f < n ∧ f (tag1 n f) = 58 → SkipTo n f (tag1 n f + 1) r) ∧ tagF n f r = (k, e)
theorem IsTag.unique {n : Nat} {f : Nat → Int} {k e k' e' : Nat} (h : IsTag n f k e) (h' : IsTag n f k' e') : k = k' ∧ e = e' := by
  obtain ⟨r, h1, h2⟩ := h
  obtain ⟨s, h3, h4⟩ := h'
  by_cases hc : 2 < tag1 n f ∧ tag1 n f < n ∧ f (tag1 n f) = 58
  · obtain rfl := (h1 hc).unique s (h3 hc)
    rw [h2] at h4; injection h4 with a b; exact ⟨a, b⟩
  · have e1 : tagF n f r = tagF n f s := by unfold tagF; rw [if_neg hc, if_neg hc]
    rw [← e1, h2] at h4; injection h4 with a b; exact ⟨a, b⟩
theorem skip_total (n : Nat) (f : Nat → Int) : ∀ d i, n ≤ i + d → ∃ r, SkipTo n f i r
  | 0, i, h => ⟨i, .over i h⟩
  | d + 1, i, h => by
    rcases Nat.lt_or_ge i n with hi | hi
    · by_cases h92 : f i = 92
      · obtain ⟨r, hr⟩ := skip_total n f d (i + 2) (by omega)
        exact ⟨r, .esc i r hi h92 hr⟩
      · by_cases hl : lst (f i) = true
        · exact ⟨i, .stop i hi hl⟩
        · obtain ⟨r, hr⟩ := skip_total n f d (i + 1) (by omega)
          exact ⟨r, .step i r hi h92 (by simpa using hl) hr⟩
    · exact ⟨i, .over i hi⟩
section
variable {n : Nat} {f : Nat → Int}
theorem tag_any {k e : Nat} (h : ∀ r, tagF n f r = (k, e)) : IsTag n f k e := by
  obtain ⟨r, hr⟩ := skip_total n f n (tag1 n f + 1) (by omega)
  exact ⟨r, fun _ => hr, h r⟩
theorem tag_short (h : n < 3) : IsTag n f 0 0 := tag_any fun r => by unfold tagF; rw [if_pos h]
theorem tag_not (hn : ¬ n < 3) (h : f 0 ≠ 60) : IsTag n f 0 0 := tag_any fun r => by unfold tagF; rw [if_neg hn, if_pos h]
theorem tag_noname (hn : ¬ n < 3) (h0 : f 0 = 60) (h : wch (f (tag0 f)) = false) : IsTag n f 0 0 := tag_any fun r => by unfold tagF; rw [if_neg hn, if_neg (fun h => h h0), if_pos h]
theorem tag_mail (hn : ¬ n < 3) (h0 : f 0 = 60) (h : wch (f (tag0 f)) = true) (hm : mailHere n f (tag1 n f) ≠ 0) : IsTag n f 2 (tag1 n f + mailHere n f (tag1 n f)) :=
  tag_any fun r => by unfold tagF; rw [if_neg hn, if_neg (fun h => h h0), if_neg (by rw [h]; simp), if_pos hm]
theorem tag_link {r : Nat} (hn : ¬ n < 3) (h0 : f 0 = 60) (hw : wch (f (tag0 f)) = true) (hm : mailHere n f (tag1 n f) = 0) (hc : 2 < tag1 n f ∧ tag1 n f < n ∧ f (tag1 n f) = 58) (hr : SkipTo n f (tag1 n f + 1) r) {k e : Nat}
    (he : (if n ≤ tag1 n f + 1 then (0, n) else if n ≤ r then (1, 0) else if tag1 n f + 1 < r ∧ f r = 62 then (1, r + 1) else (0, fromGt n f r)) = (k, e)) : IsTag n f k e :=
  ⟨r, fun _ => hr, by unfold tagF; rw [if_neg hn, if_neg (fun h => h h0), if_neg (by rw [hw]; simp), if_neg (fun h => h hm), if_pos hc]; exact he⟩
theorem tag_plain (hn : ¬ n < 3) (h0 : f 0 = 60) (hw : wch (f (tag0 f)) = true) (hm : mailHere n f (tag1 n f) = 0) (hc : ¬ (2 < tag1 n f ∧ tag1 n f < n ∧ f (tag1 n f) = 58)) : IsTag n f 0 (fromGt n f (tag1 n f)) :=
  ⟨0, fun h => absurd h hc, by unfold tagF; rw [if_neg hn, if_neg (fun h => h h0), if_neg (by rw [hw]; simp), if_neg (fun h => h hm), if_neg hc]⟩
end
end Go.Proofs.Ytkkkdcfidoecnaa
