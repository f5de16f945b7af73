/- Lines: where a line ends, rules, underlines: the plain side; the end of a line (the reference). -/
import Derived.Test.YtcelfpgkknfnhaaGreatDoorL7
import Derived.Test.YtcelfpgkknfnhaaGreatDoorL4
namespace Go.Proofs.YtcelfpgkknfnhaaGreatDoor
open Go.RowKit
set_option linter.unusedVariables false

theorem scanF_spec (P : Int → Bool) (f : Nat → Int) : ∀ k i, i ≤ scanF P (i + k) f k i ∧ scanF P (i + k) f k i ≤ i + k ∧ (∀ j, i ≤ j → j < scanF P (i + k) f k i → P (f j) = false) ∧ (scanF P (i + k) f k i < i + k → P (f (scanF P (i + k) f k i)) = true)
  | 0, i => by unfold scanF; exact ⟨by omega, by omega, fun j h1 h2 => by omega, fun h => by omega⟩
  | k + 1, i => by
    unfold scanF
    by_cases h : P (f i) = true
    · rw [if_pos h]; exact ⟨by omega, by omega, fun j h1 h2 => by omega, fun _ => h⟩
    · rw [if_neg h]
      have := scanF_spec P f k (i + 1)
      rw [show i + 1 + k = i + (k + 1) from by omega] at this
      obtain ⟨h1, h2, h3, h4⟩ := this
      refine ⟨by omega, h2, fun j a b => ?_, h4⟩
      by_cases e : j = i
      · rw [e]; simpa using h
      · exact h3 j (by omega) b
theorem scan_spec (P : Int → Bool) {n : Nat} (f : Nat → Int) {i : Nat} (h : i ≤ n) : i ≤ scan P n f i ∧ scan P n f i ≤ n ∧ (∀ j, i ≤ j → j < scan P n f i → P (f j) = false) ∧ (scan P n f i < n → P (f (scan P n f i)) = true) := by
  have := scanF_spec P f (n - i) i
  rw [show i + (n - i) = n from by omega] at this
  exact this
/-- The only place of that kind. -/
theorem scan_eq {P : Int → Bool} {n : Nat} {f : Nat → Int} {i k : Nat} (hi : i ≤ k) (hk : k < n) (h1 : ∀ j, i ≤ j → j < k → P (f j) = false) (h2 : P (f k) = true) : scan P n f i = k := by
  obtain ⟨a, b, c, d⟩ := scan_spec P f (show i ≤ n by omega)
  rcases Nat.lt_trichotomy (scan P n f i) k with h | h | h
  · have := h1 _ a h
    rw [d (by omega)] at this; cases this
  · exact h
  · have := c k hi h
    rw [h2] at this; cases this
theorem scan_full {P : Int → Bool} {n : Nat} {f : Nat → Int} {i : Nat} (hi : i ≤ n) (h1 : ∀ j, i ≤ j → j < n → P (f j) = false) : scan P n f i = n := by
  obtain ⟨a, b, c, d⟩ := scan_spec P f hi
  rcases Nat.lt_or_ge (scan P n f i) n with h | h
  · have := h1 _ a h
    rw [d h] at this; cases this
  · omega
/-- A scan that stops at le at the latest. -/
theorem scan_cut {P : Int → Bool} {n le : Nat} {f : Nat → Int} {i : Nat} (hi : i ≤ le) (hn : le < n) (h : P (f le) = true) : scan P n f i = scan P le f i := by
  obtain ⟨a, b, c, d⟩ := scan_spec P f hi
  rcases Nat.lt_or_ge (scan P le f i) le with hl | hl
  · exact scan_eq a (by omega) c (d hl)
  · have e : scan P le f i = le := by omega
    rw [e]
    exact scan_eq hi hn (fun j x y => c j x (by omega)) h

theorem isB_yes {x y : Int} (h : isB x y = true) : y = x := by unfold isB at h; simpa using h
theorem isB_not {x y : Int} (h : isB x y = false) : y ≠ x := by unfold isB at h; simpa using h
/-- The first line feed is at le. -/
def LEnd (n : Nat) (f : Nat → Int) (le : Nat) : Prop := le < n ∧ f le = 10 ∧ ∀ j, j < le → f j ≠ 10
theorem lend_of {n : Nat} {f : Nat → Int} (hn : 0 < n) (h : f (n - 1) = 10) : LEnd n f (scan (isB 10) n f 0) := by
  obtain ⟨a, b, c, d⟩ := scan_spec (isB 10) f (Nat.zero_le n)
  have hl : scan (isB 10) n f 0 < n := by
    rcases Nat.lt_or_ge (scan (isB 10) n f 0) n with hl | hl
    · exact hl
    · have := c (n - 1) (by omega) (by omega)
      unfold isB at this
      simp at this
      omega
  exact ⟨hl, isB_yes (d hl), fun j hj => isB_not (c j (by omega) hj)⟩

/-- The rest of a rule of the mark c up to le: m marks so far. -/
def rlF (c : Int) (f : Nat → Int) : Nat → Nat → Nat → Bool
  | 0, _, m => decide (3 ≤ m)
  | k + 1, i, m => if f i = c then rlF c f k (i + 1) (m + 1) else if f i = 32 then rlF c f k (i + 1) m else false
def rl (c : Int) (f : Nat → Int) (le i m : Nat) : Bool := rlF c f (le - i) i m
theorem rl_end {c : Int} {f : Nat → Int} {le i m : Nat} (h : le ≤ i) : rl c f le i m = decide (3 ≤ m) := by
  unfold rl; rw [Nat.sub_eq_zero_of_le h]; rfl
theorem rl_mark {c : Int} {f : Nat → Int} {le i m : Nat} (h : i < le) (e : f i = c) : rl c f le i m = rl c f le (i + 1) (m + 1) := by
  unfold rl; rw [show le - i = (le - (i + 1)) + 1 from by omega, rlF, if_pos e]
theorem rl_blank {c : Int} {f : Nat → Int} {le i m : Nat} (h : i < le) (e : f i ≠ c) (e2 : f i = 32) : rl c f le i m = rl c f le (i + 1) m := by
  unfold rl; rw [show le - i = (le - (i + 1)) + 1 from by omega, rlF, if_neg e, if_pos e2]
theorem rl_no {c : Int} {f : Nat → Int} {le i m : Nat} (h : i < le) (e : f i ≠ c) (e2 : f i ≠ 32) : rl c f le i m = false := by
  unfold rl; rw [show le - i = (le - (i + 1)) + 1 from by omega, rlF, if_neg e, if_neg e2]
def markF (x : Int) : Bool := decide (x = 42 ∨ x = 45 ∨ x = 95)
/-- Whether the line that ends at le is a rule. -/
def ruleG (le : Nat) (f : Nat → Int) (b : Nat) : Bool := if b < le ∧ markF (f b) = true then rl (f b) f le b 0 else false
def ruleF (le : Nat) (f : Nat → Int) : Bool := ruleG le f (blA le f 3)

/-- The level of the line that ends at le, as the reference has it. -/
def unS (le : Nat) (f : Nat → Int) : Nat := if 0 < le ∧ (f 0 = 61 ∨ f 0 = 45) ∧ scan (noCh 32) le f (scan (noCh (f 0)) le f 0) = le then (if f 0 = 61 then 1 else 2) else 0
theorem un_same {n le : Nat} {f : Nat → Int} (h : LEnd n f le) : unF n f = unS le f := by
  obtain ⟨h1, h2, h3⟩ := h
  unfold unF unS
  by_cases h0 : 0 < le
  case neg =>
    have e : le = 0 := by omega
    subst e
    rw [if_neg (by omega), if_neg (by omega), if_neg (by omega)]
  have one : ∀ x : Int, f 0 = x → x ≠ 10 → scan (noCh x) le f 0 = scan (noCh x) le f 1 := fun x e _ => scan_go h0 (by unfold noCh; simp [e])
  have main : ∀ x : Int, f 0 = x → x ≠ 10 → (unE n f x = scan (noCh 32) le f (scan (noCh x) le f 0) ∧ unE n f x ≤ le) := by
    intro x e hx
    unfold unE
    have a := scan_cut (P := noCh x) (n := n) (f := f) (i := 1) (show 1 ≤ le by omega) h1 (by unfold noCh; simp; omega)
    rw [a, one x e hx]
    have b := scan_spec (noCh x) f (show 1 ≤ le by omega)
    have c := scan_cut (P := noCh 32) (n := n) (f := f) b.2.1 h1 (by unfold noCh; simp; omega)
    rw [c]
    exact ⟨rfl, (scan_spec (noCh 32) f b.2.1).2.1⟩
  have ten : ∀ u, u ≤ le → ((u < n ∧ f u = 10) ↔ u = le) := by
    intro u hu
    constructor
    · rintro ⟨_, e⟩
      rcases Nat.lt_or_ge u le with h | h
      · exact absurd e (h3 u h)
      · omega
    · rintro rfl
      exact ⟨h1, h2⟩
  by_cases a : f 0 = 61
  · obtain ⟨e, l⟩ := main 61 a (by decide)
    rw [if_pos a, e]
    rw [e] at l
    by_cases z : scan (noCh 32) le f (scan (noCh 61) le f 0) = le
    · rw [if_pos ((ten _ l).2 z), if_pos ⟨h0, .inl a, by rw [a]; exact z⟩, if_pos a]
    · rw [if_neg (fun h => z ((ten _ l).1 h)), if_neg (fun h => z (by have := h.2.2; rw [a] at this; exact this))]
  · by_cases b : f 0 = 45
    · obtain ⟨e, l⟩ := main 45 b (by decide)
      rw [if_neg a, if_pos b, e]
      rw [e] at l
      by_cases z : scan (noCh 32) le f (scan (noCh 45) le f 0) = le
      · rw [if_pos ((ten _ l).2 z), if_pos ⟨h0, .inr b, by rw [b]; exact z⟩, if_neg a]
      · rw [if_neg (fun h => z ((ten _ l).1 h)), if_neg (fun h => z (by have := h.2.2; rw [b] at this; exact this))]
    · rw [if_neg a, if_neg b, if_neg (fun h => by rcases h.2.1 with h | h <;> contradiction)]

set_option maxHeartbeats 1000000 in
theorem lineEnd_any (A : Option Addr) (n cap : Nat) (f : Nat → Int) (w : World) (B : Nat) (h : RB w B A n cap f) (hn : n ≤ 100000) :
    Calls Tryz.prog 29 #[.slice A n cap] w fun e w' => e = .returned (.int .i64 (scan (isB 10) n f 0)) ∧ w = w' := by
  have HH := Lib.hid h
  clear h
  go_enter Tryz.func29, Tryz.ntmps29
  go_wp2
  go_loop [7] (fun iv => ∃ i : Nat, Hid (scan (isB 10) n f 0 = scan (isB 10) n f i) ∧ i ≤ n ∧ iv = .int .i64 i) (fun iv => n - (intOf iv).toNat)
  case atStart => exact ⟨0, Lib.hid rfl, by omega, rfl⟩
  case round =>
    obtain ⟨i, HS, hi1, rfl⟩ := hrel
    by_cases hil : i < n
    · obtain ⟨b, off, rfl, hB, hcell⟩ := HH.out.2.2.2 (by omega)
      have k0 := hcell i hil
      clear hcell
      go_wp2
      all_goals first
        | (go_ret; exact ⟨retl (by rw [HS.out, scan_hit (by unfold isB; simp at *; omega)]), rfl⟩)
        | (go_round; case rel => exact ⟨i + 1, Lib.hid (HS.out.trans (scan_go (by omega) (by unfold isB; simp at *; omega))), by omega, by go_num⟩
           case measure => simp [intOf]; omega)
    · have HO := Lib.hid (HS.out.trans (scan_end (by omega)))
      have e : Hid (i = n) := Lib.hid (by omega)
      go_wp2
      go_ret
      exact ⟨retl (by rw [HO.out, e.out]), rfl⟩
end Go.Proofs.YtcelfpgkknfnhaaGreatDoor
