/- Emphasis in plain words: what one round of the search does, as a function of the place where it begins. -/
import Derived.Test.YtcelfpgkknfnhaaGreatDoorMem2
namespace Go.Proofs.YtcelfpgkknfnhaaGreatDoor
open Go.RowKit
set_option linter.unusedVariables false

/-- The first place from i on (below n) whose byte is met; n or more if there is none. -/
def scanF (P : Int → Bool) (n : Nat) (f : Nat → Int) : Nat → Nat → Nat
  | 0, i => i
  | k + 1, i => if P (f i) then i else scanF P n f k (i + 1)
def scan (P : Int → Bool) (n : Nat) (f : Nat → Int) (i : Nat) : Nat := scanF P n f (n - i) i
theorem scan_end {P : Int → Bool} {n : Nat} {f : Nat → Int} {i : Nat} (h : n ≤ i) : scan P n f i = i := by
  unfold scan; rw [Nat.sub_eq_zero_of_le h]; rfl
theorem scan_hit {P : Int → Bool} {n : Nat} {f : Nat → Int} {i : Nat} (h : P (f i) = true) : scan P n f i = i := by
  unfold scan
  rcases hk : n - i with _ | k
  · rfl
  · simp [scanF, h]
theorem scan_go {P : Int → Bool} {n : Nat} {f : Nat → Int} {i : Nat} (hi : i < n) (h : P (f i) = false) : scan P n f i = scan P n f (i + 1) := by
  unfold scan
  rw [show n - i = (n - (i + 1)) + 1 from by omega]
  simp [scanF, h]
/-- The first c on the way (t: what has been noted so far; 0: nothing). -/
def notedF (P : Int → Bool) (c : Int) (f : Nat → Int) : Nat → Nat → Nat → Nat
  | 0, _, t => t
  | k + 1, i, t => if P (f i) then t else notedF P c f k (i + 1) (if t = 0 ∧ f i = c then i else t)
def noted (P : Int → Bool) (c : Int) (n : Nat) (f : Nat → Int) (i t : Nat) : Nat := notedF P c f (n - i) i t
theorem noted_end {P : Int → Bool} {c : Int} {n : Nat} {f : Nat → Int} {i t : Nat} (h : n ≤ i) : noted P c n f i t = t := by
  unfold noted; rw [Nat.sub_eq_zero_of_le h]; rfl
theorem noted_hit {P : Int → Bool} {c : Int} {n : Nat} {f : Nat → Int} {i t : Nat} (h : P (f i) = true) : noted P c n f i t = t := by
  unfold noted
  rcases hk : n - i with _ | k
  · rfl
  · simp [notedF, h]
theorem noted_new {P : Int → Bool} {c : Int} {n : Nat} {f : Nat → Int} {i : Nat} (hi : i < n) (h : P (f i) = false) (hc : f i = c) : noted P c n f i 0 = noted P c n f (i + 1) i := by
  unfold noted
  rw [show n - i = (n - (i + 1)) + 1 from by omega]
  rw [notedF, if_neg (by rw [h]; simp), if_pos ⟨rfl, hc⟩]
theorem noted_go {P : Int → Bool} {c : Int} {n : Nat} {f : Nat → Int} {i t : Nat} (hi : i < n) (h : P (f i) = false) (hc : t ≠ 0 ∨ f i ≠ c) : noted P c n f i t = noted P c n f (i + 1) t := by
  unfold noted
  rw [show n - i = (n - (i + 1)) + 1 from by omega]
  have : ¬ (t = 0 ∧ f i = c) := by omega
  simp [notedF, h, this]
theorem notedF_stay (P : Int → Bool) (c : Int) (f : Nat → Int) : ∀ k i t, t ≠ 0 → notedF P c f k i t = t
  | 0, _, _, _ => rfl
  | k + 1, i, t, h => by
    unfold notedF
    split
    · rfl
    · rw [if_neg (fun e => h e.1)]; exact notedF_stay P c f k _ t h
theorem noted_stay {P : Int → Bool} {c : Int} {n : Nat} {f : Nat → Int} {i t : Nat} (h : t ≠ 0) : noted P c n f i t = t := notedF_stay P c f _ i t h

def isB (x : Int) (y : Int) : Bool := decide (y = x)
def stopsE (c y : Int) : Bool := decide (y = c ∨ y = 96 ∨ y = 91)
def noBlank (y : Int) : Bool := decide (y ≠ 32 ∧ y ≠ 10)
/-- One round from i on: what is returned, or where the next one begins. -/
def stepE (c : Int) (n : Nat) (f : Nat → Int) (i : Nat) : Nat ⊕ Nat :=
  if n ≤ i then .inl 0 else
  if n ≤ scan (stopsE c) n f i then .inl 0 else
  if 0 < scan (stopsE c) n f i ∧ f (scan (stopsE c) n f i - 1) = 92 then .inr (scan (stopsE c) n f i + 1) else
  if f (scan (stopsE c) n f i) = c then .inl (scan (stopsE c) n f i) else
  if f (scan (stopsE c) n f i) = 96 then
    if n ≤ scan (isB 96) n f (scan (stopsE c) n f i + 1) then .inl (noted (isB 96) c n f (scan (stopsE c) n f i + 1) 0) else .inr (scan (isB 96) n f (scan (stopsE c) n f i + 1) + 1)
  else
    (fun k t =>
      (fun m =>
        if n ≤ m then .inl t else
        if f m ≠ 91 ∧ f m ≠ 40 then (if 0 < t then .inl t else .inr m) else
        if t = 0 ∧ 0 < noted (isB (f m)) c n f (m + 1) 0 then .inl (noted (isB (f m)) c n f (m + 1) 0) else
        if n ≤ scan (isB (f m)) n f (m + 1) then .inl t else .inr (scan (isB (f m)) n f (m + 1) + 1))
      (scan noBlank n f (k + 1)))
    (scan (isB 93) n f (scan (stopsE c) n f i + 1)) (noted (isB 93) c n f (scan (stopsE c) n f i + 1) 0)
/-- The answer of the search that begins at i. -/
inductive OutE (c : Int) (n : Nat) (f : Nat → Int) : Nat → Nat → Prop
  | done (i r : Nat) (h : stepE c n f i = .inl r) : OutE c n f i r
  | go (i j r : Nat) (h : stepE c n f i = .inr j) (hr : OutE c n f j r) : OutE c n f i r
theorem OutE.unique {c : Int} {n : Nat} {f : Nat → Int} {i r : Nat} (h : OutE c n f i r) : ∀ s, OutE c n f i s → r = s := by
  induction h with
  | done i r h =>
    intro s hs
    cases hs with
    | done _ _ h' => rw [h] at h'; injection h'
    | go _ j _ h' _ => rw [h] at h'; cases h'
  | go i j r h hr ih =>
    intro s hs
    cases hs with
    | done _ _ h' => rw [h] at h'; cases h'
    | go _ j' _ h' hr' => rw [h] at h'; injection h' with e; subst e; exact ih s hr'
/-- Whatever the search from i answers, the one from 0 answers. -/
def FromE (c : Int) (n : Nat) (f : Nat → Int) (i : Nat) : Prop := ∀ r, OutE c n f i r → OutE c n f 0 r
theorem FromE.zero (c : Int) (n : Nat) (f : Nat → Int) : FromE c n f 0 := fun _ h => h

section
variable {c : Int} {n i j : Nat} {f : Nat → Int} (h : FromE c n f i)
include h
theorem fe_over (hi : n ≤ i) : OutE c n f 0 0 := h _ (.done _ _ (by unfold stepE; rw [if_pos hi]))
theorem fe_none (hi : i < n) (hj : scan (stopsE c) n f i = j) (hn : n ≤ j) : OutE c n f 0 0 := h _ (.done _ _ (by unfold stepE; rw [if_neg (by omega), hj, if_pos hn]))
theorem fe_esc (hi : i < n) (hj : scan (stopsE c) n f i = j) (hn : j < n) (h0 : 0 < j) (he : f (j - 1) = 92) : FromE c n f (j + 1) :=
  fun r hr => h _ (.go _ _ _ (by unfold stepE; rw [if_neg (by omega), hj, if_neg (by omega), if_pos ⟨h0, he⟩]) hr)
theorem fe_found (hi : i < n) (hj : scan (stopsE c) n f i = j) (hn : j < n) (he : ¬ (0 < j ∧ f (j - 1) = 92)) (hc : f j = c) : OutE c n f 0 j :=
  h _ (.done _ _ (by unfold stepE; rw [if_neg (by omega), hj, if_neg (by omega), if_neg he, if_pos hc]))
theorem fe_tick_end {k t : Nat} (hi : i < n) (hj : scan (stopsE c) n f i = j) (hn : j < n) (he : ¬ (0 < j ∧ f (j - 1) = 92)) (hc : f j ≠ c) (h96 : f j = 96) (hk : scan (isB 96) n f (j + 1) = k) (ht : noted (isB 96) c n f (j + 1) 0 = t) (hk2 : n ≤ k) : OutE c n f 0 t :=
  h _ (.done _ _ (by unfold stepE; rw [if_neg (by omega), hj, if_neg (by omega), if_neg he, if_neg hc, if_pos h96, hk, if_pos hk2, ht]))
theorem fe_tick {k : Nat} (hi : i < n) (hj : scan (stopsE c) n f i = j) (hn : j < n) (he : ¬ (0 < j ∧ f (j - 1) = 92)) (hc : f j ≠ c) (h96 : f j = 96) (hk : scan (isB 96) n f (j + 1) = k) (hk2 : k < n) : FromE c n f (k + 1) :=
  fun r hr => h _ (.go _ _ _ (by unfold stepE; rw [if_neg (by omega), hj, if_neg (by omega), if_neg he, if_neg hc, if_pos h96, hk, if_neg (by omega)]) hr)
/-- Behind a bracket: the place m behind its end and the blanks, what was noted in it. -/
def LinkE (c : Int) (n : Nat) (f : Nat → Int) (m t : Nat) : Prop := ∀ r : Nat ⊕ Nat,
  (if n ≤ m then Sum.inl t else
        if f m ≠ 91 ∧ f m ≠ 40 then (if 0 < t then .inl t else .inr m) else
        if t = 0 ∧ 0 < noted (isB (f m)) c n f (m + 1) 0 then .inl (noted (isB (f m)) c n f (m + 1) 0) else
        if n ≤ scan (isB (f m)) n f (m + 1) then .inl t else .inr (scan (isB (f m)) n f (m + 1) + 1)) = r →
  (match r with | .inl x => OutE c n f 0 x | .inr x => FromE c n f x)
theorem fe_link {k t m : Nat} (hi : i < n) (hj : scan (stopsE c) n f i = j) (hn : j < n) (he : ¬ (0 < j ∧ f (j - 1) = 92)) (hc : f j ≠ c) (h96 : f j ≠ 96) (hk : scan (isB 93) n f (j + 1) = k) (ht : noted (isB 93) c n f (j + 1) 0 = t)
    (hm : scan noBlank n f (k + 1) = m) : LinkE c n f m t := by
  intro r hr
  have e : stepE c n f i = r := by
    unfold stepE; rw [if_neg (by omega), hj, if_neg (by omega), if_neg he, if_neg hc, if_neg h96]
    simp only [hk, ht, hm]
    exact hr
  cases r with
  | inl x => exact h _ (.done _ _ e)
  | inr x => exact fun y hy => h _ (.go _ _ _ e hy)
end
section
variable {c : Int} {n m t : Nat} {f : Nat → Int} (h : LinkE c n f m t)
include h
theorem le_over (hm : n ≤ m) : OutE c n f 0 t := h (.inl t) (by rw [if_pos hm])
theorem le_plain (hm : m < n) (h1 : f m ≠ 91) (h2 : f m ≠ 40) (ht : 0 < t) : OutE c n f 0 t := h (.inl t) (by rw [if_neg (by omega), if_pos ⟨h1, h2⟩, if_pos ht])
theorem le_again (hm : m < n) (h1 : f m ≠ 91) (h2 : f m ≠ 40) (ht : t = 0) : FromE c n f m := h (.inr m) (by rw [if_neg (by omega), if_pos ⟨h1, h2⟩, if_neg (by omega)])
theorem le_second {s : Nat} (hm : m < n) (h1 : f m = 91 ∨ f m = 40) (ht : t = 0) (hs : noted (isB (f m)) c n f (m + 1) 0 = s) (h0 : 0 < s) : OutE c n f 0 s :=
  h (.inl s) (by rw [if_neg (by omega), if_neg (by omega), if_pos ⟨ht, by omega⟩, hs])
theorem le_open {q : Nat} (hm : m < n) (h1 : f m = 91 ∨ f m = 40) (hs : ¬ (t = 0 ∧ 0 < noted (isB (f m)) c n f (m + 1) 0)) (hq : scan (isB (f m)) n f (m + 1) = q) (h0 : n ≤ q) : OutE c n f 0 t :=
  h (.inl t) (by rw [if_neg (by omega), if_neg (by omega), if_neg hs, hq, if_pos h0])
theorem le_shut {q : Nat} (hm : m < n) (h1 : f m = 91 ∨ f m = 40) (hs : ¬ (t = 0 ∧ 0 < noted (isB (f m)) c n f (m + 1) 0)) (hq : scan (isB (f m)) n f (m + 1) = q) (h0 : q < n) : FromE c n f (q + 1) :=
  h (.inr (q + 1)) (by rw [if_neg (by omega), if_neg (by omega), if_neg hs, hq, if_neg (by omega)])
end
end Go.Proofs.YtcelfpgkknfnhaaGreatDoor
