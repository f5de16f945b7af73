/- Forests: lists of children and links agree, step by step (plain). -/
import Derived.Test.YtkcccajiplchpaaR4
namespace Go.Proofs.Ytkcccajiplchpaa
set_option linter.unusedVariables false

/-! Forests as lists of children, and links. -/
def prevAt (l : List Nat) (j : Nat) : Option Nat := if j = 0 then none else l[j - 1]?
structure Forest (n : Nat) (U : Nat → Option Nat) (D : Nat → List Nat) : Prop where
  uniq : ∀ (i j j' k : Nat), i < n → (D i)[j]? = some k → (D i)[j']? = some k → j = j'
  up : ∀ (i j k : Nat), i < n → (D i)[j]? = some k → k < n ∧ U k = some i
  down : ∀ (i k : Nat), k < n → U k = some i → i < n ∧ ∃ j : Nat, (D i)[j]? = some k
structure Agree (n : Nat) (U : Nat → Option Nat) (D : Nat → List Nat) (L : Lk) : Prop where
  l1 : ∀ k, k < n → L 1 k = U k
  l2 : ∀ i, i < n → L 2 i = (D i)[0]?
  l3 : ∀ i, i < n → L 3 i = prevAt (D i) (D i).length
  l4 : ∀ (i j k : Nat), i < n → (D i)[j]? = some k → L 4 k = prevAt (D i) j
  l5 : ∀ (i j k : Nat), i < n → (D i)[j]? = some k → L 5 k = (D i)[j + 1]?
  l0 : ∀ k, k < n → U k = none → L 4 k = none ∧ L 5 k = none

theorem unlinkL_get (L : Lk) (a k i : Nat) : unlinkL L a k i =
    if i = a ∧ (k = 1 ∨ k = 4 ∨ k = 5) then none else if k = 4 ∧ L 5 a = some i then L 4 a else if k = 5 ∧ L 4 a = some i then L 5 a
    else if k = 2 ∧ L 4 a = none ∧ L 1 a = some i then L 5 a else if k = 3 ∧ L 5 a = none ∧ L 1 a = some i then L 4 a else L k i := by
  unfold unlinkL unlink2 unlink1 upd
  cases h4 : L 4 a <;> cases h5 : L 5 a <;> cases h1 : L 1 a <;> simp only [] <;> grind

def cutU (U : Nat → Option Nat) (a : Nat) : Nat → Option Nat := fun k => if k = a then none else U k
def cutD (U : Nat → Option Nat) (D : Nat → List Nat) (a : Nat) : Nat → List Nat := fun i => if U a = some i then (D i).filter (fun k => decide (k ≠ a)) else D i

theorem filter_erase : ∀ (l : List Nat) (t a : Nat), l[t]? = some a → (∀ j : Nat, l[j]? = some a → j = t) → l.filter (fun k => decide (k ≠ a)) = l.eraseIdx t
  | [], t, a, h, _ => by simp at h
  | x :: l, 0, a, h, hu => by
    simp at h; subst h
    rw [List.filter_cons_of_neg (by simp)]
    rw [List.eraseIdx_cons_zero]
    refine List.filter_eq_self.2 fun y hy => ?_
    obtain ⟨j, hj⟩ := List.getElem?_of_mem hy
    by_cases e : y = x
    · subst e
      have := hu (j + 1) (by simpa using hj)
      omega
    · simp [e]
  | x :: l, t + 1, a, h, hu => by
    have hx : x ≠ a := fun e => by
      have := hu 0 (by simp [e])
      omega
    rw [List.filter_cons_of_pos (by simp [hx]), List.eraseIdx_cons_succ]
    rw [filter_erase l t a (by simpa using h) (fun j hj => by have := hu (j + 1) (by simpa using hj); omega)]

theorem Forest.cut {n : Nat} {U : Nat → Option Nat} {D : Nat → List Nat} (h : Forest n U D) {a : Nat} (ha : a < n) : Forest n (cutU U a) (cutD U D a) := by
  cases hU : U a with
  | none =>
    have e1 : cutU U a = U := by funext k; unfold cutU; split <;> simp_all
    have e2 : cutD U D a = D := by funext i; unfold cutD; simp [hU]
    rw [e1, e2]; exact h
  | some p =>
    obtain ⟨hp, t, ht⟩ := h.down p a ha hU
    have e2 : cutD U D a = fun i => if i = p then (D p).eraseIdx t else D i := by
      funext i; unfold cutD
      rw [hU]
      by_cases e : i = p
      · subst e; simp only [if_true]; exact filter_erase _ t a ht (fun j hj => h.uniq i j t a hp hj ht)
      · simp [e, Ne.symm e]
    rw [e2]
    have hun := h.uniq
    have hup := h.up
    have hdn := h.down
    refine ⟨fun i j j' k hi h1 h2 => ?_, fun i j k hi h1 => ?_, fun i k hk h1 => ?_⟩
    · try dsimp only at h1 h2
      split at h1
      · rename_i e; subst e
        rw [if_pos rfl] at h2
        rw [List.getElem?_eraseIdx] at h1 h2
        split at h1 <;> split at h2
        · exact hun i j j' k hi h1 h2
        · have := hun i _ _ k hi h1 h2; omega
        · have := hun i _ _ k hi h1 h2; omega
        · have := hun i _ _ k hi h1 h2; omega
      · rename_i e
        rw [if_neg e] at h2
        exact hun i j j' k hi h1 h2
    · try dsimp only at h1
      split at h1
      · rename_i e; subst e
        rw [List.getElem?_eraseIdx] at h1
        unfold cutU
        split at h1
        · rw [if_neg (fun e => by subst e; have := hun i _ _ k hi h1 ht; omega)]
          exact hup i _ k hi h1
        · rw [if_neg (fun e => by subst e; have := hun i _ _ k hi h1 ht; omega)]
          exact hup i _ k hi h1
      · rename_i e
        obtain ⟨u1, u2⟩ := hup i _ k hi h1
        refine ⟨u1, ?_⟩
        unfold cutU
        rw [if_neg (fun e => by subst e; rw [hU] at u2; injection u2 with u2; omega)]
        exact u2
    · unfold cutU at h1
      split at h1
      · cases h1
      · rename_i hka
        obtain ⟨u1, j, hj⟩ := hdn i k hk h1
        refine ⟨u1, ?_⟩
        by_cases e : i = p
        · subst e
          simp only [if_true]
          by_cases hjt : j < t
          · exact ⟨j, by rw [List.getElem?_eraseIdx, if_pos hjt]; exact hj⟩
          · have : j ≠ t := fun e => by subst e; rw [ht] at hj; injection hj with hj; omega
            refine ⟨j - 1, by rw [List.getElem?_eraseIdx, if_neg (by omega)]; rw [show j - 1 + 1 = j by omega]; exact hj⟩
        · simp only [if_neg e]; exact ⟨j, hj⟩

theorem prevAt_some {l : List Nat} {j k : Nat} (h : prevAt l j = some k) : 0 < j ∧ l[j - 1]? = some k := by
  unfold prevAt at h; split at h
  · cases h
  · exact ⟨by omega, h⟩
theorem prevAt_none {l : List Nat} {j : Nat} (hj : j ≤ l.length) (h : prevAt l j = none) : j = 0 := by
  unfold prevAt at h; split at h
  · assumption
  · rw [List.getElem?_eq_none_iff] at h; omega

theorem Agree.cut {n : Nat} {U : Nat → Option Nat} {D : Nat → List Nat} {L : Lk} (h : Forest n U D) (g : Agree n U D L) {a : Nat} (ha : a < n) : Agree n (cutU U a) (cutD U D a) (unlinkL L a) := by
  cases hU : U a with
  | none =>
    have e1 : cutU U a = U := by funext k; unfold cutU; split <;> simp_all
    have e2 : cutD U D a = D := by funext i; unfold cutD; simp [hU]
    have hl1 := g.l1 a ha
    obtain ⟨h4, h5⟩ := g.l0 a ha hU
    have e3 : ∀ k i, unlinkL L a k i = L k i := fun k i => by
      rw [unlinkL_get, h4, h5, hl1, hU]
      simp only [reduceCtorEq, and_false, if_false]
      split
      · rename_i e; obtain ⟨rfl, rfl | rfl | rfl⟩ := e
        · rw [hl1, hU]
        · rw [h4]
        · rw [h5]
      · rfl
    rw [e1, e2]
    exact ⟨fun k hk => by rw [e3]; exact g.l1 k hk, fun k hk => by rw [e3]; exact g.l2 k hk, fun k hk => by rw [e3]; exact g.l3 k hk,
      fun i j k hk hj => by rw [e3]; exact g.l4 i j k hk hj, fun i j k hk hj => by rw [e3]; exact g.l5 i j k hk hj, fun k hk hu => by rw [e3, e3]; exact g.l0 k hk hu⟩
  | some p =>
    obtain ⟨hp, t, ht⟩ := h.down p a ha hU
    have htl : t < (D p).length := (List.getElem?_eq_some_iff.1 ht).1
    have e2 : cutD U D a = fun i => if i = p then (D p).eraseIdx t else D i := by
      funext i; unfold cutD
      rw [hU]
      by_cases e : i = p
      · subst e; simp only [if_true]; exact filter_erase _ t a ht (fun j hj => h.uniq i j t a hp hj ht)
      · simp [e, Ne.symm e]
    rw [e2]
    have hun := h.uniq
    have hup := h.up
    have h1a : L 1 a = some p := by rw [g.l1 a ha]; exact hU
    have h4a := g.l4 p t a hp ht
    have h5a := g.l5 p t a hp ht
    -- links of a child
    have key4 : ∀ (i j k : Nat), i < n → (D i)[j]? = some k → k ≠ a → unlinkL L a 4 k = if i = p ∧ j = t + 1 then prevAt (D p) t else prevAt (D i) j := by
      intro i j k hi hj hka
      rw [unlinkL_get, h5a]
      simp only [hka, false_and, if_false, true_and, (by decide : (4:Nat) ≠ 5), (by decide : (4:Nat) ≠ 2), (by decide : (4:Nat) ≠ 3), if_false]
      by_cases e : (D p)[t + 1]? = some k
      · rw [if_pos e]
        have hip : i = p := by
          have h1 := (hup i j k hi hj).2; have h2 := (hup p _ k hp e).2
          rw [h1] at h2; injection h2
        subst hip
        have := hun i _ _ k hi hj e
        rw [if_pos ⟨rfl, this⟩]; exact h4a
      · rw [if_neg e, if_neg (fun hh => e (by obtain ⟨rfl, rfl⟩ := hh; exact hj))]
        exact g.l4 i j k hi hj
    have key5 : ∀ (i j k : Nat), i < n → (D i)[j]? = some k → k ≠ a → unlinkL L a 5 k = if i = p ∧ j + 1 = t then (D p)[t + 1]? else (D i)[j + 1]? := by
      intro i j k hi hj hka
      rw [unlinkL_get, h4a]
      simp only [hka, false_and, if_false, true_and, (by decide : (5:Nat) ≠ 4), (by decide : (5:Nat) ≠ 2), (by decide : (5:Nat) ≠ 3), if_false]
      by_cases e : prevAt (D p) t = some k
      · rw [if_pos e]
        obtain ⟨e0, e⟩ := prevAt_some e
        have hip : i = p := by
          have h1 := (hup i j k hi hj).2; have h2 := (hup p _ k hp e).2
          rw [h1] at h2; injection h2
        subst hip
        have := hun i _ _ k hi hj e
        rw [if_pos ⟨rfl, by omega⟩]; exact h5a
      · rw [if_neg e, if_neg (fun hh => e (by obtain ⟨rfl, rfl⟩ := hh; unfold prevAt; rw [if_neg (by omega)]; exact hj))]
        exact g.l5 i j k hi hj
    refine ⟨fun k hk => ?_, fun i hi => ?_, fun i hi => ?_, fun i j k hi hj => ?_, fun i j k hi hj => ?_, fun k hk hu => ?_⟩
    · rw [unlinkL_get]
      unfold cutU
      have := g.l1 k hk
      by_cases e : k = a
      · simp [e]
      · simp [e, this]
    · rw [unlinkL_get, h4a, h5a, h1a]
      simp only [(by decide : (2:Nat) ≠ 4), (by decide : (2:Nat) ≠ 5), (by decide : (2:Nat) ≠ 1), (by decide : (2:Nat) ≠ 3), false_and, or_false, and_false, if_false, true_and]
      by_cases e : i = p
      · subst e
        simp only [and_true, if_true]
        rw [List.getElem?_eraseIdx]
        by_cases ht0 : t = 0
        · subst ht0
          simp [prevAt]
        · rw [if_neg (fun hh => ht0 (prevAt_none (by omega) hh))]
          rw [if_pos (by omega)]
          exact g.l2 i hi
      · rw [if_neg (fun hh => e (by have := hh.2; injection this with this; exact this.symm)), if_neg e]
        exact g.l2 i hi
    · rw [unlinkL_get, h4a, h5a, h1a]
      simp only [(by decide : (3:Nat) ≠ 4), (by decide : (3:Nat) ≠ 5), (by decide : (3:Nat) ≠ 1), (by decide : (3:Nat) ≠ 2), false_and, or_false, and_false, if_false, true_and]
      by_cases e : i = p
      · subst e
        simp only [and_true, if_true]
        rw [List.length_eraseIdx_of_lt htl]
        by_cases htm : t + 1 = (D i).length
        · rw [if_pos (by rw [List.getElem?_eq_none_iff]; omega)]
          have : (D i).length - 1 = t := by omega
          rw [this]
          unfold prevAt
          split
          · rfl
          · rw [List.getElem?_eraseIdx, if_pos (by omega)]
        · rw [if_neg (by rw [List.getElem?_eq_none_iff]; omega)]
          rw [g.l3 i hi]
          unfold prevAt
          rw [if_neg (by omega), if_neg (by omega), List.getElem?_eraseIdx, if_neg (by omega)]
          congr 1; omega
      · rw [if_neg (fun hh => e (by have := hh.2; injection this with this; exact this.symm)), if_neg e]
        exact g.l3 i hi
    · try dsimp only at hj
      split at hj
      · rename_i e; subst e
        simp only [if_true]
        rw [List.getElem?_eraseIdx] at hj
        split at hj
        · rw [key4 i j k hi hj (fun e => by subst e; have := hun i _ _ k hi hj ht; omega), if_neg (by omega)]
          unfold prevAt
          split
          · rfl
          · rw [List.getElem?_eraseIdx, if_pos (by omega)]
        · rw [key4 i (j + 1) k hi hj (fun e => by subst e; have := hun i _ _ k hi hj ht; omega)]
          by_cases e : j = t
          · subst e
            rw [if_pos ⟨rfl, rfl⟩]
            unfold prevAt
            split
            · rfl
            · rw [List.getElem?_eraseIdx, if_pos (by omega)]
          · rw [if_neg (by omega)]
            unfold prevAt
            rw [if_neg (by omega), if_neg (by omega), List.getElem?_eraseIdx, if_neg (by omega)]
            congr 1; omega
      · rename_i e
        rw [if_neg e]
        have hka : k ≠ a := fun eq => by
          subst eq; have := (hup i j k hi hj).2; rw [hU] at this; injection this with this; exact e this.symm
        rw [key4 i j k hi hj hka, if_neg (fun hh => e hh.1)]
    · try dsimp only at hj
      split at hj
      · rename_i e; subst e
        simp only [if_true]
        rw [List.getElem?_eraseIdx] at hj
        rw [List.getElem?_eraseIdx]
        split at hj
        · rw [key5 i j k hi hj (fun e => by subst e; have := hun i _ _ k hi hj ht; omega)]
          by_cases e : j + 1 = t
          · rw [if_pos ⟨rfl, e⟩, if_neg (by omega), e]
          · rw [if_neg (by omega), if_pos (by omega)]
        · rw [key5 i (j + 1) k hi hj (fun e => by subst e; have := hun i _ _ k hi hj ht; omega), if_neg (by omega), if_neg (by omega)]
      · rename_i e
        rw [if_neg e]
        have hka : k ≠ a := fun eq => by
          subst eq; have := (hup i j k hi hj).2; rw [hU] at this; injection this with this; exact e this.symm
        rw [key5 i j k hi hj hka, if_neg (fun hh => e hh.1)]
    · unfold cutU at hu
      split at hu
      · rename_i e; subst e
        rw [unlinkL_get, unlinkL_get]; simp
      · rename_i e
        obtain ⟨h4, h5⟩ := g.l0 k hk hu
        have n5 : L 5 a ≠ some k := fun eq => by rw [h5a] at eq; have := (hup p _ k hp eq).2; rw [hu] at this; cases this
        have n4 : L 4 a ≠ some k := fun eq => by rw [h4a] at eq; have := (hup p _ k hp (prevAt_some eq).2).2; rw [hu] at this; cases this
        rw [unlinkL_get, unlinkL_get]
        simp [e, n4, n5, h4, h5]

/-! A child put behind the others. -/
def addU (U : Nat → Option Nat) (p b : Nat) : Nat → Option Nat := fun k => if k = b then some p else U k
def pushD (D : Nat → List Nat) (a b : Nat) : Nat → List Nat := fun i => if i = a then D a ++ [b] else D i
theorem push_get (l : List Nat) (b j : Nat) : (l ++ [b])[j]? = if j = l.length then some b else l[j]? := by
  by_cases h : j < l.length
  · rw [List.getElem?_append_left h, if_neg (by omega)]
  · by_cases e : j = l.length
    · subst e; simp
    · rw [if_neg e, List.getElem?_eq_none_iff.2 (by simp; omega), List.getElem?_eq_none_iff.2 (by omega)]
def app1 (L : Lk) (a b : Nat) : Lk :=
  match L 3 a with
  | some q => upd (upd (upd (upd L 1 b (some a)) 5 q (some b)) 4 b (some q)) 3 a (some b)
  | none => upd (upd (upd L 1 b (some a)) 2 a (some b)) 3 a (some b)
theorem appendL_eq (L : Lk) (a b : Nat) : appendL L a b = app1 (unlinkL L b) a b := rfl
theorem app1_get (L : Lk) (a b k i : Nat) : app1 L a b k i =
    if k = 3 ∧ i = a then some b else if k = 4 ∧ i = b ∧ L 3 a ≠ none then L 3 a else if k = 5 ∧ L 3 a = some i then some b
    else if k = 1 ∧ i = b then some a else if k = 2 ∧ i = a ∧ L 3 a = none then some b else L k i := by
  unfold app1 upd
  cases h3 : L 3 a <;> simp only [] <;> grind
theorem Forest.push {n : Nat} {U : Nat → Option Nat} {D : Nat → List Nat} (h : Forest n U D) {a b : Nat} (ha : a < n) (hb : b < n) (hU : U b = none) : Forest n (addU U a b) (pushD D a b) := by
  have hnb : ∀ (i j : Nat), i < n → (D i)[j]? ≠ some b := fun i j hi e => by have := (h.up i j b hi e).2; rw [hU] at this; cases this
  refine ⟨fun i j j' k hi h1 h2 => ?_, fun i j k hi h1 => ?_, fun i k hk h1 => ?_⟩
  · unfold pushD at h1 h2
    split at h1
    · rename_i e; subst e
      rw [if_pos rfl] at h2
      rw [push_get] at h1 h2
      split at h1 <;> split at h2
      · omega
      · injection h1 with h1; subst h1; exact absurd h2 (hnb i _ hi)
      · injection h2 with h2; subst h2; exact absurd h1 (hnb i _ hi)
      · exact h.uniq i _ _ k hi h1 h2
    · rename_i e
      rw [if_neg e] at h2
      exact h.uniq i _ _ k hi h1 h2
  · unfold pushD at h1
    unfold addU
    split at h1
    · rename_i e; subst e
      rw [push_get] at h1
      split at h1
      · injection h1 with h1; subst h1; simp [hb]
      · obtain ⟨u1, u2⟩ := h.up i j k hi h1
        rw [if_neg (fun e => by subst e; rw [hU] at u2; cases u2)]; exact ⟨u1, u2⟩
    · obtain ⟨u1, u2⟩ := h.up i j k hi h1
      rw [if_neg (fun e => by subst e; rw [hU] at u2; cases u2)]; exact ⟨u1, u2⟩
  · unfold addU at h1
    unfold pushD
    split at h1
    · rename_i e; subst e
      injection h1 with h1; subst h1
      exact ⟨ha, (D a).length, by simp⟩
    · obtain ⟨u1, j, hj⟩ := h.down i k hk h1
      refine ⟨u1, j, ?_⟩
      split
      · rename_i e; subst e
        rw [List.getElem?_append_left (List.getElem?_eq_some_iff.1 hj).1]; exact hj
      · exact hj
theorem Agree.push {n : Nat} {U : Nat → Option Nat} {D : Nat → List Nat} {L : Lk} (h : Forest n U D) (g : Agree n U D L) {a b : Nat} (ha : a < n) (hb : b < n) (hU : U b = none) : Agree n (addU U a b) (pushD D a b) (app1 L a b) := by
  have hnb : ∀ (i j : Nat), i < n → (D i)[j]? ≠ some b := fun i j hi e => by have := (h.up i j b hi e).2; rw [hU] at this; cases this
  have h3 := g.l3 a ha
  obtain ⟨b4, b5⟩ := g.l0 b hb hU
  have hun := h.uniq
  refine ⟨fun k hk => ?_, fun i hi => ?_, fun i hi => ?_, fun i j k hi hj => ?_, fun i j k hi hj => ?_, fun k hk hu => ?_⟩
  · rw [app1_get]
    unfold addU
    have := g.l1 k hk
    by_cases e : k = b
    · subst e; simp
    · simp [e, this]
  · rw [app1_get, h3]
    unfold pushD
    simp only [(by decide : (2:Nat) ≠ 4), (by decide : (2:Nat) ≠ 5), (by decide : (2:Nat) ≠ 1), (by decide : (2:Nat) ≠ 3), false_and, if_false, true_and]
    by_cases e : i = a
    · subst e
      rw [if_pos rfl, push_get]
      by_cases h0 : (D i).length = 0
      · rw [if_pos ⟨rfl, by unfold prevAt; rw [if_pos h0]⟩, if_pos h0.symm]
      · rw [if_neg (fun hh => h0 (prevAt_none (Nat.le_refl _) hh.2)), if_neg (by omega)]
        exact g.l2 i hi
    · rw [if_neg (fun hh => e hh.1), if_neg e]; exact g.l2 i hi
  · rw [app1_get]
    unfold pushD
    simp only [(by decide : (3:Nat) ≠ 4), (by decide : (3:Nat) ≠ 5), (by decide : (3:Nat) ≠ 1), (by decide : (3:Nat) ≠ 2), false_and, if_false, true_and]
    by_cases e : i = a
    · subst e
      rw [if_pos rfl, if_pos rfl]
      unfold prevAt
      rw [if_neg (by simp), push_get]
      simp
    · rw [if_neg e, if_neg e]; exact g.l3 i hi
  · rw [app1_get]
    simp only [(by decide : (4:Nat) ≠ 3), (by decide : (4:Nat) ≠ 5), (by decide : (4:Nat) ≠ 1), (by decide : (4:Nat) ≠ 2), false_and, if_false, true_and]
    unfold pushD at hj ⊢
    split at hj
    · rename_i e; subst e
      rw [if_pos rfl]
      rw [push_get] at hj
      split at hj
      · rename_i e; subst e
        injection hj with hj; subst hj
        rw [h3]
        by_cases h0 : (D i).length = 0
        · rw [if_neg (fun hh => hh.2 (by unfold prevAt; rw [if_pos h0]))]
          rw [b4]; unfold prevAt; rw [if_pos h0]
        · rw [if_pos ⟨rfl, fun hh => h0 (prevAt_none (Nat.le_refl _) hh)⟩]
          unfold prevAt
          rw [if_neg h0, if_neg h0, push_get, if_neg (by omega)]
      · have hl := (List.getElem?_eq_some_iff.1 hj).1
        rw [if_neg (fun hh => by have := hh.1; subst this; exact hnb i j hi hj)]
        rw [g.l4 i j k hi hj]
        unfold prevAt
        split
        · rfl
        · rw [push_get, if_neg (by omega)]
    · rename_i e
      rw [if_neg e, if_neg (fun hh => by have := hh.1; subst this; exact hnb i j hi hj)]
      exact g.l4 i j k hi hj
  · rw [app1_get, h3]
    simp only [(by decide : (5:Nat) ≠ 3), (by decide : (5:Nat) ≠ 4), (by decide : (5:Nat) ≠ 1), (by decide : (5:Nat) ≠ 2), false_and, if_false, true_and]
    unfold pushD at hj ⊢
    split at hj
    · rename_i e; subst e
      rw [if_pos rfl]
      rw [push_get] at hj
      rw [push_get]
      split at hj
      · rename_i e; subst e
        injection hj with hj; subst hj
        rw [if_neg (fun hh => hnb i _ hi (prevAt_some hh).2), if_neg (by omega), b5]
        rw [List.getElem?_eq_none_iff.2 (by omega)]
      · have hl := (List.getElem?_eq_some_iff.1 hj).1
        by_cases e : j + 1 = (D i).length
        · rw [if_pos e, if_pos (by unfold prevAt; rw [if_neg (by omega), ← e]; exact hj)]
        · rw [if_neg e, if_neg (fun hh => by have := hun i _ _ k hi hj (prevAt_some hh).2; omega)]
          exact g.l5 i j k hi hj
    · rename_i e
      rw [if_neg e, if_neg (fun hh => by
        have h1 := (h.up a _ k ha (prevAt_some hh).2).2
        have h2 := (h.up i j k hi hj).2
        rw [h1] at h2; injection h2 with h2; exact e h2.symm)]
      exact g.l5 i j k hi hj
  · unfold addU at hu
    split at hu
    · cases hu
    · rename_i e
      obtain ⟨h4, h5⟩ := g.l0 k hk hu
      have n5 : L 3 a ≠ some k := fun eq => by rw [h3] at eq; have := (h.up a _ k ha (prevAt_some eq).2).2; rw [hu] at this; cases this
      rw [app1_get, app1_get]
      simp [e, n5, h4, h5]

/-! A child put ahead of another one. -/
def insD (U : Nat → Option Nat) (D : Nat → List Nat) (a b : Nat) : Nat → List Nat := fun i => if U a = some i then (D i).flatMap (fun k => if k = a then [b, k] else [k]) else D i
theorem flat_ins : ∀ (l : List Nat) (t a b : Nat), l[t]? = some a → (∀ j : Nat, l[j]? = some a → j = t) → l.flatMap (fun k => if k = a then [b, k] else [k]) = l.insertIdx t b
  | [], t, a, b, h, _ => by simp at h
  | x :: l, 0, a, b, h, hu => by
    simp at h; subst h
    rw [List.flatMap_cons, if_pos rfl, List.insertIdx_zero]
    have : l.flatMap (fun k => if k = x then [b, k] else [k]) = l := by
      have hx : ∀ y ∈ l, y ≠ x := fun y hy e => by
        obtain ⟨j, hj⟩ := List.getElem?_of_mem hy
        subst e
        have := hu (j + 1) (by simpa using hj)
        omega
      clear hu
      induction l with
      | nil => rfl
      | cons y l ih =>
        rw [List.flatMap_cons, if_neg (hx y (by simp)), ih (fun z hz => hx z (by simp [hz]))]; rfl
    rw [this]; rfl
  | x :: l, t + 1, a, b, h, hu => by
    have hx : x ≠ a := fun e => by
      have := hu 0 (by simp [e])
      omega
    rw [List.flatMap_cons, if_neg hx, List.insertIdx_succ_cons]
    rw [flat_ins l t a b (by simpa using h) (fun j hj => by have := hu (j + 1) (by simpa using hj); omega)]
    rfl
theorem ins_get (l : List Nat) (t b j : Nat) (ht : t ≤ l.length) : (l.insertIdx t b)[j]? = if j < t then l[j]? else if j = t then some b else l[j - 1]? := by
  rw [List.getElem?_insertIdx]
  split
  · rfl
  · split
    · rw [if_pos (by omega)]
    · rfl
def ins1 (L : Lk) (a b : Nat) : Lk :=
  match L 4 a with
  | some q => insert2 L a b
  | none => match L 1 a with
    | some p => upd (insert2 L a b) 2 p (some b)
    | none => insert2 L a b
theorem insertL_eq (L : Lk) (a b : Nat) : insertL L a b = ins1 (unlinkL L b) a b := rfl
theorem ins1_get (L : Lk) (a b k i : Nat) : ins1 L a b k i =
    if k = 2 ∧ L 4 a = none ∧ L 1 a = some i then some b else if k = 1 ∧ i = b then L 1 a else if k = 4 ∧ i = a then some b else if k = 5 ∧ i = b then some a
    else if k = 5 ∧ L 4 a = some i then some b else if k = 4 ∧ i = b then L 4 a else L k i := by
  unfold ins1 insert2 insert1 upd
  cases h4 : L 4 a <;> cases h1 : L 1 a <;> simp only [] <;> grind
theorem Forest.ins {n : Nat} {U : Nat → Option Nat} {D : Nat → List Nat} (h : Forest n U D) {a b p : Nat} (ha : a < n) (hb : b < n) (hU : U b = none) (hp : U a = some p) : Forest n (addU U p b) (insD U D a b) := by
  obtain ⟨hpn, t, ht⟩ := h.down p a ha hp
  have htl : t < (D p).length := (List.getElem?_eq_some_iff.1 ht).1
  have e2 : insD U D a b = fun i => if i = p then (D p).insertIdx t b else D i := by
    funext i; unfold insD
    rw [hp]
    by_cases e : i = p
    · subst e; simp only [if_true]; exact flat_ins _ t a b ht (fun j hj => h.uniq i j t a hpn hj ht)
    · simp [e, Ne.symm e]
  rw [e2]
  have hnb : ∀ (i j : Nat), i < n → (D i)[j]? ≠ some b := fun i j hi e => by have := (h.up i j b hi e).2; rw [hU] at this; cases this
  refine ⟨fun i j j' k hi h1 h2 => ?_, fun i j k hi h1 => ?_, fun i k hk h1 => ?_⟩
  · try dsimp only at h1 h2
    split at h1
    · rename_i e; subst e
      rw [if_pos rfl] at h2
      rw [ins_get _ _ _ _ (by omega)] at h1 h2
      have hh : ∀ x : Nat, (D i)[x]? = some b → False := fun x e => hnb i x hi e
      have hu := h.uniq i
      split at h1
      · split at h2
        · exact hu _ _ k hi h1 h2
        · split at h2
          · injection h2 with h2; subst h2; exact absurd h1 (hnb i _ hi)
          · have := hu _ _ k hi h1 h2; omega
      · split at h1
        · injection h1 with h1; subst h1
          split at h2
          · exact absurd h2 (hnb i _ hi)
          · split at h2
            · omega
            · exact absurd h2 (hnb i _ hi)
        · split at h2
          · have := hu _ _ k hi h1 h2; omega
          · split at h2
            · injection h2 with h2; subst h2; exact absurd h1 (hnb i _ hi)
            · have := hu _ _ k hi h1 h2; omega
    · rename_i e
      rw [if_neg e] at h2
      exact h.uniq i _ _ k hi h1 h2
  · try dsimp only at h1
    unfold addU
    split at h1
    · rename_i e; subst e
      rw [ins_get _ _ _ _ (by omega)] at h1
      have hh : ∀ x : Nat, (D i)[x]? = some k → k < n ∧ (if k = b then some i else U k) = some i := fun x e => by
        obtain ⟨u1, u2⟩ := h.up i x k hi e
        rw [if_neg (fun e => by subst e; rw [hU] at u2; cases u2)]; exact ⟨u1, u2⟩
      split at h1
      · exact hh _ h1
      · split at h1
        · injection h1 with h1; subst h1; simp [hb]
        · exact hh _ h1
    · obtain ⟨u1, u2⟩ := h.up i j k hi h1
      rw [if_neg (fun e => by subst e; rw [hU] at u2; cases u2)]; exact ⟨u1, u2⟩
  · unfold addU at h1
    split at h1
    · rename_i e; subst e
      injection h1 with h1; subst h1
      exact ⟨hpn, t, by rw [if_pos rfl, ins_get _ _ _ _ (by omega)]; simp⟩
    · obtain ⟨u1, j, hj⟩ := h.down i k hk h1
      refine ⟨u1, ?_⟩
      try dsimp only
      split
      · rename_i e; subst e
        by_cases hjt : j < t
        · exact ⟨j, by rw [ins_get _ _ _ _ (by omega), if_pos hjt]; exact hj⟩
        · exact ⟨j + 1, by rw [ins_get _ _ _ _ (by omega), if_neg (by omega), if_neg (by omega)]; simpa using hj⟩
      · exact ⟨j, hj⟩
theorem Agree.ins {n : Nat} {U : Nat → Option Nat} {D : Nat → List Nat} {L : Lk} (h : Forest n U D) (g : Agree n U D L) {a b p : Nat} (ha : a < n) (hb : b < n) (hab : a ≠ b) (hU : U b = none) (hp : U a = some p) : Agree n (addU U p b) (insD U D a b) (ins1 L a b) := by
  obtain ⟨hpn, t, ht⟩ := h.down p a ha hp
  have htl : t < (D p).length := (List.getElem?_eq_some_iff.1 ht).1
  have e2 : insD U D a b = fun i => if i = p then (D p).insertIdx t b else D i := by
    funext i; unfold insD
    rw [hp]
    by_cases e : i = p
    · subst e; simp only [if_true]; exact flat_ins _ t a b ht (fun j hj => h.uniq i j t a hpn hj ht)
    · simp [e, Ne.symm e]
  rw [e2]
  have hnb : ∀ (i j : Nat), i < n → (D i)[j]? ≠ some b := fun i j hi e => by have := (h.up i j b hi e).2; rw [hU] at this; cases this
  have h1a : L 1 a = some p := by rw [g.l1 a ha]; exact hp
  have h4a := g.l4 p t a hpn ht
  obtain ⟨b4, b5⟩ := g.l0 b hb hU
  have hun := h.uniq
  have hup := h.up
  have key4 : ∀ (i j k : Nat), i < n → (D i)[j]? = some k → ins1 L a b 4 k = if i = p ∧ j = t then some b else prevAt (D i) j := by
    intro i j k hi hj
    have hkb : k ≠ b := fun e => by subst e; exact hnb i j hi hj
    rw [ins1_get]
    simp only [hkb, (by decide : (4:Nat) ≠ 2), (by decide : (4:Nat) ≠ 1), (by decide : (4:Nat) ≠ 5), false_and, and_false, if_false, true_and]
    by_cases e : k = a
    · subst e
      have hip : i = p := by
        have h1 := (hup i j k hi hj).2
        rw [h1] at hp; injection hp
      subst hip
      rw [if_pos rfl, if_pos ⟨rfl, hun i _ _ k hi hj ht⟩]
    · rw [if_neg e, if_neg (fun hh => e (by obtain ⟨rfl, rfl⟩ := hh; rw [ht] at hj; injection hj with hj; exact hj.symm))]
      exact g.l4 i j k hi hj
  have key5 : ∀ (i j k : Nat), i < n → (D i)[j]? = some k → ins1 L a b 5 k = if i = p ∧ j + 1 = t then some b else (D i)[j + 1]? := by
    intro i j k hi hj
    have hkb : k ≠ b := fun e => by subst e; exact hnb i j hi hj
    rw [ins1_get, h4a]
    simp only [hkb, (by decide : (5:Nat) ≠ 2), (by decide : (5:Nat) ≠ 1), (by decide : (5:Nat) ≠ 4), false_and, and_false, if_false, true_and]
    by_cases e : prevAt (D p) t = some k
    · rw [if_pos e]
      obtain ⟨e0, e⟩ := prevAt_some e
      have hip : i = p := by
        have h1 := (hup i j k hi hj).2; have h2 := (hup p _ k hpn e).2
        rw [h1] at h2; injection h2
      subst hip
      have := hun i _ _ k hi hj e
      rw [if_pos ⟨rfl, by omega⟩]
    · rw [if_neg e, if_neg (fun hh => e (by obtain ⟨rfl, rfl⟩ := hh; unfold prevAt; rw [if_neg (by omega)]; exact hj))]
      exact g.l5 i j k hi hj
  refine ⟨fun k hk => ?_, fun i hi => ?_, fun i hi => ?_, fun i j k hi hj => ?_, fun i j k hi hj => ?_, fun k hk hu => ?_⟩
  · rw [ins1_get]
    unfold addU
    have := g.l1 k hk
    by_cases e : k = b
    · subst e; simp [h1a]
    · simp [e, this]
  · rw [ins1_get, h4a, h1a]
    simp only [(by decide : (2:Nat) ≠ 4), (by decide : (2:Nat) ≠ 5), (by decide : (2:Nat) ≠ 1), false_and, if_false, true_and]
    by_cases e : i = p
    · subst e
      simp only [and_true, if_true]
      rw [ins_get _ _ _ _ (by omega)]
      by_cases h0 : t = 0
      · subst h0
        simp [prevAt]
      · rw [if_neg (fun hh => h0 (prevAt_none (by omega) hh)), if_pos (by omega)]
        exact g.l2 i hi
    · rw [if_neg (fun hh => e (by have := hh.2; injection this with this; exact this.symm)), if_neg e]; exact g.l2 i hi
  · rw [ins1_get]
    simp only [(by decide : (3:Nat) ≠ 4), (by decide : (3:Nat) ≠ 5), (by decide : (3:Nat) ≠ 1), (by decide : (3:Nat) ≠ 2), false_and, if_false]
    rw [g.l3 i hi]
    by_cases e : i = p
    · subst e
      simp only [if_true]
      rw [List.length_insertIdx_of_le_length (by omega)]
      unfold prevAt
      rw [if_neg (by omega), if_neg (by omega), ins_get _ _ _ _ (by omega), if_neg (by omega), if_neg (by omega)]
      rfl
    · rw [if_neg e]
  · try dsimp only at hj
    split at hj
    · rename_i e; subst e
      simp only [if_true]
      rw [ins_get _ _ _ _ (by omega)] at hj
      split at hj
      · rw [key4 i j k hi hj, if_neg (by omega)]
        unfold prevAt
        split
        · rfl
        · rw [ins_get _ _ _ _ (by omega), if_pos (by omega)]
      · split at hj
        · rename_i e; subst e
          injection hj with hj; subst hj
          rw [ins1_get, h4a]
          simp only [Ne.symm hab, (by decide : (4:Nat) ≠ 2), (by decide : (4:Nat) ≠ 1), (by decide : (4:Nat) ≠ 5), false_and, and_false, if_false, true_and, if_true]
          unfold prevAt
          split
          · rfl
          · rw [ins_get _ _ _ _ (by omega), if_pos (by omega)]
        · rw [key4 i _ k hi hj]
          by_cases e : j - 1 = t
          · rw [if_pos ⟨rfl, e⟩]
            unfold prevAt
            rw [if_neg (by omega), ins_get _ _ _ _ (by omega), if_neg (by omega), if_pos e]
          · rw [if_neg (by omega)]
            unfold prevAt
            rw [if_neg (by omega), if_neg (by omega), ins_get _ _ _ _ (by omega), if_neg (by omega), if_neg (by omega)]
    · rename_i e
      rw [if_neg e, key4 i j k hi hj, if_neg (fun hh => e hh.1)]
  · try dsimp only at hj
    split at hj
    · rename_i e; subst e
      simp only [if_true]
      rw [ins_get _ _ _ _ (by omega)] at hj
      rw [ins_get _ _ _ _ (by omega)]
      split at hj
      · rw [key5 i j k hi hj]
        by_cases e : j + 1 = t
        · rw [if_pos ⟨rfl, e⟩, if_neg (by omega), if_pos e]
        · rw [if_neg (by omega), if_pos (by omega)]
      · split at hj
        · rename_i e; subst e
          injection hj with hj; subst hj
          rw [ins1_get]
          simp only [(by decide : (5:Nat) ≠ 2), (by decide : (5:Nat) ≠ 1), (by decide : (5:Nat) ≠ 4), false_and, if_false, true_and, if_true]
          rw [if_neg (by omega), if_neg (by omega)]
          exact ht.symm
        · rw [key5 i _ k hi hj, if_neg (by omega), if_neg (by omega), if_neg (by omega)]
          congr 1; omega
    · rename_i e
      rw [if_neg e, key5 i j k hi hj, if_neg (fun hh => e hh.1)]
  · unfold addU at hu
    split at hu
    · cases hu
    · rename_i e
      obtain ⟨h4, h5⟩ := g.l0 k hk hu
      have hka : k ≠ a := fun eq => by subst eq; rw [hp] at hu; cases hu
      have n5 : L 4 a ≠ some k := fun eq => by rw [h4a] at eq; have := (hup p _ k hpn (prevAt_some eq).2).2; rw [hu] at this; cases this
      rw [ins1_get, ins1_get]
      simp [e, hka, n5, h4, h5]

/-! A new node. -/
theorem Forest.new {n : Nat} {U : Nat → Option Nat} {D : Nat → List Nat} (h : Forest n U D) (hU : U n = none) (hD : D n = []) : Forest (n + 1) U D := by
  refine ⟨fun i j j' k hi h1 h2 => ?_, fun i j k hi h1 => ?_, fun i k hk h1 => ?_⟩
  · by_cases e : i = n
    · subst e; rw [hD] at h1; simp at h1
    · exact h.uniq i j j' k (by omega) h1 h2
  · by_cases e : i = n
    · subst e; rw [hD] at h1; simp at h1
    · obtain ⟨u1, u2⟩ := h.up i j k (by omega) h1; exact ⟨by omega, u2⟩
  · by_cases e : k = n
    · subst e; rw [hU] at h1; cases h1
    · obtain ⟨u1, u2⟩ := h.down i k (by omega) h1; exact ⟨by omega, u2⟩
theorem Agree.new {n : Nat} {U : Nat → Option Nat} {D : Nat → List Nat} {L : Lk} (h : Forest n U D) (g : Agree n U D L) (hU : U n = none) (hD : D n = []) : Agree (n + 1) U D (newL L n) := by
  unfold newL
  refine ⟨fun k hk => ?_, fun i hi => ?_, fun i hi => ?_, fun i j k hi hj => ?_, fun i j k hi hj => ?_, fun k hk hu => ?_⟩
  · by_cases e : k = n
    · subst e; simp [hU]
    · simp only [e, if_false]; exact g.l1 k (by omega)
  · by_cases e : i = n
    · subst e; simp [hD]
    · simp only [e, if_false]; exact g.l2 i (by omega)
  · by_cases e : i = n
    · subst e; simp [hD, prevAt]
    · simp only [e, if_false]; exact g.l3 i (by omega)
  · by_cases e : i = n
    · subst e; rw [hD] at hj; simp at hj
    · have := (h.up i j k (by omega) hj).1
      simp only [show k ≠ n by omega, if_false]; exact g.l4 i j k (by omega) hj
  · by_cases e : i = n
    · subst e; rw [hD] at hj; simp at hj
    · have := (h.up i j k (by omega) hj).1
      simp only [show k ≠ n by omega, if_false]; exact g.l5 i j k (by omega) hj
  · by_cases e : k = n
    · subst e; simp
    · simp only [e, if_false]; exact g.l0 k (by omega) hu

/-! No circles. -/
def Rank (n : Nat) (U : Nat → Option Nat) (r : Nat → Nat) : Prop := ∀ k p, k < n → U k = some p → r p < r k
inductive Und (U : Nat → Option Nat) : Nat → Nat → Prop
  | refl (a : Nat) : Und U a a
  | step (x p t : Nat) : U x = some p → Und U p t → Und U x t
theorem Und.cut {U : Nat → Option Nat} {b x t : Nat} (h : Und (cutU U b) x t) : Und U x t := by
  induction h with
  | refl a => exact .refl a
  | step x p t hx _ ih =>
    refine .step x p t ?_ ih
    unfold cutU at hx
    split at hx
    · cases hx
    · exact hx
theorem Rank.cut {n : Nat} {U : Nat → Option Nat} {r : Nat → Nat} (h : Rank n U r) (b : Nat) : Rank n (cutU U b) r := fun k p hk hU => by
  unfold cutU at hU
  split at hU
  · cases hU
  · exact h k p hk hU
theorem Rank.add {n : Nat} {U : Nat → Option Nat} {r : Nat → Nat} (h : Rank n U r) {a b : Nat} (hU : U b = none) (hu : ¬ Und U a b) : ∃ r', Rank n (addU U a b) r' := by
  classical
  refine ⟨fun x => if Und U x b then r x + r a + 1 else r x, fun k p hk hp => ?_⟩
  dsimp only
  unfold addU at hp
  split at hp
  · rename_i e; subst e
    injection hp with hp; subst hp
    rw [if_neg hu, if_pos (.refl k)]; omega
  · rename_i e
    have := h k p hk hp
    by_cases hb : Und U k b
    · have hpb : Und U p b := by
        cases hb with
        | refl => exact absurd rfl e
        | step _ q _ h1 h2 => rw [hp] at h1; injection h1 with h1; subst h1; exact h2
      rw [if_pos hb, if_pos hpb]; omega
    · rw [if_neg hb, if_neg (fun hh => hb (.step k p b hp hh))]; exact this

/-! The neighbours as the reference reckons them. -/
def rowM (M : Lk) (l : List Nat) (i : Nat) : Nat → Lk
  | 0 => M
  | k + 1 => upd (if k = 0 then upd (rowM M l i k) 2 i l[k]? else upd (upd (rowM M l i k) 4 (l[k]?.getD 0) l[k - 1]?) 5 (l[k - 1]?.getD 0) l[k]?) 3 i l[k]?
def allM (U : Nat → Option Nat) (D : Nat → List Nat) : Nat → Lk
  | 0 => fun k i => if k = 1 then U i else none
  | i + 1 => rowM (allM U D i) (D i) i (D i).length
section
variable (M : Lk) (l : List Nat) (i : Nat)
theorem rowM1 (x : Nat) : ∀ K, rowM M l i K 1 x = M 1 x
  | 0 => rfl
  | K + 1 => by
    unfold rowM upd
    by_cases h : K = 0 <;> simp [h, rowM1 x K]
    · subst h; rfl
theorem rowM2 (x : Nat) : ∀ K, rowM M l i K 2 x = if x = i ∧ 0 < K then l[0]? else M 2 x
  | 0 => by simp [rowM]
  | K + 1 => by
    have ih := rowM2 x K
    unfold rowM upd
    by_cases h : K = 0
    · subst h; simp; by_cases e : x = i <;> simp [e, rowM]
    · have : 0 < K := by omega
      simp [h, ih, this]
theorem rowM3 (x : Nat) : ∀ K, rowM M l i K 3 x = if x = i ∧ 0 < K then l[K - 1]? else M 3 x
  | 0 => by simp [rowM]
  | K + 1 => by
    have ih := rowM3 x K
    unfold rowM upd
    by_cases e : x = i
    · simp [e]
    · by_cases h : K = 0
      · subst h; simp [e, rowM]
      · simp [h, e]; rw [ih]; simp [e]
theorem rowM4b (x : Nat) : ∀ K, K ≤ l.length → (∀ j, 0 < j → j < K → l[j]? ≠ some x) → rowM M l i K 4 x = M 4 x
  | 0, _, _ => rfl
  | K + 1, hK, h => by
    have ih := rowM4b x K (by omega) (fun j h0 h1 => h j h0 (by omega))
    unfold rowM upd
    by_cases e : K = 0
    · subst e; simp [rowM]
    · have := h K (by omega) (by omega)
      rw [List.getElem?_eq_getElem (by omega)] at this
      simp [e, List.getElem?_eq_getElem (show K < l.length by omega), ih]
      intro hx; subst hx; exact absurd rfl this
theorem rowM5b (x : Nat) : ∀ K, K ≤ l.length → (∀ j, j + 1 < K → l[j]? ≠ some x) → rowM M l i K 5 x = M 5 x
  | 0, _, _ => rfl
  | K + 1, hK, h => by
    have ih := rowM5b x K (by omega) (fun j h1 => h j (by omega))
    unfold rowM upd
    by_cases e : K = 0
    · subst e; simp [rowM]
    · have := h (K - 1) (by omega)
      rw [List.getElem?_eq_getElem (by omega)] at this
      simp [e, List.getElem?_eq_getElem (show K - 1 < l.length by omega), ih]
      intro hx; subst hx; exact absurd rfl this
theorem rowM4a (hu : ∀ (j j' k : Nat), l[j]? = some k → l[j']? = some k → j = j') (x : Nat) : ∀ K, K ≤ l.length → ∀ j, 0 < j → j < K → l[j]? = some x → rowM M l i K 4 x = l[j - 1]?
  | 0, _, j, _, h, _ => by omega
  | K + 1, hK, j, h0, h1, hj => by
    unfold rowM upd
    have e : K ≠ 0 := by omega
    by_cases hjk : j = K
    · subst hjk
      simp [e, hj]
    · have ih := rowM4a hu x K (by omega) j h0 (by omega) hj
      have hne : l[K]?.getD 0 ≠ x := fun hx => by
        have hk : l[K]? = some x := by
          rw [List.getElem?_eq_getElem (by omega)] at hx ⊢
          simpa using hx
        have := hu j K x hj hk; omega
      simp [e, ih, Ne.symm hne]
theorem rowM5a (hu : ∀ (j j' k : Nat), l[j]? = some k → l[j']? = some k → j = j') (x : Nat) : ∀ K, K ≤ l.length → ∀ j, j + 1 < K → l[j]? = some x → rowM M l i K 5 x = l[j + 1]?
  | 0, _, j, h, _ => by omega
  | K + 1, hK, j, h1, hj => by
    unfold rowM upd
    have e : K ≠ 0 := by omega
    by_cases hjk : j + 1 = K
    · have : K - 1 = j := by omega
      simp [e, this, hj, hjk]
    · have ih := rowM5a hu x K (by omega) j (by omega) hj
      have hne : l[K - 1]?.getD 0 ≠ x := fun hx => by
        have hk : l[K - 1]? = some x := by
          rw [List.getElem?_eq_getElem (by omega)] at hx ⊢
          simpa using hx
        have := hu j (K - 1) x hj hk; omega
      simp [e, ih, Ne.symm hne]
end
section
variable {n : Nat} {U : Nat → Option Nat} {D : Nat → List Nat}
theorem allM1 (x : Nat) : ∀ N, allM U D N 1 x = U x
  | 0 => by simp [allM]
  | N + 1 => by unfold allM; rw [rowM1, allM1 x N]
theorem allM2 (x : Nat) : ∀ N, allM U D N 2 x = if x < N then (D x)[0]? else none
  | 0 => by simp [allM]
  | N + 1 => by
    unfold allM; rw [rowM2, allM2 x N]
    by_cases e : x = N
    · subst e
      by_cases h : 0 < (D x).length
      · simp [h]
      · have : D x = [] := List.eq_nil_of_length_eq_zero (by omega)
        simp [this]
    · by_cases h : x < N
      · simp [e, h, show x < N + 1 by omega]
      · simp [e, h, show ¬ x < N + 1 by omega]
theorem allM3 (x : Nat) : ∀ N, allM U D N 3 x = if x < N then prevAt (D x) (D x).length else none
  | 0 => by simp [allM]
  | N + 1 => by
    unfold allM; rw [rowM3, allM3 x N]
    by_cases e : x = N
    · subst e
      unfold prevAt
      by_cases h : 0 < (D x).length
      · simp [h, show ¬ (D x).length = 0 by omega]
      · have : D x = [] := List.eq_nil_of_length_eq_zero (by omega)
        simp [this]
    · by_cases h : x < N
      · simp [e, h, show x < N + 1 by omega]
      · simp [e, h, show ¬ x < N + 1 by omega]
theorem allM45 (h : Forest n U D) (x : Nat) : ∀ N, N ≤ n → (∀ p (j : Nat), p < n → (D p)[j]? = some x → allM U D N 4 x = (if p < N then prevAt (D p) j else none) ∧ allM U D N 5 x = if p < N then (D p)[j + 1]? else none)
  | 0, _, p, j, _, _ => by simp [allM]
  | N + 1, hN, p, j, hp, hj => by
    obtain ⟨i4, i5⟩ := allM45 h x N (by omega) p j hp hj
    have hjl := (List.getElem?_eq_some_iff.1 hj).1
    unfold allM
    by_cases e : p = N
    · subst e
      constructor
      · by_cases h0 : j = 0
        · subst h0
          rw [rowM4b _ _ _ _ _ (Nat.le_refl _) (fun j' h0 _ hj' => by have := h.uniq p j' 0 x hp hj' hj; omega), i4]
          simp [prevAt]
        · rw [rowM4a _ _ _ (fun j j' k => h.uniq p j j' k hp) x _ (Nat.le_refl _) j (by omega) hjl hj]
          simp [prevAt, h0]
      · by_cases h1 : j + 1 < (D p).length
        · rw [rowM5a _ _ _ (fun j j' k => h.uniq p j j' k hp) x _ (Nat.le_refl _) j h1 hj]
          simp
        · rw [rowM5b _ _ _ _ _ (Nat.le_refl _) (fun j' h2 hj' => by have := h.uniq p j' j x hp hj' hj; omega), i5]
          simp; omega
    · have hno : ∀ j' : Nat, (D N)[j']? ≠ some x := fun j' hj' => by
        have h1 := (h.up p j x hp hj).2
        have h2 := (h.up N j' x (by omega) hj').2
        rw [h1] at h2; injection h2 with h2; exact e h2
      rw [rowM4b _ _ _ _ _ (Nat.le_refl _) (fun j' _ _ => hno j'), rowM5b _ _ _ _ _ (Nat.le_refl _) (fun j' _ => hno j'), i4, i5]
      by_cases h' : p < N
      · simp [h', show p < N + 1 by omega]
      · simp [h', show ¬ p < N + 1 by omega]
theorem allM0 (h : Forest n U D) (x : Nat) (hx : U x = none) : ∀ N, N ≤ n → allM U D N 4 x = none ∧ allM U D N 5 x = none
  | 0, _ => by simp [allM]
  | N + 1, hN => by
    obtain ⟨i4, i5⟩ := allM0 h x hx N (by omega)
    have hno : ∀ j' : Nat, (D N)[j']? ≠ some x := fun j' hj' => by
      have h2 := (h.up N j' x (by omega) hj').2
      rw [hx] at h2; cases h2
    unfold allM
    rw [rowM4b _ _ _ _ _ (Nat.le_refl _) (fun j' _ _ => hno j'), rowM5b _ _ _ _ _ (Nat.le_refl _) (fun j' _ => hno j'), i4, i5]
    exact ⟨rfl, rfl⟩
theorem allM_eq {L : Lk} (h : Forest n U D) (g : Agree n U D L) (k x : Nat) (hk1 : 1 ≤ k) (hk5 : k ≤ 5) (hx : x < n) : allM U D n k x = L k x := by
  have hc : k = 1 ∨ k = 2 ∨ k = 3 ∨ k = 4 ∨ k = 5 := by omega
  rcases hc with rfl | rfl | rfl | h45
  · rw [allM1, g.l1 x hx]
  · rw [allM2, g.l2 x hx, if_pos hx]
  · rw [allM3, g.l3 x hx, if_pos hx]
  · cases hu : U x with
    | none =>
      obtain ⟨a4, a5⟩ := allM0 h x hu n (Nat.le_refl _)
      obtain ⟨b4, b5⟩ := g.l0 x hx hu
      rcases h45 with rfl | rfl
      · rw [a4, b4]
      · rw [a5, b5]
    | some p =>
      obtain ⟨hp, j, hj⟩ := h.down p x hx hu
      obtain ⟨a4, a5⟩ := allM45 h x n (Nat.le_refl _) p j hp hj
      rw [if_pos hp] at a4 a5
      rcases h45 with rfl | rfl
      · rw [a4, g.l4 p j x hp hj]
      · rw [a5, g.l5 p j x hp hj]
end
end Go.Proofs.Ytkcccajiplchpaa
