/- Forests: a node appended and unlinked leaves the others as they were (plain). -/
import Derived.Test.YtkcccajiplchpaaR16
namespace Go.Proofs.Ytkcccajiplchpaa
set_option linter.unusedVariables false

theorem Agree.unique {n : Nat} {U : Nat → Option Nat} {D : Nat → List Nat} {L M : Lk} (h : Forest n U D) (g : Agree n U D L) (g' : Agree n U D M) (k x : Nat) (h1 : 1 ≤ k) (h5 : k ≤ 5) (hx : x < n) : L k x = M k x := by
  rw [← allM_eq h g k x h1 h5 hx, ← allM_eq h g' k x h1 h5 hx]
theorem not_und {n : Nat} {U : Nat → Option Nat} (hU : ∀ i p, i < n → U i = some p → p < n) {x y : Nat} (h : Und U x y) (hx : x < n) (hy : y = n) : False := by
  induction h with
  | refl a => omega
  | step x p t hp _ ih => exact ih (hU x p hx hp) hy
/-- The links behind a new node, its append to node q, its unlinking. -/
def thereBack (L : Lk) (n q : Nat) : Lk := unlinkL (appendL (newL L n) q n) n
theorem there_back {n m : Nat} {U : Nat → Option Nat} {D : Nat → List Nat} {L : Lk} (h : Inv n m U D L) {q : Nat} (hq : q < n) (k x : Nat) (h1 : 1 ≤ k) (h5 : k ≤ 5) (hx : x < n + 1) : thereBack L n q k x = newL L n k x := by
  have hn := h.new
  obtain ⟨U', hU'⟩ : ∃ U', U' = fun i => if i = n then none else U i := ⟨_, rfl⟩
  obtain ⟨D', hD'⟩ : ∃ D', D' = fun i => if i = n then ([] : List Nat) else D i := ⟨_, rfl⟩
  rw [← hU', ← hD'] at hn
  have hlt : ∀ i p, i < n → U' i = some p → p < n := fun i p hi hp => by
    rw [hU'] at hp
    simp only [show i ≠ n by omega, if_false] at hp
    exact h.upLt i p hi hp
  have hun : U' n = none := by rw [hU']; simp
  have hdn : D' n = [] := by rw [hD']; simp
  have hp := hn.push (a := q) (b := n) (by omega) (by omega) (fun hu => not_und hlt hu hq rfl)
  have hc := hp.cut (a := n) (by omega)
  have hcn : cutU U' n = U' := by
    funext i; unfold cutU; split
    · rename_i e; subst e; exact hun.symm
    · rfl
  have hcd : cutD U' D' n = D' := by
    funext i; unfold cutD; rw [hun]; simp
  rw [hcn, hcd] at hc
  have e1 : ∀ i, i < n + 1 → cutU (addU U' q n) n i = U' i := fun i hi => by
    unfold cutU addU
    by_cases e : i = n
    · subst e; rw [if_pos rfl]; exact hun.symm
    · rw [if_neg e, if_neg e]
  have e2 : ∀ i, i < n + 1 → cutD (addU U' q n) (pushD D' q n) n i = D' i := fun i hi => by
    unfold cutD
    have ha : addU U' q n n = some q := by unfold addU; rw [if_pos rfl]
    rw [ha]
    by_cases e : q = i
    · subst e
      rw [if_pos rfl]
      unfold pushD
      rw [if_pos rfl, List.filter_append]
      have : (D' q).filter (fun k => decide (k ≠ n)) = D' q := List.filter_eq_self.2 fun y hy => by
        obtain ⟨j, hj⟩ := List.getElem?_of_mem hy
        have hj' : (D q)[j]? = some y := by
          rw [hD'] at hj
          simp only [show q ≠ n by omega, if_false] at hj
          exact hj
        have := (h.fo.up q j y hq hj').1
        simp; omega
      rw [this]; simp
    · rw [if_neg (fun hh => e (by injection hh))]
      unfold pushD
      rw [if_neg (fun hh => e hh.symm)]
  have hc' := hc.congr e1 e2
  exact Agree.unique hc'.fo hc'.ag hn.ag k x h1 h5 hx
/-! The steps with three more. -/
def moreO (o : Nat → Int) (n : Nat) : Nat → Int := fun i => if i < n then o i else if i = n then 0 else if i = n + 1 then 1 else 3
def moreA (a : Nat → Int) (n : Nat) (t q k : Int) : Nat → Int := fun i => if i < n then a i else if i = n then t else if i = n + 1 then q else k
def moreB (b : Nat → Int) (n : Nat) (k : Int) : Nat → Int := fun i => if i < n then b i else if i = n + 1 then k else 0
theorem st_same {o a b o' a' b' : Nat → Int} : ∀ i, (∀ j, j < i → o j = o' j ∧ a j = a' j ∧ b j = b' j) → st o a b i = st o' a' b' i
  | 0, _ => rfl
  | i + 1, h => by
    obtain ⟨h1, h2, h3⟩ := h i (by omega)
    unfold st
    rw [st_same i (fun j hj => h j (by omega)), h1, h2, h3]
section
variable (o a b : Nat → Int) (n : Nat) (t : Int) (q : Nat)
theorem st_more (i : Nat) (hi : i ≤ n) : st (moreO o n) (moreA a n t q (st o a b n).1) (moreB b n (st o a b n).1) i = st o a b i :=
  st_same i fun j hj => by
    have : j < n := by omega
    simp [moreO, moreA, moreB, this]
theorem st_more1 : st (moreO o n) (moreA a n t q (st o a b n).1) (moreB b n (st o a b n).1) (n + 1) = ((st o a b n).1 + 1, newL (st o a b n).2 (st o a b n).1) := by
  conv => lhs; unfold st
  rw [st_more o a b n t q n (Nat.le_refl _)]
  simp [stepS, moreO]
theorem st_more2 : st (moreO o n) (moreA a n t q (st o a b n).1) (moreB b n (st o a b n).1) (n + 2) = ((st o a b n).1 + 1, appendL (newL (st o a b n).2 (st o a b n).1) q (st o a b n).1) := by
  conv => lhs; unfold st
  rw [st_more1 o a b n t q]
  have h1 : ¬ n + 1 < n := by omega
  simp [stepS, moreO, moreA, moreB, h1]
theorem st_more3 : st (moreO o n) (moreA a n t q (st o a b n).1) (moreB b n (st o a b n).1) (n + 3) = ((st o a b n).1 + 1, thereBack (st o a b n).2 (st o a b n).1 q) := by
  conv => lhs; unfold st
  rw [st_more2 o a b n t q]
  have h1 : ¬ n + 2 < n := by omega
  simp [stepS, moreO, moreA, thereBack, h1]
theorem ok_more (hok : ∀ r, r < n → okS (st o a b r) (o r) (a r) (b r)) (hq : q < (st o a b n).1) (i : Nat) (hi : i < n + 3) : okS (st (moreO o n) (moreA a n t q (st o a b n).1) (moreB b n (st o a b n).1) i) (moreO o n i) (moreA a n t q (st o a b n).1 i) (moreB b n (st o a b n).1 i) := by
  by_cases h1 : i < n
  · rw [st_more o a b n t q i (by omega)]
    have := hok i h1
    simpa [moreO, moreA, moreB, h1] using this
  · have : i = n ∨ i = n + 1 ∨ i = n + 2 := by omega
    rcases this with rfl | rfl | rfl
    · exact .inl (by simp [moreO])
    · rw [st_more1 o a b n t q]
      exact .inr (.inl ⟨by simp [moreO, h1], q, (st o a b n).1, by simp [moreA, h1], by simp [moreB, h1], by simp; omega, by simp⟩)
    · rw [st_more2 o a b n t q]
      exact .inr (.inr (.inr ⟨by simp [moreO, h1], (st o a b n).1, by simp [moreA, h1], by simp⟩))
end
end Go.Proofs.Ytkcccajiplchpaa
