/- Ids made unique, in plain words: a list of ids with counts, and one step of it. -/
import Derived.Test.YtfhpjcgflejgnaaDoorMem2
import Derived.Maps.OwnSet
import Derived.Maps.Views
namespace Go.Proofs.YtfhpjcgflejgnaaDoor
open Go.RowKit Go.Maps
set_option linter.unusedVariables false

abbrev Ids := List (ByteArray × Nat)
def kd (K : Ids) (i : Nat) : ByteArray × Nat := K.getD i (ByteArray.empty, 0)
def At (K : Ids) (s : ByteArray) (i : Nat) : Prop := i < K.length ∧ (kd K i).1 = s ∧ ∀ j, j < i → (kd K j).1 ≠ s
def NotIn (K : Ids) (s : ByteArray) : Prop := ∀ j, j < K.length → (kd K j).1 ≠ s
theorem at_or (K : Ids) (s : ByteArray) : NotIn K s ∨ ∃ i, At K s i := by
  have main : ∀ m, m ≤ K.length → (∀ j, j < m → (kd K j).1 ≠ s) ∨ ∃ i, At K s i := by
    intro m
    induction m with
    | zero => exact fun _ => .inl fun j hj => by omega
    | succ m ih =>
      intro hm
      rcases ih (by omega) with h | h
      · by_cases e : (kd K m).1 = s
        · exact .inr ⟨m, by omega, e, h⟩
        · left
          intro j hj
          by_cases ej : j = m
          · rw [ej]; exact e
          · exact h j (by omega)
      · exact .inr h
  exact main K.length (Nat.le_refl _)
theorem At.unique {K : Ids} {s : ByteArray} {i j : Nat} (h : At K s i) (g : At K s j) : i = j := by
  rcases Nat.lt_trichotomy i j with e | e | e
  · exact absurd h.2.1 (g.2.2 i e)
  · exact e
  · exact absurd g.2.1 (h.2.2 j e)
theorem At.notIn {K : Ids} {s : ByteArray} {i : Nat} (h : At K s i) (g : NotIn K s) : False := g i h.1 h.2.1

/-- The digits of a number below 100. -/
def decB (n : Nat) : ByteArray := if n < 10 then ⟨#[UInt8.ofNat (48 + n)]⟩ else ⟨#[UInt8.ofNat (48 + n / 10), UInt8.ofNat (48 + n % 10)]⟩
def dashB : ByteArray := ⟨#[45]⟩
def dash1B : ByteArray := ⟨#[45, 49]⟩
def nxB (s : ByteArray) (n : Nat) : ByteArray := s ++ dashB ++ decB n
theorem decB_size (n : Nat) : 1 ≤ (decB n).size ∧ (decB n).size ≤ 2 := by
  unfold decB; split <;> simp [ByteArray.size]
theorem ba_size (a b : ByteArray) : (a ++ b).size = a.size + b.size := by simp
theorem nxB_size (s : ByteArray) (n : Nat) : s.size + 2 ≤ (nxB s n).size ∧ (nxB s n).size ≤ s.size + 3 := by
  unfold nxB
  rw [ba_size, ba_size]
  have := decB_size n
  have : dashB.size = 1 := rfl
  omega
theorem dash1_size (s : ByteArray) : (s ++ dash1B).size = s.size + 2 := by rw [ba_size]; rfl
theorem nxB_ne (s : ByteArray) (n : Nat) : nxB s n ≠ s := fun e => by have := (nxB_size s n).1; rw [e] at this; omega

/-- One id made unique: the ids behind it, and what it becomes. -/
inductive Uq : Ids → ByteArray → Ids → ByteArray → Prop
  | done (K : Ids) (s : ByteArray) (h : NotIn K s) : Uq K s (K ++ [(s, 0)]) s
  | next (K : Ids) (s : ByteArray) (i : Nat) (h : At K s i) (g : NotIn K (nxB s ((kd K i).2 + 1))) : Uq K s (K.set i (s, (kd K i).2 + 1) ++ [(nxB s ((kd K i).2 + 1), 0)]) (nxB s ((kd K i).2 + 1))
  | again (K : Ids) (s : ByteArray) (i j : Nat) (h : At K s i) (g : At K (nxB s ((kd K i).2 + 1)) j) (K' : Ids) (r : ByteArray) (u : Uq K (s ++ dash1B) K' r) : Uq K s K' r
theorem Uq.unique {K : Ids} {s : ByteArray} {K1 : Ids} {r1 : ByteArray} (h : Uq K s K1 r1) : ∀ K2 r2, Uq K s K2 r2 → K1 = K2 ∧ r1 = r2 := by
  induction h with
  | done s h =>
    intro K2 r2 u
    cases u with
    | done _ _ => exact ⟨rfl, rfl⟩
    | next _ i h' _ => exact (At.notIn h' h).elim
    | again _ i j h' _ _ _ _ => exact (At.notIn h' h).elim
  | next s i h g =>
    intro K2 r2 u
    cases u with
    | done _ h' => exact (At.notIn h h').elim
    | next _ i' h' g' =>
      have e := At.unique h h'
      subst e
      exact ⟨rfl, rfl⟩
    | again _ i' j' h' g' _ _ _ =>
      have e := At.unique h h'
      subst e
      exact (At.notIn g' g).elim
  | again s i j h g K' r u ih =>
    intro K2 r2 u2
    cases u2 with
    | done _ h' => exact (At.notIn h h').elim
    | next _ i' h' g' =>
      have e := At.unique h h'
      subst e
      exact (At.notIn g g').elim
    | again _ i' j' h' g' _ _ u' => exact ih _ _ u'
/-- Whatever one id is made from here, it is made from the first one. -/
def FromU (K : Ids) (s0 s : ByteArray) : Prop := ∀ K' r, Uq K s K' r → Uq K s0 K' r
theorem FromU.refl (K : Ids) (s : ByteArray) : FromU K s s := fun _ _ h => h
theorem FromU.step {K : Ids} {s0 s : ByteArray} (h : FromU K s0 s) {i j : Nat} (a : At K s i) (b : At K (nxB s ((kd K i).2 + 1)) j) : FromU K s0 (s ++ dash1B) := fun K' r u => h K' r (.again K s i j a b K' r u)

/-- The ids of K of at least so many bytes: what is left to try. -/
def longer (K : Ids) (m : Nat) : Nat := (K.filter fun p => decide (m ≤ p.1.size)).length
theorem longer_le (K : Ids) (m : Nat) : longer K m ≤ K.length := List.length_filter_le _ _
theorem longer_mono (K : Ids) {m m' : Nat} (h : m ≤ m') : longer K m' ≤ longer K m := by
  unfold longer
  rw [← List.countP_eq_length_filter, ← List.countP_eq_length_filter]
  exact List.countP_mono_left fun p _ hp => by simp at hp ⊢; omega
theorem longer_lt {K : Ids} {s : ByteArray} {i m : Nat} (h : At K s i) (hm : s.size < m) : longer K m < longer K s.size := by
  obtain ⟨hi, he, _⟩ := h
  have hk : kd K i = K[i] := by unfold kd; simp [List.getD_eq_getElem?_getD, List.getElem?_eq_getElem hi]
  have e : K = K.take i ++ K[i] :: K.drop (i + 1) := by rw [← List.drop_eq_getElem_cons hi, List.take_append_drop]
  rw [hk] at he
  have z : ∀ q, longer K q = longer (K.take i) q + (if q ≤ s.size then 1 else 0) + longer (K.drop (i + 1)) q := by
    intro q
    conv => lhs; rw [e]
    unfold longer
    rw [List.filter_append, List.filter_cons, he]
    by_cases c : q ≤ s.size <;> simp [c] <;> omega
  rw [z m, z s.size, if_neg (by omega), if_pos (Nat.le_refl _)]
  have a := longer_mono (K.take i) (Nat.le_of_lt hm)
  have b := longer_mono (K.drop (i + 1)) (Nat.le_of_lt hm)
  omega

theorem kd_append_lt {K : Ids} {p : ByteArray × Nat} {i : Nat} (h : i < K.length) : kd (K ++ [p]) i = kd K i := by unfold kd; simp [List.getD_eq_getElem?_getD, List.getElem?_append_left h]
theorem kd_append_eq {K : Ids} {p : ByteArray × Nat} : kd (K ++ [p]) K.length = p := by unfold kd; simp [List.getD_eq_getElem?_getD]
theorem kd_set {K : Ids} {p : ByteArray × Nat} {i j : Nat} (hi : i < K.length) : kd (K.set i p) j = if j = i then p else kd K j := by
  unfold kd
  by_cases e : j = i
  · subst e; simp [List.getD_eq_getElem?_getD, hi]
  · rw [if_neg e]; simp [List.getD_eq_getElem?_getD, show ¬ i = j from fun h => e h.symm]
/-- What is known of lengths and counts. -/
def Bd (K : Ids) (M q : Nat) : Prop := ∀ i, i < K.length → (kd K i).1.size ≤ M ∧ (kd K i).2 ≤ q
theorem Bd.snoc {K : Ids} {M q : Nat} (h : Bd K M q) {s : ByteArray} (hs : s.size ≤ M) : Bd (K ++ [(s, 0)]) M q := fun i hi => by
  by_cases e : i < K.length
  · rw [kd_append_lt e]; exact h i e
  · have : i = K.length := by simp at hi; omega
    subst this
    rw [kd_append_eq]; exact ⟨hs, Nat.zero_le _⟩
theorem Bd.mono {K : Ids} {M q M' q' : Nat} (h : Bd K M q) (hM : M ≤ M') (hq : q ≤ q') : Bd K M' q' := fun i hi => ⟨Nat.le_trans (h i hi).1 hM, Nat.le_trans (h i hi).2 hq⟩
theorem Uq.bound {K : Ids} {s : ByteArray} {K' : Ids} {r : ByteArray} (u : Uq K s K' r) (M q : Nat) (h : Bd K M q) : s.size ≤ M + 2 → K'.length = K.length + 1 ∧ r.size ≤ M + 3 ∧ Bd K' (M + 3) (q + 1) := by
  induction u with
  | done s g => exact fun hs => ⟨by simp, by omega, (h.mono (by omega) (by omega)).snoc (by omega)⟩
  | next s i a g =>
    intro hs
    have hk := h i a.1
    rw [a.2.1] at hk
    have hx := nxB_size s ((kd K i).2 + 1)
    refine ⟨by simp, by omega, Bd.snoc (fun j hj => ?_) (by omega)⟩
    have hj' : j < K.length := by simpa using hj
    rw [kd_set a.1]
    by_cases e : j = i
    · rw [if_pos e]; exact ⟨by simp; omega, by simp; omega⟩
    · rw [if_neg e]; have := h j hj'; exact ⟨by omega, by omega⟩
  | again s i j a b K' r u ih =>
    intro _
    have hk := h i a.1
    rw [a.2.1] at hk
    exact ih (by rw [dash1_size]; omega)
/-- Ids made unique one behind the other. -/
inductive Uqs (g : Nat → ByteArray) : Nat → Ids → List ByteArray → Prop
  | zero : Uqs g 0 [] []
  | step (k : Nat) (K : Ids) (L : List ByteArray) (h : Uqs g k K L) (K' : Ids) (r : ByteArray) (u : Uq K (g k) K' r) : Uqs g (k + 1) K' (L ++ [r])
theorem Uqs.unique {g : Nat → ByteArray} : ∀ {k : Nat} {K1 K2 : Ids} {L1 L2 : List ByteArray}, Uqs g k K1 L1 → Uqs g k K2 L2 → K1 = K2 ∧ L1 = L2
  | 0, _, _, _, _, h1, h2 => by cases h1; cases h2; exact ⟨rfl, rfl⟩
  | k + 1, _, _, _, _, h1, h2 => by
    cases h1 with
    | step _ K1 L1 h1 _ r1 u1 =>
      cases h2 with
      | step _ K2 L2 h2 _ r2 u2 =>
        obtain ⟨e1, e2⟩ := Uqs.unique h1 h2
        subst e1 e2
        obtain ⟨e3, e4⟩ := u1.unique _ _ u2
        subst e3 e4
        exact ⟨rfl, rfl⟩
theorem Uqs.bound {g : Nat → ByteArray} (hg : ∀ j, (g j).size ≤ 40) : ∀ {k : Nat} {K : Ids} {L : List ByteArray}, Uqs g k K L → K.length = k ∧ L.length = k ∧ Bd K (40 + 3 * k) k
  | 0, _, _, h => by cases h; exact ⟨rfl, rfl, fun i hi => by simp at hi⟩
  | k + 1, _, _, h => by
    cases h with
    | step _ K L h K' r u =>
      obtain ⟨a, b, c⟩ := Uqs.bound hg h
      have := u.bound _ _ c (by have := hg k; omega)
      refine ⟨by omega, by simp [b], ?_⟩
      have e : 40 + 3 * (k + 1) = 40 + 3 * k + 3 := by omega
      rw [e]
      exact this.2.2
end Go.Proofs.YtfhpjcgflejgnaaDoor
