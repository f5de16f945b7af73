/- Tables: how the head's text lies (plain). -/
import Derived.Test.YtaljhebalgipjaaGreatDoorH6
namespace Go.Proofs.YtaljhebalgipjaaGreatDoor
open Go.RowKit
set_option linter.unusedVariables false

theorem bt_app_lo {a b : List UInt8} {k : Nat} (h : k < a.length) : bt (a ++ b) k = bt a k := by
  unfold bt; rw [List.getElem?_append_left h]
theorem bt_app_hi {a b : List UInt8} (k : Nat) : bt (a ++ b) (a.length + k) = bt b k := by
  unfold bt; rw [List.getElem?_append_right (Nat.le_add_right _ _), Nat.add_sub_cancel_left]
theorem bt_mid {X a p b : List UInt8} (e : X = a ++ (p ++ b)) {o k j : Nat} (hl : a.length = o) (hk : k < p.length) (hj : j = o + k) : bt X j = bt p k := by
  subst e hl hj; rw [bt_app_hi, bt_app_lo hk]
theorem bt_mem {p : List UInt8} {k : Nat} (h : k < p.length) : ∃ x ∈ p, bt p k = (x.toNat : Int) := by
  refine ⟨p[k], List.getElem_mem h, ?_⟩
  unfold bt; rw [List.getElem?_eq_getElem h]; rfl
theorem bars_take (X : List UInt8) : ∀ k, k ≤ X.length → bars (bt X) k = (X.take k).count 124
  | 0, _ => rfl
  | k + 1, h => by
    have ih := bars_take X k (by omega)
    have hb : bt X k = ((X[k]'(by omega)).toNat : Int) := by unfold bt; rw [List.getElem?_eq_getElem (by omega)]; rfl
    rw [bars, ih, ← List.take_append_getElem (by omega), List.count_append, hb]
    congr 1
    by_cases e : X[k]'(by omega) = 124
    · rw [e]; rfl
    · rw [if_neg (fun h => e (UInt8.toNat_inj.1 (by have : (124 : UInt8).toNat = 124 := rfl; omega)))]
      simp [e]
def pre (b : Bool) : List UInt8 := if b then [124] else []
theorem pre_len (b : Bool) : (pre b).length = b.toNat := by cases b <;> rfl
/-- The names, a bar among blanks between. -/
def joinL (g : Nat → List UInt8) : Nat → List UInt8
  | 0 => []
  | k + 1 => joinL g k ++ ((if k > 0 then [32, 124, 32] else []) ++ g k)
def barL (k : Nat) : List UInt8 := if k > 0 then [124] else []
def c1L (al : Nat → Nat) (k : Nat) : List UInt8 := if al k % 2 = 1 then [58] else []
def c2L (al : Nat → Nat) (k : Nat) : List UInt8 := if 2 ≤ al k then [58] else []
def spL (e : Bool) (nc k : Nat) : List UInt8 := if k + 1 < nc ∨ e = true then [32] else []
def colL (al hy : Nat → Nat) (e : Bool) (nc k : Nat) : List UInt8 := barL k ++ (c1L al k ++ (List.replicate (hy k) 45 ++ (c2L al k ++ spL e nc k)))
def colsL (al hy : Nat → Nat) (e : Bool) (nc : Nat) : Nat → List UInt8
  | 0 => []
  | k + 1 => colsL al hy e nc k ++ colL al hy e nc k
def overL (g : Nat → List UInt8) (b e : Bool) (nc : Nat) : List UInt8 := pre b ++ (joinL g nc ++ pre e)
def belowL (al hy : Nat → Nat) (b e : Bool) (nc : Nat) : List UInt8 := pre b ++ (colsL al hy e nc nc ++ pre e)
def headL (g : Nat → List UInt8) (al hy : Nat → Nat) (b e : Bool) (nc : Nat) : List UInt8 := overL g b e nc ++ ([10] ++ (belowL al hy b e nc ++ [10]))
/-- A name: small letters and blanks, not empty. -/
def Name (l : List UInt8) : Prop := (∀ x ∈ l, x.toNat = 32 ∨ (97 ≤ x.toNat ∧ x.toNat ≤ 122)) ∧ 0 < l.length
theorem colsL_more (al hy : Nat → Nat) (e : Bool) (nc : Nat) : ∀ m k, ∃ r, colsL al hy e nc (k + m) = colsL al hy e nc k ++ r ∧ (m = 0 → r = []) ∧ (0 < m → ∃ r', r = colL al hy e nc k ++ r' ∧ (m = 1 → r' = []))
  | 0, k => ⟨[], by simp, fun _ => rfl, fun h => by omega⟩
  | m + 1, k => by
    obtain ⟨r, h1, h2, h3⟩ := colsL_more al hy e nc m (k + 1)
    refine ⟨colL al hy e nc k ++ r, ?_, by omega, fun _ => ⟨r, rfl, fun hm => h2 (by omega)⟩⟩
    rw [show k + (m + 1) = k + 1 + m by omega, h1, colsL, List.append_assoc]
theorem joinL_head (g : Nat → List UInt8) : ∀ k, ∃ r, joinL g (k + 1) = g 0 ++ r
  | 0 => ⟨[], by simp [joinL]⟩
  | k + 1 => by
    obtain ⟨r, h⟩ := joinL_head g k
    exact ⟨r ++ ((if k + 1 > 0 then [32, 124, 32] else []) ++ g (k + 1)), by rw [joinL, h, List.append_assoc]⟩
theorem joinL_len (g : Nat → List UInt8) (k : Nat) (hk : 2 ≤ k) : 3 ≤ (joinL g k).length := by
  obtain ⟨m, rfl⟩ : ∃ m, k = m + 2 := ⟨k - 2, by omega⟩
  rw [joinL]; simp; omega
theorem joinL_count (g : Nat → List UInt8) : ∀ k, (∀ j, j < k → Name (g j)) → (joinL g k).count 124 = k - 1
  | 0, _ => rfl
  | k + 1, h => by
    have ih := joinL_count g k (fun j hj => h j (by omega))
    have hg : (g k).count 124 = 0 := by
      rw [List.count_eq_zero]
      intro hm
      have := (h k (by omega)).1 _ hm
      have e : (124 : UInt8).toNat = 124 := rfl
      omega
    rw [joinL, List.count_append, List.count_append, ih, hg]
    rcases Nat.eq_zero_or_pos k with rfl | h0
    · simp
    · rw [if_pos h0]
      have : ([32, 124, 32] : List UInt8).count 124 = 1 := by decide
      omega
def inkO (x : UInt8) : Prop := x.toNat = 32 ∨ x.toNat = 124 ∨ (97 ≤ x.toNat ∧ x.toNat ≤ 122)
theorem joinL_ink (g : Nat → List UInt8) : ∀ k, (∀ j, j < k → Name (g j)) → ∀ x ∈ joinL g k, inkO x
  | 0, _, x, hx => by simp [joinL] at hx
  | k + 1, h, x, hx => by
    rw [joinL, List.mem_append, List.mem_append] at hx
    rcases hx with hx | hx | hx
    · exact joinL_ink g k (fun j hj => h j (by omega)) x hx
    · split at hx
      · simp at hx
        unfold inkO
        rcases hx with rfl | rfl | rfl <;> decide
      · simp at hx
    · have := (h k (by omega)).1 x hx
      unfold inkO; omega
def inkU (x : UInt8) : Prop := x.toNat = 32 ∨ x.toNat = 124 ∨ x.toNat = 58 ∨ x.toNat = 45
theorem colL_ink (al hy : Nat → Nat) (e : Bool) (nc k : Nat) (x : UInt8) (hx : x ∈ colL al hy e nc k) : inkU x := by
  unfold colL barL c1L c2L spL at hx
  simp only [List.mem_append] at hx
  unfold inkU
  rcases hx with hx | hx | hx | hx | hx
  · split at hx <;> simp at hx; subst hx; decide
  · split at hx <;> simp at hx; subst hx; decide
  · rw [List.mem_replicate] at hx; rw [hx.2]; decide
  · split at hx <;> simp at hx; subst hx; decide
  · split at hx <;> simp at hx; subst hx; decide
theorem colsL_ink (al hy : Nat → Nat) (e : Bool) (nc : Nat) : ∀ k x, x ∈ colsL al hy e nc k → inkU x
  | 0, x, hx => by simp [colsL] at hx
  | k + 1, x, hx => by
    rw [colsL, List.mem_append] at hx
    rcases hx with hx | hx
    · exact colsL_ink al hy e nc k x hx
    · exact colL_ink al hy e nc k x hx
theorem pre_mem {b : Bool} {x : UInt8} (h : x ∈ pre b) : x.toNat = 124 := by
  unfold pre at h
  split at h <;> simp at h
  subst h; rfl

section
variable (g : Nat → List UInt8) (al hy : Nat → Nat) (b e : Bool) (nc : Nat) (more : List UInt8)
def Eof : Nat := (overL g b e nc).length
def Zof : Nat := Eof g b e nc + 1 + (belowL al hy b e nc).length
def sof (k : Nat) : Nat := Eof g b e nc + 1 + b.toNat + (colsL al hy e nc k).length + (if k > 0 then 1 else 0)
theorem sof_bar (k : Nat) : (barL k).length = if k > 0 then 1 else 0 := by unfold barL; split <;> rfl
theorem c1L_len (k : Nat) : (c1L al k).length = al k % 2 := by unfold c1L; split <;> simp <;> omega
theorem c2L_len (k : Nat) (h : al k ≤ 3) : (c2L al k).length = al k / 2 := by unfold c2L; split <;> simp <;> omega
theorem spL_len (k : Nat) : (spL e nc k).length = if k + 1 < nc ∨ e = true then 1 else 0 := by unfold spL; split <;> rfl
theorem colL_len (k : Nat) (h : al k ≤ 3) : (colL al hy e nc k).length = (if k > 0 then 1 else 0) + al k % 2 + hy k + al k / 2 + (if k + 1 < nc ∨ e = true then 1 else 0) := by
  unfold colL
  simp only [List.length_append, List.length_replicate, sof_bar, c1L_len, c2L_len al k h, spL_len]
  omega
/-- The text about a column. -/
theorem col_at (k : Nat) (hk : k < nc) : ∃ R, headL g al hy b e nc ++ more = (overL g b e nc ++ ([10] ++ (pre b ++ colsL al hy e nc k))) ++ (barL k ++ (c1L al k ++ (List.replicate (hy k) 45 ++ (c2L al k ++ (spL e nc k ++ R))))) ∧
    (k + 1 = nc → R = pre e ++ ([10] ++ more)) ∧ (k + 1 < nc → ∃ R', R = [124] ++ R') := by
  obtain ⟨r, h1, _, h3⟩ := colsL_more al hy e nc (nc - k) k
  obtain ⟨r', h4, h5⟩ := h3 (by omega)
  rw [show k + (nc - k) = nc by omega] at h1
  refine ⟨r' ++ (pre e ++ ([10] ++ more)), ?_, fun h => ?_, fun h => ?_⟩
  · unfold headL belowL
    rw [h1, h4]
    unfold colL
    simp only [List.append_assoc]
  · rw [h5 (by omega)]; rfl
  · obtain ⟨r2, g1, _, g3⟩ := colsL_more al hy e nc (nc - (k + 1)) (k + 1)
    obtain ⟨r3, g4, _⟩ := g3 (by omega)
    rw [show k + 1 + (nc - (k + 1)) = nc by omega, h1, h4, colsL, List.append_assoc] at g1
    have g1 := List.append_cancel_left (List.append_cancel_left g1)
    rw [g1, g4]
    refine ⟨c1L al (k + 1) ++ (List.replicate (hy (k + 1)) 45 ++ (c2L al (k + 1) ++ spL e nc (k + 1))) ++ r3 ++ (pre e ++ ([10] ++ more)), ?_⟩
    unfold colL barL
    rw [if_pos (by omega)]
    simp only [List.append_assoc]
end
theorem tb_of (g : Nat → List UInt8) (al hy : Nat → Nat) (b e : Bool) (nc : Nat) (more : List UInt8) (hnc : 2 ≤ nc ∧ nc ≤ 8) (hg : ∀ j, j < nc → Name (g j)) (hal : ∀ j, j < nc → al j ≤ 3) (hhy' : ∀ j, j < nc → 1 ≤ hy j ∧ 3 ≤ hy j + al j % 2 + al j / 2) :
    TB (bt (headL g al hy b e nc ++ more)) (headL g al hy b e nc ++ more).length (Eof g b e nc) b e nc al hy (sof g al hy b e nc) (Zof g al hy b e nc) := by
  obtain ⟨X, hX⟩ : ∃ X, X = headL g al hy b e nc ++ more := ⟨_, rfl⟩
  rw [← hX]
  have hX1 : X = overL g b e nc ++ ([10] ++ (belowL al hy b e nc ++ ([10] ++ more))) := by rw [hX]; unfold headL; simp only [List.append_assoc]
  have hE : Eof g b e nc = (overL g b e nc).length := rfl
  have hZ : Zof g al hy b e nc = Eof g b e nc + 1 + (belowL al hy b e nc).length := rfl
  have hover : ∀ x ∈ overL g b e nc, inkO x := by
    intro x hx
    unfold overL at hx
    simp only [List.mem_append] at hx
    rcases hx with hx | hx | hx
    · have := pre_mem hx; unfold inkO; omega
    · exact joinL_ink g nc hg x hx
    · have := pre_mem hx; unfold inkO; omega
  have hbelow : ∀ x ∈ belowL al hy b e nc, inkU x := by
    intro x hx
    unfold belowL at hx
    simp only [List.mem_append] at hx
    rcases hx with hx | hx | hx
    · have := pre_mem hx; unfold inkU; omega
    · exact colsL_ink al hy e nc nc x hx
    · have := pre_mem hx; unfold inkU; omega
  have f1 : ∀ j, j < Eof g b e nc → ∃ x, inkO x ∧ bt X j = x.toNat := fun j hj => by
    rw [hX1, bt_app_lo hj]
    obtain ⟨x, h1, h2⟩ := bt_mem hj
    exact ⟨x, hover x h1, h2⟩
  have f2 : bt X (Eof g b e nc) = 10 := by
    exact (bt_mid hX1 (o := Eof g b e nc) rfl (k := 0) (by simp) rfl).trans rfl
  have hX2 : X = (overL g b e nc ++ [10]) ++ (belowL al hy b e nc ++ ([10] ++ more)) := by rw [hX1]; simp only [List.append_assoc]
  have f3 : ∀ j, Eof g b e nc + 1 ≤ j → j < Zof g al hy b e nc → ∃ x, inkU x ∧ bt X j = x.toNat := fun j h1 h2 => by
    obtain ⟨i, rfl⟩ : ∃ i, j = Eof g b e nc + 1 + i := ⟨j - (Eof g b e nc + 1), by omega⟩
    have hi : i < (belowL al hy b e nc).length := by omega
    rw [bt_mid hX2 (o := Eof g b e nc + 1) (by simp [Eof]) hi rfl]
    obtain ⟨x, h1, h2⟩ := bt_mem hi
    exact ⟨x, hbelow x h1, h2⟩
  have hX3 : X = (overL g b e nc ++ ([10] ++ belowL al hy b e nc)) ++ ([10] ++ more) := by rw [hX1]; simp only [List.append_assoc]
  have f4 : bt X (Zof g al hy b e nc) = 10 := by
    exact (bt_mid hX3 (o := Zof g al hy b e nc) (by simp [Zof, Eof]; omega) (k := 0) (by simp) rfl).trans rfl
  have hjl := joinL_len g nc hnc.1
  have hover_len : (overL g b e nc).length = b.toNat + (joinL g nc).length + e.toNat := by simp [overL, pre_len]; omega
  have hbelow_len : (belowL al hy b e nc).length = b.toNat + (colsL al hy e nc nc).length + e.toNat := by simp [belowL, pre_len]; omega
  have hmono : ∀ k, k < nc → (colsL al hy e nc (k + 1)).length = (colsL al hy e nc k).length + (colL al hy e nc k).length := fun k hk => by rw [colsL, List.length_append]
  have hcols : ∀ k, k < nc → (colsL al hy e nc k).length + (colL al hy e nc k).length ≤ (colsL al hy e nc nc).length := fun k hk => by
    obtain ⟨r, h1, _, h3⟩ := colsL_more al hy e nc (nc - (k + 1)) (k + 1)
    rw [show k + 1 + (nc - (k + 1)) = nc by omega] at h1
    rw [h1, List.length_append, hmono k hk]; omega
  have hcol := fun k (hk : k < nc) => col_at g al hy b e nc more k hk
  rw [← hX] at hcol
  have hcl := fun k (hk : k < nc) => colL_len al hy e nc k (hal k hk)
  have hs : ∀ k, sof g al hy b e nc k = Eof g b e nc + 1 + b.toNat + (colsL al hy e nc k).length + (if k > 0 then 1 else 0) := fun k => rfl
  have hP : ∀ k, (overL g b e nc ++ ([10] ++ (pre b ++ colsL al hy e nc k)) ++ barL k).length = sof g al hy b e nc k := fun k => by
    simp only [List.length_append, pre_len, sof_bar, hs, Eof, List.length_cons, List.length_nil]; omega
  have hnext : ∀ k, k + 1 < nc → sof g al hy b e nc (k + 1) = sof g al hy b e nc k + al k % 2 + hy k + al k / 2 + 2 := fun k hk => by
    have h2 := hcl k (by omega)
    rw [if_pos (Or.inl hk)] at h2
    rw [hs (k + 1), if_pos (Nat.succ_pos k), hmono k (by omega), h2, hs k]; omega
  have hlast : ∀ k, k + 1 = nc → Zof g al hy b e nc = sof g al hy b e nc k + al k % 2 + hy k + al k / 2 + 2 * e.toNat := fun k hk => by
    have h2 := hcl k (by omega)
    have h3 := hmono k (by omega)
    rw [hk] at h3
    have h4 : (if k + 1 < nc ∨ e = true then 1 else 0) = e.toNat := by cases e <;> simp <;> omega
    rw [h4] at h2
    rw [hZ, hbelow_len, h3, h2, hs k]; omega
  have hEl : 0 < (joinL g nc).length := by omega
  refine ⟨?line1, f2, ?esc, ?bar, hnc, ?fst, ?lst, by omega, ?s0, ?beg, hal, ?colon1, ?dash, hhy', ?colon2, ?next, ?lastE, ?lastN, ?ZN⟩
  case line1 =>
    intro j hj
    obtain ⟨x, h1, h2⟩ := f1 j hj
    unfold inkO at h1; omega
  case esc =>
    intro j hj
    rcases Nat.lt_trichotomy j (Eof g b e nc) with h | h | h
    · obtain ⟨x, h1, h2⟩ := f1 j h
      unfold inkO at h1; omega
    · rw [h, f2]; decide
    · rcases Nat.lt_or_ge j (Zof g al hy b e nc) with h' | h'
      · obtain ⟨x, h1, h2⟩ := f3 j h h'
        unfold inkU at h1; omega
      · rw [show j = Zof g al hy b e nc by omega, f4]; decide
  case bar =>
    rw [bars_take X _ (by rw [hX1]; simp [Eof])]
    rw [hX1, show Eof g b e nc = (overL g b e nc).length from rfl, List.take_left, overL, List.count_append, List.count_append, joinL_count g nc hg]
    cases b <;> cases e <;> simp [pre] <;> omega
  case fst =>
    cases b with
    | true =>
      simp only [iff_true]
      exact (bt_mid (X := X) (a := []) (p := [124]) (b := (joinL g nc ++ pre e) ++ ([10] ++ (belowL al hy true e nc ++ ([10] ++ more)))) (by rw [hX1]; simp [overL, pre]) (o := 0) rfl (k := 0) (by simp) rfl).trans rfl
    | false =>
      simp only [Bool.false_eq_true, iff_false]
      obtain ⟨m, rfl⟩ : ∃ m, nc = m + 1 := ⟨nc - 1, by omega⟩
      obtain ⟨r, hr⟩ := joinL_head g m
      have hn := hg 0 (by omega)
      have := bt_mid (X := X) (a := []) (p := g 0) (b := r ++ (pre e ++ ([10] ++ (belowL al hy false e (m + 1) ++ ([10] ++ more))))) (by rw [hX1]; simp [overL, pre, hr]) (o := 0) rfl (k := 0) hn.2 (j := 0) rfl
      obtain ⟨x, h1, h2⟩ := bt_mem hn.2
      have := hn.1 x h1
      omega
  case lst =>
    intro j hj
    cases e with
    | true =>
      simp only [iff_true]
      exact (bt_mid (X := X) (a := pre b ++ joinL g nc) (p := [124]) (b := [10] ++ (belowL al hy b true nc ++ ([10] ++ more))) (by rw [hX1]; simp [overL, pre]) (o := j) (by rw [hE, hover_len] at hj; simp only [List.length_append, pre_len, Bool.toNat_true] at hj ⊢; omega) (k := 0) (by simp) rfl).trans rfl
    | false =>
      simp only [Bool.false_eq_true, iff_false]
      obtain ⟨m, rfl⟩ : ∃ m, nc = m + 1 := ⟨nc - 1, by omega⟩
      have hn := hg m (by omega)
      obtain ⟨L, hL⟩ : ∃ L, L = joinL g m ++ (if m > 0 then [32, 124, 32] else []) := ⟨_, rfl⟩
      have hjL : joinL g (m + 1) = L ++ g m := by rw [hL, joinL, List.append_assoc]
      have hjl2 : (joinL g (m + 1)).length = L.length + (g m).length := by rw [hjL, List.length_append]
      have hk : (g m).length - 1 < (g m).length := by have := hn.2; omega
      have hpl := pre_len b
      have hj2 : j = L.length + b.toNat + ((g m).length - 1) := by
        rw [hE, hover_len, hjl2] at hj
        have : false.toNat = 0 := rfl
        omega
      have := bt_mid (X := X) (a := pre b ++ L) (p := g m) (b := [10] ++ (belowL al hy b false (m + 1) ++ ([10] ++ more))) (by rw [hX1]; simp [overL, pre, hjL]) (o := L.length + b.toNat) (by rw [List.length_append]; omega) (k := (g m).length - 1) hk (j := j) hj2
      obtain ⟨x, h1, h2⟩ := bt_mem hk
      have := hn.1 x h1
      omega
  case s0 => rw [hs]; simp [colsL]
  case beg =>
    rintro rfl
    exact (bt_mid (X := X) (a := overL g true e nc ++ [10]) (p := [124]) (b := (colsL al hy e nc nc ++ pre e) ++ ([10] ++ more)) (by rw [hX2]; simp [belowL, pre]) (o := Eof g true e nc + 1) (by simp [Eof]) (k := 0) (by simp) rfl).trans rfl
  case colon1 =>
    intro k hk h1
    obtain ⟨R, hR, _, _⟩ := hcol k hk
    refine (bt_mid (X := X) (a := overL g b e nc ++ ([10] ++ (pre b ++ colsL al hy e nc k)) ++ barL k) (p := c1L al k) (b := List.replicate (hy k) 45 ++ (c2L al k ++ (spL e nc k ++ R))) (by rw [hR]; simp only [List.append_assoc]) (hP k) (k := 0) (by rw [c1L_len]; omega) rfl).trans ?_
    unfold c1L; rw [if_pos h1]; rfl
  case dash =>
    intro k j hk hj
    obtain ⟨R, hR, _, _⟩ := hcol k hk
    refine (bt_mid (X := X) (a := (overL g b e nc ++ ([10] ++ (pre b ++ colsL al hy e nc k)) ++ barL k) ++ c1L al k) (p := List.replicate (hy k) 45) (b := c2L al k ++ (spL e nc k ++ R)) (by rw [hR]; simp only [List.append_assoc]) (o := sof g al hy b e nc k + al k % 2) (by rw [List.length_append, hP k, c1L_len]) (k := j) (by simpa using hj) rfl).trans ?_
    unfold bt; rw [List.getElem?_replicate, if_pos hj]; rfl
  case colon2 =>
    intro k hk h2
    obtain ⟨R, hR, _, _⟩ := hcol k hk
    refine (bt_mid (X := X) (a := (overL g b e nc ++ ([10] ++ (pre b ++ colsL al hy e nc k)) ++ barL k) ++ c1L al k ++ List.replicate (hy k) 45) (p := c2L al k) (b := spL e nc k ++ R) (by rw [hR]; simp only [List.append_assoc]) (o := sof g al hy b e nc k + al k % 2 + hy k) (by rw [List.length_append, List.length_append, hP k, c1L_len, List.length_replicate]) (k := 0) (by unfold c2L; rw [if_pos h2]; simp) rfl).trans ?_
    unfold c2L; rw [if_pos h2]; rfl
  case next =>
    intro k hk
    obtain ⟨R, hR, _, h3⟩ := hcol k (by omega)
    obtain ⟨R', rfl⟩ := h3 hk
    have hsp : spL e nc k = [32] := by unfold spL; rw [if_pos (Or.inl hk)]
    rw [hsp] at hR
    refine ⟨?_, ?_, hnext k hk⟩
    · exact (bt_mid (X := X) (a := (overL g b e nc ++ ([10] ++ (pre b ++ colsL al hy e nc k)) ++ barL k) ++ c1L al k ++ List.replicate (hy k) 45 ++ c2L al k) (p := [32]) (b := [124] ++ R') (by rw [hR]; simp only [List.append_assoc]) (o := rEnd al hy (sof g al hy b e nc) k) (by rw [List.length_append, List.length_append, List.length_append, hP k, c1L_len, List.length_replicate, c2L_len al k (hal k (by omega))]; rfl) (k := 0) (by simp) rfl).trans rfl
    · exact (bt_mid (X := X) (a := (overL g b e nc ++ ([10] ++ (pre b ++ colsL al hy e nc k)) ++ barL k) ++ c1L al k ++ List.replicate (hy k) 45 ++ c2L al k) (p := [32, 124]) (b := R') (by rw [hR]; simp only [List.append_assoc]; rfl) (o := rEnd al hy (sof g al hy b e nc) k) (by rw [List.length_append, List.length_append, List.length_append, hP k, c1L_len, List.length_replicate, c2L_len al k (hal k (by omega))]; rfl) (k := 1) (by simp) rfl).trans rfl
  case lastE =>
    rintro k hk rfl
    obtain ⟨R, hR, h3, _⟩ := hcol k (by omega)
    obtain rfl := h3 hk
    have hsp : spL true nc k = [32] := by unfold spL; rw [if_pos (Or.inr rfl)]
    rw [hsp] at hR
    have hz : Zof g al hy b true nc = rEnd al hy (sof g al hy b true nc) k + 2 := hlast k hk
    refine ⟨?_, ?_, by rw [← hz]; exact f4, hz⟩
    · exact (bt_mid (X := X) (a := (overL g b true nc ++ ([10] ++ (pre b ++ colsL al hy true nc k)) ++ barL k) ++ c1L al k ++ List.replicate (hy k) 45 ++ c2L al k) (p := [32]) (b := [124] ++ ([10] ++ more)) (by rw [hR]; simp only [List.append_assoc]; rfl) (o := rEnd al hy (sof g al hy b true nc) k) (by rw [List.length_append, List.length_append, List.length_append, hP k, c1L_len, List.length_replicate, c2L_len al k (hal k (by omega))]; rfl) (k := 0) (by simp) rfl).trans rfl
    · exact (bt_mid (X := X) (a := (overL g b true nc ++ ([10] ++ (pre b ++ colsL al hy true nc k)) ++ barL k) ++ c1L al k ++ List.replicate (hy k) 45 ++ c2L al k) (p := [32, 124]) (b := [10] ++ more) (by rw [hR]; simp only [List.append_assoc]; rfl) (o := rEnd al hy (sof g al hy b true nc) k) (by rw [List.length_append, List.length_append, List.length_append, hP k, c1L_len, List.length_replicate, c2L_len al k (hal k (by omega))]; rfl) (k := 1) (by simp) rfl).trans rfl
  case lastN =>
    rintro k hk rfl
    have hz : Zof g al hy b false nc = rEnd al hy (sof g al hy b false nc) k := hlast k hk
    exact ⟨by rw [← hz]; exact f4, hz⟩
  case ZN =>
    rw [hX3]; simp [Zof, Eof]; omega
end Go.Proofs.YtaljhebalgipjaaGreatDoor
