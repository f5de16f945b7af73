/- Reference definitions: how the text lies (plain). -/
import Derived.Test.YtaljhebalgipjaaGreatDoorD3
namespace Go.Proofs.YtaljhebalgipjaaGreatDoor
open Go.RowKit
set_option linter.unusedVariables false

theorem bt_app_lo {a b : List UInt8} {k : Nat} (h : k < a.length) : bt (a ++ b) k = bt a k := by
  unfold bt; rw [List.getElem?_append_left h]
theorem bt_app_hi {a b : List UInt8} (k : Nat) : bt (a ++ b) (a.length + k) = bt b k := by
  unfold bt; rw [List.getElem?_append_right (Nat.le_add_right _ _), Nat.add_sub_cancel_left]
theorem bt_mid {X a p b : List UInt8} (e : X = a ++ (p ++ b)) {o k j : Nat} (hl : a.length = o) (hk : k < p.length) (hj : j = o + k) : bt X j = bt p k := by
  subst e hl hj; rw [bt_app_hi, bt_app_lo hk]
theorem bt_mem {p : List UInt8} {k : Nat} (h : k < p.length) : ∃ x ∈ p, bt p k = (x.toNat : Int) := by
  refine ⟨p[k], List.getElem_mem h, ?_⟩
  unfold bt; rw [List.getElem?_eq_getElem h]; rfl

/-- What stands behind the address. -/
def tailL (title : List UInt8) (o c : UInt8) (nx : Bool) : List UInt8 := if title = [] then [] else (if nx then [10, 32, 32] else [32]) ++ ([o] ++ (title ++ [c]))
/-- The definition's text. -/
def defL (bl : Nat) (id path title : List UInt8) (o c : UInt8) (nx : Bool) : List UInt8 :=
  List.replicate bl 32 ++ ([91] ++ (id ++ ([93, 58, 32, 47] ++ (path ++ (tailL title o c nx ++ [10])))))
def allL (bl : Nat) (id path title : List UInt8) (o c : UInt8) (nx : Bool) (more : List UInt8) : List UInt8 := defL bl id path title o c nx ++ ([10] ++ more)
/-- Small letters alone; also blanks. -/
def Lets (l : List UInt8) : Prop := ∀ x ∈ l, 97 ≤ x.toNat ∧ x.toNat ≤ 122
def Words (l : List UInt8) : Prop := ∀ x ∈ l, x.toNat = 32 ∨ (97 ≤ x.toNat ∧ x.toNat ≤ 122)

section
variable (bl : Nat) (id path title : List UInt8) (o c : UInt8) (nx : Bool) (more : List UInt8)
theorem len_defL0 : (defL bl id path [] o c nx).length = bl + id.length + path.length + 6 := by simp [defL, tailL]; omega
theorem len_defL1 (h : title ≠ []) : (defL bl id path title o c nx).length = bl + id.length + path.length + title.length + (if nx then 11 else 9) := by cases nx <;> simp [defL, tailL, h] <;> omega

theorem head_of (h3 : bl ≤ 3) (hid : Lets id) (hne : 0 < id.length) : Head (bt (allL bl id path title o c nx more)) bl (bl + 1) (bl + id.length + 1) (bl + id.length + 3) (bl + id.length + 4) := by
  generalize hX : allL bl id path title o c nx more = X
  unfold allL defL at hX
  refine ⟨h3, fun j hj => ?_, ?_, rfl, by omega, fun j h1 h2 => ?_, ?_, ?_, by omega, ?_, by omega⟩
  · rw [bt_mid (a := []) (p := List.replicate bl 32) (o := 0) (k := j) (by rw [← hX]; simp; rfl) rfl (by simpa using hj) (by omega)]
    simp [bt, hj]
  · rw [bt_mid (a := List.replicate bl 32) (p := [91]) (o := bl) (k := 0) (by rw [← hX]; simp; rfl) (by simp) (by simp) (by omega)]
    rfl
  · rw [bt_mid (a := List.replicate bl 32 ++ [91]) (p := id) (o := bl + 1) (k := j - (bl + 1)) (by rw [← hX]; simp; rfl) (by simp) (by omega) (by omega)]
    obtain ⟨x, hx, e⟩ := bt_mem (p := id) (k := j - (bl + 1)) (by omega)
    rw [e]; have := hid x hx; omega
  · rw [bt_mid (a := List.replicate bl 32 ++ [91] ++ id) (p := [93, 58, 32, 47]) (o := bl + id.length + 1) (k := 0) (by rw [← hX]; simp; rfl) (by simp; omega) (by simp) (by omega)]
    rfl
  · rw [bt_mid (a := List.replicate bl 32 ++ [91] ++ id) (p := [93, 58, 32, 47]) (o := bl + id.length + 1) (k := 1) (by rw [← hX]; simp; rfl) (by simp; omega) (by simp) (by omega)]
    rfl
  · rw [bt_mid (a := List.replicate bl 32 ++ [91] ++ id) (p := [93, 58, 32, 47]) (o := bl + id.length + 1) (k := 2) (by rw [← hX]; simp; rfl) (by simp; omega) (by simp) (by omega)]
    rfl
theorem id_at (j : Nat) (hj : j < id.length) : bt (allL bl id path title o c nx more) (bl + 1 + j) = bt id j := by
  generalize hX : allL bl id path title o c nx more = X
  unfold allL defL at hX
  rw [bt_mid (a := List.replicate bl 32 ++ [91]) (p := id) (o := bl + 1) (k := j) (by rw [← hX]; simp; rfl) (by simp) hj rfl]
theorem link_at (j : Nat) (hj : j < path.length + 1) : bt (allL bl id path title o c nx more) (bl + id.length + 4 + j) = bt (47 :: path) j := by
  generalize hX : allL bl id path title o c nx more = X
  unfold allL defL at hX
  rw [bt_mid (a := List.replicate bl 32 ++ [91] ++ id ++ [93, 58, 32]) (p := 47 :: path) (o := bl + id.length + 4) (k := j) (by rw [← hX]; simp; rfl) (by simp; omega) (by simpa using hj) rfl]
theorem ink_link (hp : Lets path) (j : Nat) (h1 : bl + id.length + 4 ≤ j) (h2 : j < bl + id.length + path.length + 5) : inkB (bt (allL bl id path title o c nx more) j) := by
  have := link_at bl id path title o c nx more (j - (bl + id.length + 4)) (by omega)
  rw [show bl + id.length + 4 + (j - (bl + id.length + 4)) = j by omega] at this
  rw [this]
  obtain ⟨x, hx, e⟩ := bt_mem (p := 47 :: path) (k := j - (bl + id.length + 4)) (by simp; omega)
  rw [e]
  unfold inkB
  rcases List.mem_cons.1 hx with rfl | hx
  · refine ⟨?_, ?_, ?_, ?_⟩ <;> decide
  · have := hp x hx; omega
theorem slash_at : bt (allL bl id path title o c nx more) (bl + id.length + 4) = 47 := by
  have := link_at bl id path title o c nx more 0 (by omega)
  exact this
theorem nl_at0 : bt (allL bl id path [] o c nx more) (bl + id.length + path.length + 5) = 10 ∧ bt (allL bl id path [] o c nx more) (bl + id.length + path.length + 6) = 10 := by
  generalize hX : allL bl id path [] o c nx more = X
  unfold allL defL tailL at hX
  simp only [if_true] at hX
  constructor
  · rw [bt_mid (a := List.replicate bl 32 ++ [91] ++ id ++ [93, 58, 32, 47] ++ path) (p := [10, 10]) (o := bl + id.length + path.length + 5) (k := 0) (by rw [← hX]; simp; rfl) (by simp; omega) (by simp) (by omega)]
    rfl
  · rw [bt_mid (a := List.replicate bl 32 ++ [91] ++ id ++ [93, 58, 32, 47] ++ path) (p := [10, 10]) (o := bl + id.length + path.length + 5) (k := 1) (by rw [← hX]; simp; rfl) (by simp; omega) (by simp) (by omega)]
    rfl
end
section
variable (bl : Nat) (id path title : List UInt8) (o c : UInt8) (more : List UInt8)
theorem title_same (h : title ≠ []) (j : Nat) (hj : j < title.length) : bt (allL bl id path title o c false more) (bl + id.length + path.length + 7 + j) = bt title j := by
  generalize hX : allL bl id path title o c false more = X
  unfold allL defL tailL at hX
  simp only [h, if_false] at hX
  rw [bt_mid (a := List.replicate bl 32 ++ [91] ++ id ++ [93, 58, 32, 47] ++ path ++ [32, o]) (p := title) (o := bl + id.length + path.length + 7) (k := j) (by rw [← hX]; simp; rfl) (by simp; omega) hj rfl]
theorem title_next (h : title ≠ []) (j : Nat) (hj : j < title.length) : bt (allL bl id path title o c true more) (bl + id.length + path.length + 9 + j) = bt title j := by
  generalize hX : allL bl id path title o c true more = X
  unfold allL defL tailL at hX
  simp only [h, if_false] at hX
  rw [bt_mid (a := List.replicate bl 32 ++ [91] ++ id ++ [93, 58, 32, 47] ++ path ++ [10, 32, 32, o]) (p := title) (o := bl + id.length + path.length + 9) (k := j) (by rw [← hX]; simp; rfl) (by simp; omega) hj rfl]
def quoU (c : UInt8) : Prop := c = 39 ∨ c = 34 ∨ c = 40
def shutU (c : UInt8) : Prop := c = 39 ∨ c = 34 ∨ c = 41
theorem tit_same (h : title ≠ []) (hw : Words title) (ho : quoU o) (hc : shutU c) :
    Tit (bt (allL bl id path title o c false more)) (bl + id.length + path.length + title.length + 10 + more.length) (bl + id.length + path.length + 6) (bl + id.length + path.length + 7) (bl + id.length + path.length + title.length + 7) (bl + id.length + path.length + title.length + 8)
    ∧ bt (allL bl id path title o c false more) (bl + id.length + path.length + 5) = 32 := by
  have ht := title_same bl id path title o c more h
  have hlen : 0 < title.length := List.length_pos_iff.2 h
  generalize hX : allL bl id path title o c false more = X at ht
  unfold allL defL tailL at hX
  simp only [h, if_false] at hX
  have e0 : ∀ k, k < 2 → bt X (bl + id.length + path.length + 5 + k) = bt [32, o] k := fun k hk => by
    rw [bt_mid (a := List.replicate bl 32 ++ [91] ++ id ++ [93, 58, 32, 47] ++ path) (p := [32, o]) (o := bl + id.length + path.length + 5) (k := k) (by rw [← hX]; simp; rfl) (by simp; omega) (by simpa using hk) rfl]
  have e1 : ∀ k, k < 3 → bt X (bl + id.length + path.length + title.length + 7 + k) = bt [c, 10, 10] k := fun k hk => by
    rw [bt_mid (a := List.replicate bl 32 ++ [91] ++ id ++ [93, 58, 32, 47] ++ path ++ [32, o] ++ title) (p := [c, 10, 10]) (o := bl + id.length + path.length + title.length + 7) (k := k) (by rw [← hX]; simp; rfl) (by simp; omega) (by simpa using hk) rfl]
  have u := e0 1 (by omega)
  have b0 := e0 0 (by omega)
  have r := e1 0 (by omega)
  have z := e1 1 (by omega)
  have z1 := e1 2 (by omega)
  refine ⟨⟨?_, by omega, by omega, by omega, fun j h1 h2 => ?_, ?_, by omega, ?_, ?_⟩, b0⟩
  · unfold quoB
    rw [show bl + id.length + path.length + 6 = bl + id.length + path.length + 5 + 1 by omega, u]
    rcases ho with rfl | rfl | rfl <;> decide
  · by_cases hj : j < bl + id.length + path.length + title.length + 7
    · have := ht (j - (bl + id.length + path.length + 7)) (by omega)
      rw [show bl + id.length + path.length + 7 + (j - (bl + id.length + path.length + 7)) = j by omega] at this
      obtain ⟨x, hx, e⟩ := bt_mem (p := title) (k := j - (bl + id.length + path.length + 7)) (by omega)
      rw [this, e]
      have := hw x hx; omega
    · obtain rfl : j = bl + id.length + path.length + title.length + 7 := by omega
      rw [Nat.add_zero] at r
      rw [r]
      rcases hc with rfl | rfl | rfl <;> decide
  · exact z
  · have z1' : bt X (bl + id.length + path.length + title.length + 8 + 1) = 10 := z1
    rw [z1']; decide
  · rw [Nat.add_zero] at r
    rw [r]
    rcases hc with rfl | rfl | rfl <;> decide
theorem tit_next (h : title ≠ []) (hw : Words title) (ho : quoU o) (hc : shutU c) :
    Tit (bt (allL bl id path title o c true more)) (bl + id.length + path.length + title.length + 12 + more.length) (bl + id.length + path.length + 8) (bl + id.length + path.length + 9) (bl + id.length + path.length + title.length + 9) (bl + id.length + path.length + title.length + 10)
    ∧ bt (allL bl id path title o c true more) (bl + id.length + path.length + 5) = 10 ∧ bt (allL bl id path title o c true more) (bl + id.length + path.length + 6) = 32 ∧ bt (allL bl id path title o c true more) (bl + id.length + path.length + 7) = 32 := by
  have ht := title_next bl id path title o c more h
  have hlen : 0 < title.length := List.length_pos_iff.2 h
  generalize hX : allL bl id path title o c true more = X at ht
  unfold allL defL tailL at hX
  simp only [h, if_false, if_true] at hX
  have e0 : ∀ k, k < 4 → bt X (bl + id.length + path.length + 5 + k) = bt [10, 32, 32, o] k := fun k hk => by
    rw [bt_mid (a := List.replicate bl 32 ++ [91] ++ id ++ [93, 58, 32, 47] ++ path) (p := [10, 32, 32, o]) (o := bl + id.length + path.length + 5) (k := k) (by rw [← hX]; simp; rfl) (by simp; omega) (by simpa using hk) rfl]
  have e1 : ∀ k, k < 3 → bt X (bl + id.length + path.length + title.length + 9 + k) = bt [c, 10, 10] k := fun k hk => by
    rw [bt_mid (a := List.replicate bl 32 ++ [91] ++ id ++ [93, 58, 32, 47] ++ path ++ [10, 32, 32, o] ++ title) (p := [c, 10, 10]) (o := bl + id.length + path.length + title.length + 9) (k := k) (by rw [← hX]; simp; rfl) (by simp; omega) (by simpa using hk) rfl]
  have b0 := e0 0 (by omega)
  have b1 := e0 1 (by omega)
  have b2 := e0 2 (by omega)
  have u := e0 3 (by omega)
  have r := e1 0 (by omega)
  have z := e1 1 (by omega)
  have z1 := e1 2 (by omega)
  refine ⟨⟨?_, by omega, by omega, by omega, fun j h1 h2 => ?_, ?_, by omega, ?_, ?_⟩, b0, b1, b2⟩
  · unfold quoB
    rw [show bl + id.length + path.length + 8 = bl + id.length + path.length + 5 + 3 by omega, u]
    rcases ho with rfl | rfl | rfl <;> decide
  · by_cases hj : j < bl + id.length + path.length + title.length + 9
    · have := ht (j - (bl + id.length + path.length + 9)) (by omega)
      rw [show bl + id.length + path.length + 9 + (j - (bl + id.length + path.length + 9)) = j by omega] at this
      obtain ⟨x, hx, e⟩ := bt_mem (p := title) (k := j - (bl + id.length + path.length + 9)) (by omega)
      rw [this, e]
      have := hw x hx; omega
    · obtain rfl : j = bl + id.length + path.length + title.length + 9 := by omega
      rw [Nat.add_zero] at r
      rw [r]
      rcases hc with rfl | rfl | rfl <;> decide
  · exact z
  · have z1' : bt X (bl + id.length + path.length + title.length + 10 + 1) = 10 := z1
    rw [z1']; decide
  · rw [Nat.add_zero] at r
    rw [r]
    rcases hc with rfl | rfl | rfl <;> decide
end
end Go.Proofs.YtaljhebalgipjaaGreatDoor
