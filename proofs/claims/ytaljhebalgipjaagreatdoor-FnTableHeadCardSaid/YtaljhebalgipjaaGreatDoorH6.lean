/- Tables: the head's two lines, in words; one column of the second. -/
import Derived.Test.YtaljhebalgipjaaGreatDoorH5
import Derived.OwnWalk
namespace Go.Proofs.YtaljhebalgipjaaGreatDoor
open Go.RowKit
set_option linter.unusedVariables false

theorem Tryz.infoC : (Tryz.prog.info? 51).map (fun i => (i.zero, i.size, i.bytes)) = some (some (.int .i64 0), 1, 8) := by kernel_rfl
/-- How many bars stand ahead of a place. -/
def bars (f : Nat → Int) : Nat → Nat
  | 0 => 0
  | k + 1 => bars f k + if f k = 124 then 1 else 0
theorem bars_le (f : Nat → Int) : ∀ k, bars f k ≤ k
  | 0 => Nat.le_refl _
  | k + 1 => by have := bars_le f k; unfold bars; split <;> omega
def rEnd (al hy s : Nat → Nat) (k : Nat) : Nat := s k + al k % 2 + hy k + al k / 2
/-- A head's two lines: E, Z: the places of their line feeds; s k: where column k of the second begins. -/
structure TB (f : Nat → Int) (N E : Nat) (b e : Bool) (nc : Nat) (al hy s : Nat → Nat) (Z : Nat) : Prop where
  line1 : ∀ j, j < E → f j ≠ 10
  nl1 : f E = 10
  esc : ∀ j, j ≤ Z → f j ≠ 92
  bar : bars f E + 1 = nc + b.toNat + e.toNat
  nc2 : 2 ≤ nc ∧ nc ≤ 8
  fst : f 0 = 124 ↔ b = true
  lst : ∀ j, j + 1 = E → (f j = 124 ↔ e = true)
  E3 : 3 ≤ E
  s0 : s 0 = E + 1 + b.toNat
  beg : b = true → f (E + 1) = 124
  al3 : ∀ k, k < nc → al k ≤ 3
  colon1 : ∀ k, k < nc → al k % 2 = 1 → f (s k) = 58
  dash : ∀ k j, k < nc → j < hy k → f (s k + al k % 2 + j) = 45
  hy1 : ∀ k, k < nc → 1 ≤ hy k ∧ 3 ≤ hy k + al k % 2 + al k / 2
  colon2 : ∀ k, k < nc → 2 ≤ al k → f (s k + al k % 2 + hy k) = 58
  next : ∀ k, k + 1 < nc → f (rEnd al hy s k) = 32 ∧ f (rEnd al hy s k + 1) = 124 ∧ s (k + 1) = rEnd al hy s k + 2
  lastE : ∀ k, k + 1 = nc → e = true → f (rEnd al hy s k) = 32 ∧ f (rEnd al hy s k + 1) = 124 ∧ f (rEnd al hy s k + 2) = 10 ∧ Z = rEnd al hy s k + 2
  lastN : ∀ k, k + 1 = nc → e = false → f (rEnd al hy s k) = 10 ∧ Z = rEnd al hy s k
  ZN : Z < N
/-- Where the walk stands behind k columns. -/
def at_ (s : Nat → Nat) (nc Z k : Nat) : Nat := if k < nc then s k else Z
section
variable {f : Nat → Int} {N E : Nat} {b e : Bool} {nc : Nat} {al hy s : Nat → Nat} {Z : Nat} (h : TB f N E b e nc al hy s Z)
include h
theorem TB.first (k : Nat) (hk : k < nc) : f (s k) = 58 ∨ f (s k) = 45 := by
  by_cases h1 : al k % 2 = 1
  · exact .inl (h.colon1 k hk h1)
  · have := h.dash k 0 hk (h.hy1 k hk).1
    rw [show al k % 2 = 0 by omega] at this
    exact .inr this
theorem TB.le (k : Nat) (hk : k < nc) : rEnd al hy s k ≤ Z := by
  have hind : ∀ m k, nc = k + 1 + m → rEnd al hy s k ≤ Z := by
    intro m
    induction m with
    | zero =>
      intro k hk
      cases e with
      | true => have := (h.lastE k (by omega) rfl).2.2.2; omega
      | false => have := (h.lastN k (by omega) rfl).2; omega
    | succ m ih =>
      intro k hk
      have := ih (k + 1) (by omega)
      have hs := (h.next k (by omega)).2.2
      unfold rEnd at this hs ⊢
      omega
  exact hind (nc - 1 - k) k (by omega)
theorem TB.nl2 : f Z = 10 := by
  have := h.nc2
  cases he : e with
  | true => have := h.lastE (nc - 1) (by omega) he; rw [this.2.2.2]; exact this.2.2.1
  | false => have := h.lastN (nc - 1) (by omega) he; rw [this.2]; exact this.1
/-- Behind a column stands a bar, but maybe behind the last. -/
theorem TB.bars2 (k : Nat) (hk : k < nc) : (f (rEnd al hy s k) = 32 ∧ f (rEnd al hy s k + 1) = 124 ∧ at_ s nc Z (k + 1) = rEnd al hy s k + 2) ∨ (k + 1 = nc ∧ f (rEnd al hy s k) = 10 ∧ Z = rEnd al hy s k) := by
  by_cases h1 : k + 1 < nc
  · obtain ⟨a, b', c⟩ := h.next k h1
    exact .inl ⟨a, b', by unfold at_; rw [if_pos h1]; exact c⟩
  · cases he : e with
    | true =>
      obtain ⟨a, b', c, d⟩ := h.lastE k (by omega) he
      exact .inl ⟨a, b', by unfold at_; rw [if_neg h1]; exact d⟩
    | false =>
      obtain ⟨a, b'⟩ := h.lastN k (by omega) he
      exact .inr ⟨by omega, a, b'⟩
theorem TB.atIn (k : Nat) (hk : k ≤ nc) : at_ s nc Z k ≤ Z := by
  unfold at_
  split
  · rename_i hh
    have := h.le k hh
    unfold rEnd at this; omega
  · exact Nat.le_refl _
end
theorem set_map (f : Nat → Value) (n i : Nat) (v : Value) : ((List.range n).map f).set i v = (List.range n).map fun k => if k = i then v else f k := by
  apply List.ext_getElem
  · simp
  · intro k h1 h2
    have hk : k < n := by simpa using h2
    simp only [List.getElem_set, List.getElem_map, List.getElem_range]
    by_cases e : k = i
    · subst e; simp
    · rw [if_neg (fun h => e h.symm), if_neg e]
/-- The columns' row, among new blocks. -/
def CR (w : World) (B cb nc : Nat) (g : Nat → Int) : Prop := w.ownsRow B 51 1 (.slice (some ⟨cb, 0, none⟩) nc nc) nc ((List.range nc).map fun j => .int .i64 (g j))
theorem CR.at {w : World} {B cb nc : Nat} {g : Nat → Int} (h : CR w B cb nc g) {j : Nat} (hj : j < nc) : w.cell? ⟨cb, j, none⟩ = some (.int .i64 (g j)) ∧ w.frozen? ⟨cb, j, none⟩ = false := by
  unfold CR at h
  exact ⟨by rw [h.cellAt j (by omega)]; simp [hj], h.frozenAt j⟩
def kindC (e : TypeId) : Prop := kindM e ∨ e = 51
theorem CR.set {w : World} {B cb nc : Nat} {g : Nat → Int} (h : CR w B cb nc g) (j : Nat) (v : Int) : CR (w.setCell ⟨cb, j, none⟩ (.int .i64 v)) B cb nc (fun q => if q = j then v else g q) ∧ But (· = 51) B w (w.setCell ⟨cb, j, none⟩ (.int .i64 v)) := by
  unfold CR at h ⊢
  have hs := h.stored j (.int .i64 v)
  refine ⟨?_, ?_⟩
  · have := hs.1
    rw [set_map] at this
    have e : ((List.range nc).map fun k => if k = j then Value.int .i64 v else Value.int .i64 (g k)) = (List.range nc).map fun k => .int .i64 (if k = j then v else g k) := List.map_congr_left fun k _ => by split <;> rfl
    rw [e] at this
    exact this
  · rcases h.2 with ⟨hv, _⟩ | ⟨g', cap, cur, hv, hb, hg, _⟩
    · cases hv
    · injection hv with h1; injection h1 with h1; injection h1 with h1; subst h1
      exact But.setCell (T := (· = 51)) hg rfl hb _
theorem CR.same {w : World} {B cb nc : Nat} {g g' : Nat → Int} (h : CR w B cb nc g) (he : ∀ j, j < nc → g j = g' j) : CR w B cb nc g' := by
  unfold CR at h ⊢
  have e : ((List.range nc).map fun k => Value.int .i64 (g' k)) = (List.range nc).map fun k => .int .i64 (g k) := List.map_congr_left fun k hk => by rw [he k (by simpa using hk)]
  rw [e]; exact h
theorem DT.butC {w w' : World} {B : Nat} {A : Option Addr} {n c : Nat} {f : Nat → Int} (h : DT w A n c f) (hb : But kindC B w w') : DT w' A n c f := by
  obtain ⟨B', h⟩ := h
  exact ⟨B', row_kept h hb (by unfold kindC kindM; decide)⟩
theorem bits_or : bits BinOp.or IntKind.i64 0 1 = 1 ∧ bits BinOp.or IntKind.i64 0 2 = 2 ∧ bits BinOp.or IntKind.i64 1 2 = 3 := by decide
end Go.Proofs.YtaljhebalgipjaaGreatDoor
