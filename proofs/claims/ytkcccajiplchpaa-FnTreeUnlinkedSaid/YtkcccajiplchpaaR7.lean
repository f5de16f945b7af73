/- Forests in memory: parents and lists of children; is a node under another one. -/
import Derived.Test.YtkcccajiplchpaaR5
import Derived.Test.YtkcccajiplchpaaR6
namespace Go.Proofs.Ytkcccajiplchpaa
open Go.RowKit
set_option linter.unusedVariables false

theorem row_at {w : World} {B : Nat} {e : TypeId} {A : Option Addr} {n c : Nat} {l : List Value} (h : w.ownsRow B e 1 (.slice A n c) n l) {i : Nat} (hi : i < n) :
    ∃ g, A = some ⟨g, 0, none⟩ ∧ B ≤ g ∧ g < w.heap.size ∧ n ≤ c ∧ (∀ j, j < n → w.cell? ⟨g, j, none⟩ = l[j]?) ∧ ∀ j, w.frozen? ⟨g, j, none⟩ = false := by
  rcases h.2 with ⟨hv, h0⟩ | ⟨g, cap, cur, hv, hb, hg, hnc, hcm, hcs, htake⟩
  · omega
  · injection hv with h1 h2 h3
    subst h1 h3
    exact ⟨g, rfl, hb, (Array.getElem?_eq_some_iff.1 hg).1, hnc, fun j hj => h.cellAt j (by omega), fun j => h.frozenAt j⟩

/-- A forest in memory. -/
structure FR (w : World) (B fb n : Nat) (U : Nat → Option Nat) (D : Nat → List Nat) (AU : Option Addr) (cU : Nat) (AD : Option Addr) (cD : Nat) (DA : Nat → Option Addr) (Dc : Nat → Nat) : Prop where
  blk : w.heap[fb]? = some (.cells #[.slice AU n cU, .slice AD n cD] 28 (0, 0))
  up : w.ownsRow B 3 1 (.slice AU n cU) n ((List.range n).map fun i => .int .i64 (idx (U i)))
  dn : w.ownsRow B 25 1 (.slice AD n cD) n ((List.range n).map fun i => .slice (DA i) (D i).length (Dc i))
  row : ∀ i, i < n → w.ownsRow B 3 1 (.slice (DA i) (D i).length (Dc i)) (D i).length ((D i).map fun k : Nat => Value.int .i64 (k : Int))
  sep : ∀ i g, i < n → (DA i).map (·.block) = some g → AU.map (·.block) ≠ some g
  sep2 : ∀ i j g, i < n → j < n → i ≠ j → (DA i).map (·.block) = some g → (DA j).map (·.block) ≠ some g
  low : B ≤ fb
def kindF (e : TypeId) : Prop := e = 3 ∨ e = 25 ∨ e = 28
theorem FR.cells {w : World} {B fb n : Nat} {U : Nat → Option Nat} {D : Nat → List Nat} {AU : Option Addr} {cU : Nat} {AD : Option Addr} {cD : Nat} {DA : Nat → Option Addr} {Dc : Nat → Nat} (h : FR w B fb n U D AU cU AD cD DA Dc) :
    w.cell? ⟨fb, 0, none⟩ = some (.slice AU n cU) ∧ w.cell? ⟨fb, 1, none⟩ = some (.slice AD n cD) ∧ w.frozen? ⟨fb, 0, none⟩ = false ∧ w.frozen? ⟨fb, 1, none⟩ = false := by
  refine ⟨?_, ?_, ?_, ?_⟩
  · rw [cell_of_row w _ 0 _ _ _ h.blk]; rfl
  · rw [cell_of_row w _ 1 _ _ _ h.blk]; rfl
  · exact frozen_of_row w _ 0 _ _ h.blk
  · exact frozen_of_row w _ 1 _ _ h.blk
theorem FR.upAt {w : World} {B fb n : Nat} {U : Nat → Option Nat} {D : Nat → List Nat} {AU : Option Addr} {cU : Nat} {AD : Option Addr} {cD : Nat} {DA : Nat → Option Addr} {Dc : Nat → Nat} (h : FR w B fb n U D AU cU AD cD DA Dc) {i : Nat} (hi : i < n) :
    ∃ g, AU = some ⟨g, 0, none⟩ ∧ n ≤ cU ∧ w.cell? ⟨g, i, none⟩ = some (.int .i64 (idx (U i))) ∧ w.frozen? ⟨g, i, none⟩ = false := by
  obtain ⟨g, e, _, _, hc, h1, h2⟩ := row_at h.up hi
  exact ⟨g, e, hc, by rw [h1 i hi]; simp [hi], h2 i⟩
theorem FR.dnAt {w : World} {B fb n : Nat} {U : Nat → Option Nat} {D : Nat → List Nat} {AU : Option Addr} {cU : Nat} {AD : Option Addr} {cD : Nat} {DA : Nat → Option Addr} {Dc : Nat → Nat} (h : FR w B fb n U D AU cU AD cD DA Dc) {i : Nat} (hi : i < n) :
    ∃ g, AD = some ⟨g, 0, none⟩ ∧ n ≤ cD ∧ w.cell? ⟨g, i, none⟩ = some (.slice (DA i) (D i).length (Dc i)) ∧ w.frozen? ⟨g, i, none⟩ = false := by
  obtain ⟨g, e, _, _, hc, h1, h2⟩ := row_at h.dn hi
  exact ⟨g, e, hc, by rw [h1 i hi]; simp [hi], h2 i⟩
theorem kid_at {w : World} {B : Nat} {e : TypeId} {A : Option Addr} {c : Nat} {l : List Nat} (h : w.ownsRow B e 1 (.slice A l.length c) l.length (l.map fun k : Nat => Value.int .i64 (k : Int))) {j : Nat} (hj : j < l.length) :
    ∃ g, A = some ⟨g, 0, none⟩ ∧ l.length ≤ c ∧ w.cell? ⟨g, j, none⟩ = some (.int .i64 (l[j] : Int)) := by
  obtain ⟨g, e, _, _, hc, h1, _⟩ := row_at h hj
  exact ⟨g, e, hc, by rw [h1 j hj]; simp [hj]⟩

/-- A Bool that is false at p alone. -/
def BoolN (p : Prop) (e : Ending) : Prop := ∃ b : Bool, e = .returned (.bool b) ∧ (b = false → p)
def mrk (r : Nat → Nat) (i : Int) : Nat := if i < 0 then 0 else r i.toNat + 1
theorem mrk_nat (r : Nat → Nat) (k : Nat) : mrk r (k : Int) = r k + 1 := by
  unfold mrk; rw [if_neg (by omega)]; rfl
set_option maxHeartbeats 1600000 in
theorem under_any (w : World) (B fb n : Nat) (U : Nat → Option Nat) (D : Nat → List Nat) (AU : Option Addr) (cU : Nat) (AD : Option Addr) (cD : Nat) (DA : Nat → Option Addr) (Dc : Nat → Nat) (h : FR w B fb n U D AU cU AD cD DA Dc)
    (r : Nat → Nat) (hr : Rank n U r) (hU : ∀ i p, i < n → U i = some p → p < n) (a b : Nat) (ha : a < n) (hb : b < n) :
    Calls Try.prog 10 #[.pointer (some ⟨fb, 0, none⟩), .int .i64 a, .int .i64 b] w fun e w' => BoolN (¬ Und U a b) e ∧ w' = w := by
  have HF := Lib.hid h
  have HR := Lib.hid hr
  have HU := Lib.hid hU
  obtain ⟨c0, _, _, _⟩ := h.cells
  clear h hr hU
  go_enter Try.func10, Try.ntmps10
  go_wp2_with fail
  go_loop [1, 6] (fun nv rv => ∃ v : Option Nat, nv = .int .i64 (idx v) ∧ rv = .bool false ∧ Hid (∀ x, v = some x → x < n) ∧ Hid (Und U a b → ∃ x, v = some x ∧ Und U x b)) (fun nv _ => mrk r (intOf nv))
  case atStart => exact ⟨some a, rfl, rfl, Lib.hid (fun x hx => by cases hx; exact ha), Lib.hid (fun hu => ⟨a, rfl, hu⟩)⟩
  case round =>
    obtain ⟨v, rfl, rfl, HV, HW⟩ := hrel
    cases v with
    | none =>
      have hn : Hid (¬ Und U a b) := Lib.hid fun hu => by obtain ⟨x, hx, _⟩ := HW.out hu; cases hx
      simp only [idx]
      go_wp2
      go_ret
      exact ⟨⟨false, rfl, fun _ => hn.out⟩, rfl⟩
    | some x =>
      have hx := HV.out x rfl
      obtain ⟨g, rfl, hnc, cx, _⟩ := HF.out.upAt hx
      have hx' : (x : Int) < n := by omega
      have hnl : ¬ (x : Int) < 0 := by omega
      simp only [idx]
      by_cases e : (x : Int) = b
      · have e' := e
        go_wp2
        go_ret
        exact ⟨⟨true, rfl, fun h => by cases h⟩, rfl⟩
      · have HV2 : Hid (∀ y, U x = some y → y < n) := Lib.hid fun y hy => HU.out x y hx hy
        have HW2 : Hid (Und U a b → ∃ y, U x = some y ∧ Und U y b) := Lib.hid fun hu => by
          obtain ⟨y, hy, hyb⟩ := HW.out hu
          injection hy with hy; subst hy
          cases hyb with
          | refl => exact absurd rfl e
          | step _ p _ h1 h2 => exact ⟨p, h1, h2⟩
        have HM : Hid (∀ p, U x = some p → r p < r x) := Lib.hid fun p hp => HR.out x p hx hp
        have e' : ((x : Int) == b) = false := by simp; omega
        go_wp2
        go_round
        case rel => exact ⟨U x, rfl, rfl, HV2, HW2⟩
        case measure =>
          show mrk r (idx (U x)) < mrk r (x : Int)
          rw [mrk_nat]
          cases hu : U x with
          | none => simp [idx, mrk]
          | some p =>
            have := HM.out p hu
            show mrk r (p : Int) < _
            rw [mrk_nat]; omega
end Go.Proofs.Ytkcccajiplchpaa
