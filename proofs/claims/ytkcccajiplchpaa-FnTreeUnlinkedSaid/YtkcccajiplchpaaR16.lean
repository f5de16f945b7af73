/- Forests: how a slice of steps is read. -/
import Derived.Test.YtkcccajiplchpaaR15
import Derived.ProofKit
import Derived.OpenShut
import Derived.ShutString
import Derived.ChangeOld
import Derived.Deep.Slices
namespace Go.Proofs.Ytkcccajiplchpaa
open Go.ChangeShapes Go.WideShapes Go.ChangeAt Go.RowKit
set_option linter.unusedVariables false

theorem cells3 : Try.prog.cellsOf 31 = 3 := by kernel_rfl
theorem cells_one : Try.prog.cellsOf 2 = 1 := by kernel_rfl
theorem list3 {α : Type} {cs : List α} (h : cs.length = 3) : ∃ a b c, cs = [a, b, c] := by
  match cs, h with
  | [a, b, c], _ => exact ⟨a, b, c, rfl⟩
/-- A slice of steps, nil or not, as it is read. -/
theorem open_steps {H : Type} {enc : TypeId × Value → H} {W : World} {base : Nat} {held : Bool} {fuel : Nat} {A : Option Addr} {n c : Nat} {x : DataW H × List MemPlace}
    (h : DataW.trod enc Try.prog W base (fun _ => true) held fuel 22 [.slice A n c] = some x) : (∃ o a b, SS W W.heap.size A n c o a b) ∧ c ≤ maxLen := by
  rcases Go.Deep.open_slice Try.underlying22 h with ⟨hcs, _⟩ | ⟨ad, len, cap, m, k, D, Pl, hcs, _, hl, hm, hmm, _, hel⟩
  · simp at hcs
    obtain ⟨rfl, rfl, rfl⟩ := hcs
    exact ⟨⟨fun _ => 0, fun _ => 0, fun _ => 0, Nat.le_refl _, fun h => absurd h (by omega)⟩, by unfold maxLen; omega⟩
  · simp at hcs
    obtain ⟨rfl, rfl, rfl⟩ := hcs
    refine ⟨?_, hm⟩
    have hcell : ∀ i, i < n → ∃ z0 z1 z2 : Int, W.cell? (ad.add (i * 3)) = some (.int .i64 z0) ∧ W.cell? (ad.add (i * 3 + 1)) = some (.int .i64 z1) ∧ W.cell? (ad.add (i * 3 + 2)) = some (.int .i64 z2) := fun i hi => by
      obtain ⟨cs', hc, ht⟩ := hel i (by simp at hmm; omega)
      rw [cells3] at hc
      obtain ⟨xs, k', _, _, _, hlen, hfs⟩ := DataW.trod_struct Try.underlying31 ht
      obtain ⟨_, hcl, hat⟩ := World.cells?_some hc
      obtain ⟨v0, v1, v2, rfl⟩ := list3 hcl
      have f0 := hfs 0 _ rfl
      have f1 := hfs 1 _ rfl
      have f2 := hfs 2 _ rfl
      simp [cells_one] at f0 f1 f2
      have hl3 : xs.length = 3 := hlen
      rw [List.getElem?_eq_getElem (by omega)] at f0 f1 f2
      obtain ⟨n0, e0, _, _⟩ := DataW.trod_int Try.underlying2 f0
      obtain ⟨n1, e1, _, _⟩ := DataW.trod_int Try.underlying2 f1
      obtain ⟨n2, e2, _, _⟩ := DataW.trod_int Try.underlying2 f2
      injection e0 with e0; injection e1 with e1; injection e2 with e2
      subst e0 e1 e2
      have g0 := hat (i := 0) (by omega)
      have g1 := hat (i := 1) (by omega)
      have g2 := hat (i := 2) (by omega)
      refine ⟨n0, n1, n2, ?_, ?_, ?_⟩
      · simpa [Addr.add] using g0
      · rw [← Go.Deep.add_add]; exact g1
      · rw [← Go.Deep.add_add]; exact g2
    have hfun : ∃ o a b : Nat → Int, ∀ i, i < n → W.cell? (ad.add (i * 3)) = some (.int .i64 (o i)) ∧ W.cell? (ad.add (i * 3 + 1)) = some (.int .i64 (a i)) ∧ W.cell? (ad.add (i * 3 + 2)) = some (.int .i64 (b i)) := by
      classical
      refine ⟨fun i => if h : i < n then Classical.choose (hcell i h) else 0, fun i => if h : i < n then Classical.choose (Classical.choose_spec (hcell i h)) else 0, fun i => if h : i < n then Classical.choose (Classical.choose_spec (Classical.choose_spec (hcell i h))) else 0, fun i hi => ?_⟩
      simp only [hi, dif_pos]
      exact Classical.choose_spec (Classical.choose_spec (Classical.choose_spec (hcell i hi)))
    obtain ⟨o, a, b, hf⟩ := hfun
    refine ⟨o, a, b, hl, fun hn => ?_⟩
    have h0 := (hf 0 hn).1
    obtain ⟨blk, off, sp⟩ := ad
    have hsp : sp = none := by simpa [Addr.add] using World.cell?_spot h0
    subst hsp
    refine ⟨blk, off, rfl, ?_, fun j hj => ?_⟩
    · have := World.block_lt_of_cell? W _ h0
      simpa [add_lit] using this
    · obtain ⟨s0, s1, s2⟩ := hf j hj
      rw [add_lit] at s0 s1 s2
      exact ⟨s0, by rw [Nat.add_assoc]; exact s1, by rw [Nat.add_assoc]; exact s2⟩
end Go.Proofs.Ytkcccajiplchpaa
