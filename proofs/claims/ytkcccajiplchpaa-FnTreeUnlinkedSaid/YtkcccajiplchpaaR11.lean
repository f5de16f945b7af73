/- Forests in memory: the reference's step that appends, and the one that unlinks. -/
import Derived.Test.YtkcccajiplchpaaR9a
import Derived.Test.YtkcccajiplchpaaRH
import Derived.BigQuiet
import Derived.BigRegion
import Derived.Deep.DeepCutAuto
namespace Go.Proofs.Ytkcccajiplchpaa
open Go.RowKit
set_option linter.unusedVariables false

section
variable {w w' : World} {B fb n : Nat} {U : Nat → Option Nat} {D : Nat → List Nat} {AU : Option Addr} {cU : Nat} {AD : Option Addr} {cD : Nat} {DA : Nat → Option Addr} {Dc : Nat → Nat}
theorem FR.drewN (h : FR w B fb n U D AU cU AD cD DA Dc) (k : Nat) : FR (w.drewN k) B fb n U D AU cU AD cD DA Dc := ⟨h.blk, h.up, h.dn, h.row, h.sep, h.sep2, h.low⟩
theorem FR.drew (h : FR w B fb n U D AU cU AD cD DA Dc) : FR w.drew B fb n U D AU cU AD cD DA Dc := ⟨h.blk, h.up, h.dn, h.row, h.sep, h.sep2, h.low⟩
theorem But.drewN {T : TypeId → Prop} {B : Nat} {a b : World} (h : But T B a b) (k : Nat) : But T B a (b.drewN k) := ⟨h.os, h.tape, h.output, h.size, h.block⟩
end

set_option maxRecDepth 100000 in
set_option maxHeartbeats 8000000 in
theorem fstep3 (w : World) (B fb n : Nat) (U : Nat → Option Nat) (D : Nat → List Nat) (AU : Option Addr) (cU : Nat) (AD : Option Addr) (cD : Nat) (DA : Nat → Option Addr) (Dc : Nat → Nat) (h : FR w B fb n U D AU cU AD cD DA Dc)
    (hU : ∀ i p, i < n → U i = some p → p < n) (hlen : ∀ i, i < n → (D i).length ≤ 1000) (hB : B ≤ w.heap.size) (hn : n ≤ 1000) (x : Nat) (b : Int) (hx : x < n) :
    Calls Try.prog 6 #[.pointer (some ⟨fb, 0, none⟩), .agg #[.int .i64 3, .int .i64 x, .int .i64 b]] w fun e w' => e = .returned (.bool true) ∧ Left w w' B fb n (cutU U x) (cutD U D x) := by
  have h' : FR (w.alloc (.cells #[.int .i64 3, .int .i64 x, .int .i64 b] 33)) B fb n U D AU cU AD cD DA Dc := h.but (But.alloc (fun _ => False) 0 w _) (fun _ h => h.elim)
  have hbt := But.alloc kindF B w (.cells #[.int .i64 3, .int .i64 x, .int .i64 b] 33)
  have hx' : (x : Int) < n := by omega
  have HBT := Lib.hid hbt
  have HF := Lib.hid h'
  have HU := Lib.hid hU
  have HL := Lib.hid hlen
  obtain ⟨c0, c1, f0, f1⟩ := h'.cells
  clear h h' hbt hU hlen
  go_enter Try.func6, Try.ntmps6
  go_wp2_with fail
  go_quiet (fail)
  go_wp2_with fail
  refine (cut_any _ B fb n U D AU cU AD cD DA Dc (HF.out.drewN _) HU.out HL.out (Nat.le_trans hB HBT.out.size) x hx).mono ?_
  rintro e w1 ⟨rfl, hl⟩
  have HC := Lib.hid (And.intro hl.1 ((HBT.out.drewN _).trans hl.2))
  clear hl
  go_wp2
  go_ret
  exact ⟨rfl, HC.out.1, HC.out.2⟩

section
variable {w w1 w2 W1 : World} {B fb n : Nat} {U : Nat → Option Nat} {D : Nat → List Nat} {cU : Nat} {cD : Nat} {DA : Nat → Option Addr} {Dc : Nat → Nat} {A2 : Option Addr} {c2 g gd x y : Nat}
/-- Behind the append of a child, ahead of the stores. -/
theorem push_mid (h : FR w1 B fb n U D (some ⟨g, 0, none⟩) cU (some ⟨gd, 0, none⟩) cD DA Dc) (hx : x < n) (hb : Below w1.heap.size w1 W1) (hg : W1.grownBy w2 ((DA x).map (·.block))) :
    But (· = 3) B w1 w2 ∧ w2.heap[fb]? = some (.cells #[.slice (some ⟨g, 0, none⟩) n cU, .slice (some ⟨gd, 0, none⟩) n cD] 28 (0, 0)) ∧
      w2.ownsRow B 3 1 (.slice (some ⟨g, 0, none⟩) n cU) n ((List.range n).map fun i => .int .i64 (idx (U i))) ∧
      w2.ownsRow B 25 1 (.slice (some ⟨gd, 0, none⟩) n cD) n ((List.range n).map fun i => .slice (DA i) (D i).length (Dc i)) ∧
      ∀ i, i < n → i ≠ x → w2.ownsRow B 3 1 (.slice (DA i) (D i).length (Dc i)) (D i).length ((D i).map fun k : Nat => Value.int .i64 (k : Int)) := by
  have hI : But (· = 3) B w1 w2 := (But.of_below hb).trans (row_but (row_below (h.row x hx) hb) hg rfl (Nat.le_refl _))
  refine ⟨hI, hI.cell h.blk (by decide), (row_below h.up hb).kept hg ?_, row_kept h.dn hI (by decide), fun i hi hix => (row_below (h.row i hi) hb).kept hg ?_⟩
  · right; intro eq
    exact h.sep x g hx (by rw [← eq]; rfl) rfl
  · rcases hd : DA i with _ | d
    · exact .inl rfl
    · right; intro eq
      exact h.sep2 i x d.block hi hx hix (by rw [hd]; rfl) (by rw [← eq]; rfl)
theorem push_forest (h : FR w1 B fb n U D (some ⟨g, 0, none⟩) cU (some ⟨gd, 0, none⟩) cD DA Dc) (hx : x < n) (hb : Below w1.heap.size w1 W1)
    (ho : w2.ownsRow B 3 1 (.slice A2 ((D x).length + 1) c2) ((D x).length + 1) (((D x).map fun k : Nat => Value.int .i64 (k : Int)) ++ [.int .i64 (y : Int)])) (hg : W1.grownBy w2 ((DA x).map (·.block)))
    (hat : ∀ g, A2.map (·.block) = some g → (DA x).map (·.block) = some g ∨ W1.heap.size ≤ g) :
    FR ((w2.setCell ⟨g, y, none⟩ (.int .i64 (x : Int))).setCell ⟨gd, x, none⟩ (.slice A2 ((D x).length + 1) c2)) B fb n (addU U x y) (pushD D x y) (some ⟨g, 0, none⟩) cU (some ⟨gd, 0, none⟩) cD (fun i => if i = x then A2 else DA i) (fun i => if i = x then c2 else Dc i) ∧
      But kindF B w1 ((w2.setCell ⟨g, y, none⟩ (.int .i64 (x : Int))).setCell ⟨gd, x, none⟩ (.slice A2 ((D x).length + 1) c2)) := by
  obtain ⟨hI, hblk, hup, hdn, hrow⟩ := push_mid h hx hb hg
  have hs1 := hup.stored y (.int .i64 (idx (some x)))
  have hb1 := row_set (j := y) hup (.int .i64 (idx (some x)))
  have hdn1 := row_kept hdn hb1 (by decide)
  have hs2 := hdn1.stored x (.slice A2 ((D x).length + 1) c2)
  have hb2 := row_set (j := x) hdn1 (.slice A2 ((D x).length + 1) c2)
  have hsepA : ∀ g', A2.map (·.block) = some g' → g' ≠ g := fun g' hg' e => by
    subst e
    rcases hat g' hg' with h1 | h1
    · exact h.sep x g' hx h1 rfl
    · have := row_lt h.up g' rfl
      have := hb.size
      omega
  have keep1 : ∀ {A : Option Addr} {c : Nat} {l : List Nat}, w2.ownsRow B 3 1 (.slice A l.length c) l.length (l.map fun k : Nat => Value.int .i64 (k : Int)) → (∀ g', A.map (·.block) = some g' → g' ≠ g) →
      ((w2.setCell ⟨g, y, none⟩ (.int .i64 (x : Int))).setCell ⟨gd, x, none⟩ (.slice A2 ((D x).length + 1) c2)).ownsRow B 3 1 (.slice A l.length c) l.length (l.map fun k : Nat => Value.int .i64 (k : Int)) := fun {A c l} hr hne => by
    refine row_kept (hr.kept hs1.2 ?_) hb2 (by decide)
    cases A with
    | none => exact .inl rfl
    | some d =>
      right; intro eq
      exact hne d.block rfl (by simpa [Value.ownBlock] using eq)
  refine ⟨⟨hb2.cell (hb1.cell hblk (by decide)) (by decide), ?_, ?_, fun i hi => ?_, fun i g' hi e => ?_, fun i j g' hi hj hij e => ?_, h.low⟩,
    (hI.mono (fun e he => .inl he) (Nat.le_refl _)).trans ((hb1.mono (fun e he => .inl he) (Nat.le_refl _)).trans (hb2.mono (fun e he => .inr (.inl he)) (Nat.le_refl _)))⟩
  · have := row_kept hs1.1 hb2 (by decide)
    rw [set_map] at this
    have e : ((List.range n).map fun k => if k = y then Value.int .i64 (idx (some x)) else Value.int .i64 (idx (U k))) = (List.range n).map fun k => .int .i64 (idx (addU U x y k)) := List.map_congr_left fun k _ => by unfold addU; split <;> rfl
    rw [e] at this
    exact this
  · have := hs2.1
    rw [set_map] at this
    have e : ((List.range n).map fun k => if k = x then Value.slice A2 ((D x).length + 1) c2 else Value.slice (DA k) (D k).length (Dc k)) = (List.range n).map fun k => .slice (if k = x then A2 else DA k) (pushD D x y k).length (if k = x then c2 else Dc k) := List.map_congr_left fun k _ => by
      unfold pushD
      by_cases ek : k = x
      · subst ek; simp
      · simp [ek]
    rw [e] at this
    exact this
  · by_cases e : i = x
    · subst e
      have hp : pushD D i y i = D i ++ [y] := by unfold pushD; rw [if_pos rfl]
      simp only [if_true, hp]
      refine keep1 ?_ hsepA
      rw [List.length_append, List.map_append]
      exact ho
    · have hp : pushD D x y i = D i := by unfold pushD; rw [if_neg e]
      simp only [e, if_false, hp]
      exact keep1 (hrow i hi e) (fun g' hg' e' => by subst e'; exact h.sep i g' hi hg' rfl)
  · by_cases e' : i = x
    · subst e'
      simp only [if_true] at e
      intro eq
      injection eq with eq
      exact hsepA g' e eq.symm
    · simp only [e', if_false] at e
      exact h.sep i g' hi e
  · by_cases e1 : i = x
    · subst e1
      simp only [if_true] at e
      simp only [Ne.symm hij, if_false]
      intro eq
      rcases hat g' e with h1 | h1
      · exact h.sep2 i j g' hi hj hij h1 eq
      · have := row_lt (h.row j hj) g' eq
        have := hb.size
        omega
    · simp only [e1, if_false] at e
      by_cases e2 : j = x
      · subst e2; simp only [if_true]
        intro eq
        rcases hat g' eq with h1 | h1
        · exact h.sep2 i j g' hi hj hij e h1
        · have := row_lt (h.row i hi) g' e
          have := hb.size
          omega
      · simp only [e2, if_false]; exact h.sep2 i j g' hi hj hij e
end

theorem cell_far {w : World} {b k c j : Nat} {v u : Value} (h : b ≠ c) (hc : w.cell? ⟨c, j, none⟩ = some u) : (w.setCell ⟨b, k, none⟩ v).cell? ⟨c, j, none⟩ = some u :=
  (World.cell?_of_block (heap_set_ne k v h)).trans hc
theorem FR.apart {w : World} {B fb n : Nat} {U : Nat → Option Nat} {D : Nat → List Nat} {cU : Nat} {cD : Nat} {DA : Nat → Option Addr} {Dc : Nat → Nat} {g gd : Nat} (h : FR w B fb n U D (some ⟨g, 0, none⟩) cU (some ⟨gd, 0, none⟩) cD DA Dc) : g ≠ gd ∧ g ≠ fb ∧ gd ≠ fb := by
  obtain ⟨c1, h1, _⟩ := row_blk h.up
  obtain ⟨c2, h2, _⟩ := row_blk h.dn
  refine ⟨fun e => ?_, fun e => ?_, fun e => ?_⟩
  · subst e; rw [h1] at h2; injection h2 with h2; injection h2 with h2 h3; exact absurd h3 (by decide)
  · subst e; rw [h.blk] at h1; injection h1 with h1; injection h1 with h1 h3; exact absurd h3 (by decide)
  · subst e; rw [h.blk] at h2; injection h2 with h2; injection h2 with h2 h3; exact absurd h3 (by decide)
set_option maxRecDepth 100000 in
set_option maxHeartbeats 8000000 in
theorem fstep1 (w : World) (B fb n : Nat) (U : Nat → Option Nat) (D : Nat → List Nat) (AU : Option Addr) (cU : Nat) (AD : Option Addr) (cD : Nat) (DA : Nat → Option Addr) (Dc : Nat → Nat) (h : FR w B fb n U D AU cU AD cD DA Dc)
    (hU : ∀ i p, i < n → U i = some p → p < n) (r : Nat → Nat) (hr : Rank n U r) (hlen : ∀ i, i < n → (D i).length ≤ 1000) (hB : B ≤ w.heap.size) (hn : n ≤ 1000) (x y : Nat) (hx : x < n) (hy : y < n) :
    Calls Try.prog 6 #[.pointer (some ⟨fb, 0, none⟩), .agg #[.int .i64 1, .int .i64 x, .int .i64 y]] w fun e w' =>
      BoolT (¬ Und U x y ∧ ∃ AU cU AD cD DA Dc, FR w' B fb n (addU (cutU U y) x y) (pushD (cutD U D y) x y) AU cU AD cD DA Dc) e ∧ But kindF B w w' := by
  have h' : FR (w.alloc (.cells #[.int .i64 1, .int .i64 x, .int .i64 y] 33)) B fb n U D AU cU AD cD DA Dc := h.but (But.alloc (fun _ => False) 0 w _) (fun _ h => h.elim)
  have hbt := But.alloc kindF B w (.cells #[.int .i64 1, .int .i64 x, .int .i64 y] 33)
  have hx' : (x : Int) < n := by omega
  have hy' : (y : Int) < n := by omega
  have HBT := Lib.hid hbt
  have HF := Lib.hid h'
  have HU := Lib.hid hU
  have HR := Lib.hid hr
  have HL := Lib.hid hlen
  obtain ⟨c0, c1, f0, f1⟩ := h'.cells
  clear h h' hbt hU hlen hr
  go_enter Try.func6, Try.ntmps6
  go_wp2_with fail
  go_quiet (fail)
  go_wp2_with fail
  refine (under_any _ B fb n U D AU cU AD cD DA Dc (HF.out.drewN _) r HR.out HU.out x y hx hy).mono ?_
  rintro e w1 ⟨⟨ok, rfl, hund⟩, rfl⟩
  have HUN := Lib.hid hund
  clear hund
  cases ok with
  | true =>
    go_wp2
    go_ret
    exact ⟨⟨false, rfl, fun h => by cases h⟩, HBT.out.drewN _⟩
  | false =>
    go_wp2_with fail
    refine (cut_any _ B fb n U D AU cU AD cD DA Dc (HF.out.drewN _) HU.out HL.out (Nat.le_trans hB HBT.out.size) y hy).mono ?_
    rintro e w1 ⟨rfl, ⟨AU1, cU1, AD1, cD1, DA1, Dc1, hF1⟩, hb1⟩
    have HBT1 := Lib.hid ((HBT.out.drewN nq).trans hb1)
    obtain ⟨g, rfl, hnc, cy, fy⟩ := hF1.upAt hy
    obtain ⟨gd, rfl, hnd, cx, fx⟩ := hF1.dnAt hx
    clear c0 c1 f0 f1
    obtain ⟨c0, c1, f0, f1⟩ := hF1.cells
    have hsz1 : B ≤ w1.heap.size := Nat.le_trans hB HBT1.out.size
    have hlx : (cutD U D y x).length ≤ 1000 := by
      have := HL.out x hx
      unfold cutD
      split
      · exact Nat.le_trans (List.length_filter_le _ _) this
      · exact this
    have HF1 := Lib.hid hF1
    obtain ⟨i0, hi0, hz0, hz1, hz2⟩ := info_parts Try.infoI
    clear hF1 hb1
    go_upto_region 15 with fail
    have hap := HF1.out.apart
    have hap1 : g ≠ gd := hap.1
    have n0 : ∀ o, (w1.alloc o).cell? ⟨fb, 0, none⟩ = some (.slice (some ⟨g, 0, none⟩) n cU1) := fun o => (World.cell?_alloc_lt _ _ _ (World.block_lt_of_cell? w1 ⟨fb, 0, none⟩ c0)).trans c0
    have n1 : ∀ o, (w1.alloc o).cell? ⟨fb, 1, none⟩ = some (.slice (some ⟨gd, 0, none⟩) n cD1) := fun o => (World.cell?_alloc_lt _ _ _ (World.block_lt_of_cell? w1 ⟨fb, 1, none⟩ c1)).trans c1
    have n2 : ∀ o, (w1.alloc o).cell? ⟨gd, x, none⟩ = some (.slice (DA1 x) (cutD U D y x).length (Dc1 x)) := fun o => (World.cell?_alloc_lt _ _ _ (World.block_lt_of_cell? w1 ⟨gd, x, none⟩ cx)).trans cx
    generalize hdx : cutD U D y x = dx at *
    have HDX := Lib.hid hdx
    clear hdx
    refine wp_region_heads (a' := ?A) (S := fun w' => w'.cell? ⟨fb, 0, none⟩ = some (.slice (some ⟨g, 0, none⟩) n cU1) ∧ w'.cell? ⟨fb, 1, none⟩ = some (.slice (some ⟨gd, 0, none⟩) n cD1) ∧ w'.cell? ⟨gd, x, none⟩ = some (.slice (DA1 x) dx.length (Dc1 x)))
      (late := fun j => decide (21 ≤ j) && decide (j < 25)) [(0, false), (1, false), (2, false), (3, true), (4, false), (5, false), (6, false), (7, false), (8, true), (9, false), (10, false), (11, false), (12, false), (13, false), (14, true), (15, false), (16, false), (17, true), (18, false)] 6 (by kernel_rfl) (fun _ _ _ _ h => h) (by kernel_rfl) ⟨c0, c1, cx⟩ ?hh ?rest
    case hh =>
      refine Heads.cons _ _ _ _ ?_ _ _ (at_zero) (Or.inl ⟨by rfl, ?_⟩) ?_
      rotate_left 1
      · intro w _
        go_simp
        try with_reducible rfl
      simp only [Act.put, List.setIfInBounds_toArray, List.set_cons_zero, List.set_cons_succ]
      refine Heads.cons _ _ _ _ ?_ _ _ (at_succ at_zero) (Or.inl ⟨by rfl, ?_⟩) ?_
      rotate_left 1
      · intro w _
        go_simp
        try with_reducible rfl
      simp only [Act.put, List.setIfInBounds_toArray, List.set_cons_zero, List.set_cons_succ]
      refine Heads.cons _ _ _ _ ?_ _ _ (at_succ (at_succ at_zero)) (Or.inl ⟨by rfl, ?_⟩) ?_
      rotate_left 1
      · intro w _
        go_simp
        try with_reducible rfl
      simp only [Act.put, List.setIfInBounds_toArray, List.set_cons_zero, List.set_cons_succ]
      refine Heads.cons _ _ _ _ ?_ _ _ (at_succ (at_succ (at_succ at_zero))) (Or.inl ⟨by rfl, ?_⟩) ?_
      rotate_left 1
      · intro w hS; obtain ⟨hS0, hS1, hS2⟩ := hS rfl
        go_simp
        try with_reducible rfl
      simp only [Act.put, List.setIfInBounds_toArray, List.set_cons_zero, List.set_cons_succ]
      refine Heads.cons _ _ _ _ ?_ _ _ (at_succ (at_succ (at_succ (at_succ at_zero)))) (Or.inl ⟨by rfl, ?_⟩) ?_
      rotate_left 1
      · intro w _
        go_simp
        try with_reducible rfl
      simp only [Act.put, List.setIfInBounds_toArray, List.set_cons_zero, List.set_cons_succ]
      refine Heads.cons _ _ _ _ ?_ _ _ (at_succ (at_succ (at_succ (at_succ (at_succ at_zero))))) (Or.inl ⟨by rfl, ?_⟩) ?_
      rotate_left 1
      · intro w _
        go_simp
        try with_reducible rfl
      simp only [Act.put, List.setIfInBounds_toArray, List.set_cons_zero, List.set_cons_succ]
      refine Heads.cons _ _ _ _ ?_ _ _ (at_succ (at_succ (at_succ (at_succ (at_succ (at_succ at_zero)))))) (Or.inl ⟨by rfl, ?_⟩) ?_
      rotate_left 1
      · intro w _
        go_simp
        try with_reducible rfl
      simp only [Act.put, List.setIfInBounds_toArray, List.set_cons_zero, List.set_cons_succ]
      refine Heads.cons _ _ _ _ ?_ _ _ (at_succ (at_succ (at_succ (at_succ (at_succ (at_succ (at_succ at_zero))))))) (Or.inl ⟨by rfl, ?_⟩) ?_
      rotate_left 1
      · intro w _
        go_simp
        try with_reducible rfl
      simp only [Act.put, List.setIfInBounds_toArray, List.set_cons_zero, List.set_cons_succ]
      refine Heads.cons _ _ _ _ ?_ _ _ (at_succ (at_succ (at_succ (at_succ (at_succ (at_succ (at_succ (at_succ at_zero)))))))) (Or.inl ⟨by rfl, ?_⟩) ?_
      rotate_left 1
      · intro w hS; obtain ⟨hS0, hS1, hS2⟩ := hS rfl
        go_simp
        try with_reducible rfl
      simp only [Act.put, List.setIfInBounds_toArray, List.set_cons_zero, List.set_cons_succ]
      refine Heads.cons _ _ _ _ ?_ _ _ (at_succ (at_succ (at_succ (at_succ (at_succ (at_succ (at_succ (at_succ (at_succ at_zero))))))))) (Or.inl ⟨by rfl, ?_⟩) ?_
      rotate_left 1
      · intro w _
        go_simp
        try with_reducible rfl
      simp only [Act.put, List.setIfInBounds_toArray, List.set_cons_zero, List.set_cons_succ]
      refine Heads.cons _ _ _ _ ?_ _ _ (at_succ (at_succ (at_succ (at_succ (at_succ (at_succ (at_succ (at_succ (at_succ (at_succ at_zero)))))))))) (Or.inl ⟨by rfl, ?_⟩) ?_
      rotate_left 1
      · intro w _
        go_simp
        try with_reducible rfl
      simp only [Act.put, List.setIfInBounds_toArray, List.set_cons_zero, List.set_cons_succ]
      refine Heads.cons _ _ _ _ ?_ _ _ (at_succ (at_succ (at_succ (at_succ (at_succ (at_succ (at_succ (at_succ (at_succ (at_succ (at_succ at_zero))))))))))) (Or.inl ⟨by rfl, ?_⟩) ?_
      rotate_left 1
      · intro w _
        go_simp
        try with_reducible rfl
      simp only [Act.put, List.setIfInBounds_toArray, List.set_cons_zero, List.set_cons_succ]
      refine Heads.cons _ _ _ _ ?_ _ _ (at_succ (at_succ (at_succ (at_succ (at_succ (at_succ (at_succ (at_succ (at_succ (at_succ (at_succ (at_succ at_zero)))))))))))) (Or.inl ⟨by rfl, ?_⟩) ?_
      rotate_left 1
      · intro w _
        go_simp
        try with_reducible rfl
      simp only [Act.put, List.setIfInBounds_toArray, List.set_cons_zero, List.set_cons_succ]
      refine Heads.cons _ _ _ _ ?_ _ _ (at_succ (at_succ (at_succ (at_succ (at_succ (at_succ (at_succ (at_succ (at_succ (at_succ (at_succ (at_succ (at_succ at_zero))))))))))))) (Or.inl ⟨by rfl, ?_⟩) ?_
      rotate_left 1
      · intro w _
        go_simp
        try with_reducible rfl
      simp only [Act.put, List.setIfInBounds_toArray, List.set_cons_zero, List.set_cons_succ]
      refine Heads.cons _ _ _ _ ?_ _ _ (at_succ (at_succ (at_succ (at_succ (at_succ (at_succ (at_succ (at_succ (at_succ (at_succ (at_succ (at_succ (at_succ (at_succ at_zero)))))))))))))) (Or.inl ⟨by rfl, ?_⟩) ?_
      rotate_left 1
      · intro w hS; obtain ⟨hS0, hS1, hS2⟩ := hS rfl
        go_simp
        try with_reducible rfl
      simp only [Act.put, List.setIfInBounds_toArray, List.set_cons_zero, List.set_cons_succ]
      refine Heads.cons _ _ _ _ ?_ _ _ (at_succ (at_succ (at_succ (at_succ (at_succ (at_succ (at_succ (at_succ (at_succ (at_succ (at_succ (at_succ (at_succ (at_succ (at_succ at_zero))))))))))))))) (Or.inl ⟨by rfl, ?_⟩) ?_
      rotate_left 1
      · intro w _
        go_simp
        try with_reducible rfl
      simp only [Act.put, List.setIfInBounds_toArray, List.set_cons_zero, List.set_cons_succ]
      refine Heads.cons _ _ _ _ ?_ _ _ (at_succ (at_succ (at_succ (at_succ (at_succ (at_succ (at_succ (at_succ (at_succ (at_succ (at_succ (at_succ (at_succ (at_succ (at_succ (at_succ at_zero)))))))))))))))) (Or.inl ⟨by rfl, ?_⟩) ?_
      rotate_left 1
      · intro w _
        go_simp
        try with_reducible rfl
      simp only [Act.put, List.setIfInBounds_toArray, List.set_cons_zero, List.set_cons_succ]
      refine Heads.cons _ _ _ _ ?_ _ _ (at_succ (at_succ (at_succ (at_succ (at_succ (at_succ (at_succ (at_succ (at_succ (at_succ (at_succ (at_succ (at_succ (at_succ (at_succ (at_succ (at_succ at_zero))))))))))))))))) (Or.inl ⟨by rfl, ?_⟩) ?_
      rotate_left 1
      · intro w hS; obtain ⟨hS0, hS1, hS2⟩ := hS rfl
        go_simp
        try with_reducible rfl
      simp only [Act.put, List.setIfInBounds_toArray, List.set_cons_zero, List.set_cons_succ]
      refine Heads.cons _ _ _ _ ?_ _ _ (at_succ (at_succ (at_succ (at_succ (at_succ (at_succ (at_succ (at_succ (at_succ (at_succ (at_succ (at_succ (at_succ (at_succ (at_succ (at_succ (at_succ (at_succ at_zero)))))))))))))))))) (Or.inl ⟨by rfl, ?_⟩) ?_
      rotate_left 1
      · intro w _
        go_simp
        try with_reducible rfl
      simp only [Act.put, List.setIfInBounds_toArray, List.set_cons_zero, List.set_cons_succ]
      exact Heads.nil _
    case rest =>
      refine wpE_one (i := 19) (by kernel_rfl) (at_succ (at_succ (at_succ (at_succ (at_succ (at_succ (at_succ (at_succ (at_succ (at_succ (at_succ (at_succ (at_succ (at_succ (at_succ (at_succ (at_succ (at_succ (at_succ at_zero))))))))))))))))))) rfl (fun K hK => ?_)
      go_simp
      refine hK _ _ ⟨n0 _, n1 _, n2 _⟩ ?_
      clear hK K
      refine wpE_one (i := 20) (by kernel_rfl) (at_succ (at_succ (at_succ (at_succ (at_succ (at_succ (at_succ (at_succ (at_succ (at_succ (at_succ (at_succ (at_succ (at_succ (at_succ (at_succ (at_succ (at_succ (at_succ (at_succ at_zero)))))))))))))))))))) rfl (fun K hK => ?_)
      refine wp_appG (.tmp 113) (.tmp 115) 25 rfl B 3 i0 (.int .i64 0) 8 Try.underlying25 hi0 hz0 hz1 hz2 rfl _ (DA1 x) dx.length (Dc1 x) (dx.map fun k : Nat => Value.int .i64 (k : Int)) (.int .i64 (y : Int)) _ (by have := (HF1.out.row x hx).alloc (.cells #[.int .i64 (y : Int)] 3); rw [HDX.out] at this; exact this) rfl (by simp [go_sem]) rfl rfl (by omega) (by omega) (by simp; omega) ?_
      intro A2 c2 w2 hown2 hg2 hat2
      obtain ⟨-, hblk2, hup2, hdn2, -⟩ := push_mid HF1.out hx ((Below.refl _ _).drew.alloc (Nat.le_refl _) _) hg2
      have e0 : w2.cell? ⟨fb, 0, none⟩ = some (.slice (some ⟨g, 0, none⟩) n cU1) := by rw [cell_of_row w2 _ 0 _ _ _ hblk2]; rfl
      have e1 : w2.cell? ⟨fb, 1, none⟩ = some (.slice (some ⟨gd, 0, none⟩) n cD1) := by rw [cell_of_row w2 _ 1 _ _ _ hblk2]; rfl
      have ey : w2.cell? ⟨g, y, none⟩ = some (.int .i64 (idx (cutU U y y))) := by rw [hup2.cellAt y (by omega)]; simp [hy]
      have ex : w2.cell? ⟨gd, x, none⟩ = some (.slice (DA1 x) (cutD U D y x).length (Dc1 x)) := by rw [hdn2.cellAt x (by omega)]; simp [hx]
      have fy2 := hup2.frozenAt y
      have fx2 := hdn2.frozenAt x
      rw [HDX.out] at ex
      have HO2 := Lib.hid hown2
      have HG2 := Lib.hid hg2
      have HA2 := Lib.hid hat2
      clear hown2 hg2 hat2 hup2 hdn2 hblk2
      refine hK _ _ ⟨e0, e1, ex⟩ ?_
      clear hK K
      refine wpE_drop (k := 21) rfl (by kernel_rfl) ?_
      simp only [List.drop_succ_cons, List.drop_zero]
      have edx := HDX.out
      subst edx
      have HP := Lib.hid (push_forest HF1.out hx ((Below.refl _ _).drew.alloc (Nat.le_refl _) _) HO2.out HG2.out HA2.out)
      clear HO2 HG2 HA2
      go_frame
      go_wp2
      go_ret
      exact ⟨⟨true, rfl, fun _ => ⟨HUN.out (by trivial), _, _, _, _, _, _, HP.out.1⟩⟩, HBT1.out.trans HP.out.2⟩
end Go.Proofs.Ytkcccajiplchpaa
