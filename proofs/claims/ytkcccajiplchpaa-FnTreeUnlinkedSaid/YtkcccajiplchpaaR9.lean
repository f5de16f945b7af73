/- Forests in memory: a step of the reference. -/
import Derived.Test.YtkcccajiplchpaaR9a
import Derived.Test.YtkcccajiplchpaaRH
import Derived.BigQuiet
import Derived.BigRegion
import Derived.Deep.DeepCutAuto
namespace Go.Proofs.Ytkcccajiplchpaa
open Go.RowKit
set_option linter.unusedVariables false

theorem Try.infoIs : (Try.prog.info? 25).map (fun i => (i.zero, i.size, i.bytes)) = some (some (.slice none 0 0), 1, 24) := by kernel_rfl
/-- The parents' row with one more. -/
def UpDone (w w2 : World) (B : Nat) (AU A2 : Option Addr) (n c2 : Nat) (xs : List Value) : Prop :=
  ∃ W1 : World, Below w.heap.size w W1 ∧ w2.ownsRow B 3 1 (.slice A2 (n + 1) c2) (n + 1) (xs ++ [.int .i64 (-1)]) ∧ W1.grownBy w2 (AU.map (·.block)) ∧ ∀ g, A2.map (·.block) = some g → AU.map (·.block) = some g ∨ W1.heap.size ≤ g
def DnDone (w2 w4 : World) (B : Nat) (AD A4 : Option Addr) (n c4 : Nat) (xs : List Value) : Prop :=
  ∃ W3 : World, Below w2.heap.size w2 W3 ∧ w4.ownsRow B 25 1 (.slice A4 (n + 1) c4) (n + 1) (xs ++ [.slice none 0 0]) ∧ W3.grownBy w4 (AD.map (·.block))
section
variable {w w2 w4 : World} {B fb n : Nat} {U : Nat → Option Nat} {D : Nat → List Nat} {AU : Option Addr} {cU : Nat} {AD : Option Addr} {cD : Nat} {DA : Nat → Option Addr} {Dc : Nat → Nat} {A2 A4 : Option Addr} {c2 c4 : Nat}
theorem up_but (h : FR w B fb n U D AU cU AD cD DA Dc) {xs : List Value} (h2 : UpDone w w2 B AU A2 n c2 xs) : But (· = 3) B w w2 := by
  obtain ⟨W1, hb, _, hg, _⟩ := h2
  exact (But.of_below hb).trans (row_but (row_below h.up hb) hg rfl (Nat.le_refl _))
theorem up_facts (h : FR w B fb n U D AU cU AD cD DA Dc) {xs : List Value} (h2 : UpDone w w2 B AU A2 n c2 xs) :
    w2.ownsRow B 25 1 (.slice AD n cD) n ((List.range n).map fun i => .slice (DA i) (D i).length (Dc i)) ∧ w2.heap[fb]? = some (.cells #[.slice AU n cU, .slice AD n cD] 28 (0, 0)) ∧ w.heap.size ≤ w2.heap.size :=
  ⟨row_kept h.dn (up_but h h2) (by decide), (up_but h h2).cell h.blk (by decide), (up_but h h2).size⟩
theorem dn_facts (h : FR w B fb n U D AU cU AD cD DA Dc) {xs ys : List Value} (h2 : UpDone w w2 B AU A2 n c2 xs) (h4 : DnDone w2 w4 B AD A4 n c4 ys) :
    But (fun e => e = 3 ∨ e = 25) B w w4 ∧ w4.ownsRow B 3 1 (.slice A2 (n + 1) c2) (n + 1) (xs ++ [.int .i64 (-1)]) ∧ (∀ i, i < n → w4.ownsRow B 3 1 (.slice (DA i) (D i).length (Dc i)) (D i).length ((D i).map fun k : Nat => Value.int .i64 (k : Int))) ∧
      w4.heap[fb]? = some (.cells #[.slice AU n cU, .slice AD n cD] 28 (0, 0)) := by
  have hU := up_but h h2
  obtain ⟨hdn, hblk, _⟩ := up_facts h h2
  obtain ⟨W1, hb1, ho2, hg2, _⟩ := h2
  obtain ⟨W3, hb, ho, hg⟩ := h4
  have hD : But (· = 25) B w2 w4 := (But.of_below hb).trans (row_but (row_below hdn hb) hg rfl (Nat.le_refl _))
  refine ⟨(hU.mono (fun e h => .inl h) (Nat.le_refl _)).trans (hD.mono (fun e h => .inr h) (Nat.le_refl _)), row_kept ho2 hD (by decide), fun i hi => ?_, hD.cell hblk (by decide)⟩
  refine row_kept ?_ hD (by decide)
  refine (row_below (h.row i hi) hb1).kept hg2 ?_
  rcases hd : DA i with _ | d
  · exact .inl rfl
  · right
    intro eq
    exact h.sep i d.block hi (by rw [hd]; rfl) (by simpa [Value.ownBlock] using eq.symm)
theorem new_forest (h : FR w B fb n U D AU cU AD cD DA Dc) (h2 : UpDone w w2 B AU A2 n c2 ((List.range n).map fun i => .int .i64 (idx (U i)))) (h4 : DnDone w2 w4 B AD A4 n c4 ((List.range n).map fun i => .slice (DA i) (D i).length (Dc i))) :
    Left w ((w4.setCell ⟨fb, 0, none⟩ (.slice A2 (n + 1) c2)).setCell ⟨fb, 1, none⟩ (.slice A4 (n + 1) c4)) B fb (n + 1) (fun i => if i = n then none else U i) (fun i => if i = n then [] else D i) := by
  obtain ⟨hB, hu, hr, hblk⟩ := dn_facts h h2 h4
  obtain ⟨W1, hb1, _, hg2, hat⟩ := h2
  obtain ⟨W3, hb, ho, hg⟩ := h4
  have s1 : But (· = 28) B w4 (w4.setCell ⟨fb, 0, none⟩ (.slice A2 (n + 1) c2)) := But.setCell (T := (· = 28)) hblk rfl h.low _
  have hblk1 := heap_set_same 0 (.slice A2 (n + 1) c2) hblk
  have s2 : But (· = 28) B (w4.setCell ⟨fb, 0, none⟩ (.slice A2 (n + 1) c2)) ((w4.setCell ⟨fb, 0, none⟩ (.slice A2 (n + 1) c2)).setCell ⟨fb, 1, none⟩ (.slice A4 (n + 1) c4)) := But.setCell (T := (· = 28)) hblk1 rfl h.low _
  have hblk2 := heap_set_same 1 (.slice A4 (n + 1) c4) hblk1
  have s := s1.trans s2
  refine ⟨⟨A2, c2, A4, c4, fun i => if i = n then none else DA i, fun i => if i = n then 0 else Dc i, ?_⟩, (hB.mono (fun e he => he.elim .inl (fun he => .inr (.inl he))) (Nat.le_refl _)).trans (s.mono (fun e he => .inr (.inr he)) (Nat.le_refl _))⟩
  refine ⟨by rw [hblk2]; rfl, ?_, ?_, fun i hi => ?_, fun i g hi e => ?_, fun i j g hi hj hij e => ?_, h.low⟩
  · have e : ((List.range (n + 1)).map fun i => Value.int .i64 (idx (if i = n then none else U i))) = ((List.range n).map fun i => .int .i64 (idx (U i))) ++ [.int .i64 (-1)] := by
      rw [List.range_succ, List.map_append]
      congr 1
      · exact List.map_congr_left fun i hi => by rw [if_neg (by have := List.mem_range.1 hi; omega)]
      · simp [idx]
    rw [e]
    exact row_kept hu s (by decide)
  · have e : ((List.range (n + 1)).map fun i => Value.slice (if i = n then none else DA i) (if i = n then [] else D i).length (if i = n then 0 else Dc i)) = ((List.range n).map fun i => .slice (DA i) (D i).length (Dc i)) ++ [.slice none 0 0] := by
      rw [List.range_succ, List.map_append]
      congr 1
      · exact List.map_congr_left fun i hi => by have := List.mem_range.1 hi; rw [if_neg (by omega), if_neg (by omega), if_neg (by omega)]
      · simp
    rw [e]
    exact row_kept ho s (by decide)
  · by_cases e : i = n
    · subst e; simp only [if_true]; exact World.ownsRow_nil _ _ _ _
    · simp only [e, if_false]; exact row_kept (hr i (by omega)) s (by decide)
  · by_cases e' : i = n
    · subst e'; simp at e
    · simp only [e', if_false] at e
      intro eq
      rcases hat g eq with h1 | h1
      · exact h.sep i g (by omega) e h1
      · have := row_lt (h.row i (by omega)) g e
        have := hb1.size
        omega
  · by_cases e1 : i = n
    · subst e1; simp at e
    · simp only [e1, if_false] at e
      by_cases e2 : j = n
      · subst e2; simp
      · simp only [e2, if_false]; exact h.sep2 i j g (by omega) (by omega) hij e
end
set_option maxRecDepth 100000 in
set_option maxHeartbeats 8000000 in
theorem fstep0 (w : World) (B fb n : Nat) (U : Nat → Option Nat) (D : Nat → List Nat) (AU : Option Addr) (cU : Nat) (AD : Option Addr) (cD : Nat) (DA : Nat → Option Addr) (Dc : Nat → Nat) (h : FR w B fb n U D AU cU AD cD DA Dc)
    (hB : B ≤ w.heap.size) (hn : n ≤ 1000) (a b : Int) (h0 : 0 ≤ a) (h1 : a < 24) :
    Calls Try.prog 6 #[.pointer (some ⟨fb, 0, none⟩), .agg #[.int .i64 0, .int .i64 a, .int .i64 b]] w fun e w' => e = .returned (.bool true) ∧ Left w w' B fb (n + 1) (fun i => if i = n then none else U i) (fun i => if i = n then [] else D i) := by
  have h' : FR (w.alloc (.cells #[.int .i64 0, .int .i64 a, .int .i64 b] 33)) B fb n U D AU cU AD cD DA Dc := h.but (But.alloc (fun _ => False) 0 w _) (fun _ h => h.elim)
  have hbt := But.alloc kindF B w (.cells #[.int .i64 0, .int .i64 a, .int .i64 b] 33)
  have hB' : B ≤ (w.alloc (.cells #[.int .i64 0, .int .i64 a, .int .i64 b] 33)).heap.size := by simp; omega
  obtain ⟨i0, hi0, hz0, hz1, hz2⟩ := info_parts Try.infoI
  obtain ⟨i1, hi1, hy0, hy1, hy2⟩ := info_parts Try.infoIs
  have HBT := Lib.hid hbt
  have HF := Lib.hid h'
  obtain ⟨c0, c1, f0, f1⟩ := h'.cells
  clear h h' hbt
  go_enter Try.func6, Try.ntmps6
  go_upto_region 4 with fail
  generalize w.alloc (.cells #[.int .i64 0, .int .i64 a, .int .i64 b] 33) = w0 at *
  go_cut [] (fun wx => Hid (Left w0 wx B fb (n + 1) (fun i => if i = n then none else U i) (fun i => if i = n then [] else D i)))
  case first =>
    have n0 : ∀ o, (w0.alloc o).cell? ⟨fb, 0, none⟩ = some (.slice AU n cU) := fun o => (World.cell?_alloc_lt _ _ _ (World.block_lt_of_cell? w0 ⟨fb, 0, none⟩ c0)).trans c0
    have n1 : ∀ o, (w0.alloc o).cell? ⟨fb, 1, none⟩ = some (.slice AD n cD) := fun o => (World.cell?_alloc_lt _ _ _ (World.block_lt_of_cell? w0 ⟨fb, 1, none⟩ c1)).trans c1
    have n2 : ∀ o o', ((w0.alloc o).alloc o').cell? ⟨fb, 0, none⟩ = some (.slice AU n cU) := fun o o' => (World.cell?_alloc_lt _ _ _ (World.block_lt_of_cell? _ ⟨fb, 0, none⟩ (n0 o))).trans (n0 o)
    have n3 : ∀ o o', ((w0.alloc o).alloc o').cell? ⟨fb, 1, none⟩ = some (.slice AD n cD) := fun o o' => (World.cell?_alloc_lt _ _ _ (World.block_lt_of_cell? _ ⟨fb, 1, none⟩ (n1 o))).trans (n1 o)
    refine wp_region_heads (a' := ?Af) (S := fun w' => w'.cell? ⟨fb, 0, none⟩ = some (.slice AU n cU) ∧ w'.cell? ⟨fb, 1, none⟩ = some (.slice AD n cD))
      (late := fun j => decide (14 ≤ j) && decide (j < 20)) [(0, false), (1, false), (2, false), (3, false), (4, false), (5, true), (8, false), (9, false), (10, false), (11, true)] 10 (by kernel_rfl) (fun _ _ _ _ h => h) (by kernel_rfl) ⟨c0, c1⟩ ?hh ?tl
    case hh =>
      refine Heads.cons _ _ _ _ ?_ _ _ (at_zero) (Or.inl ⟨by rfl, ?_⟩) ?_
      rotate_left 1
      · intro w _
        go_simp
        try with_reducible rfl
      simp only [Act.put, List.setIfInBounds_toArray, List.set_cons_zero, List.set_cons_succ]
      refine Heads.cons _ _ _ _ ?_ _ _ (at_succ at_zero) (Or.inl ⟨by rfl, ?_⟩) ?_
      rotate_left 1
      · intro w _
        go_simp
        try with_reducible rfl
      simp only [Act.put, List.setIfInBounds_toArray, List.set_cons_zero, List.set_cons_succ]
      refine Heads.cons _ _ _ _ ?_ _ _ (at_succ (at_succ at_zero)) (Or.inl ⟨by rfl, ?_⟩) ?_
      rotate_left 1
      · intro w _
        go_simp
        try with_reducible rfl
      simp only [Act.put, List.setIfInBounds_toArray, List.set_cons_zero, List.set_cons_succ]
      refine Heads.cons _ _ _ _ ?_ _ _ (at_succ (at_succ (at_succ at_zero))) (Or.inl ⟨by rfl, ?_⟩) ?_
      rotate_left 1
      · intro w _
        go_simp
        try with_reducible rfl
      simp only [Act.put, List.setIfInBounds_toArray, List.set_cons_zero, List.set_cons_succ]
      refine Heads.cons _ _ _ _ ?_ _ _ (at_succ (at_succ (at_succ (at_succ at_zero)))) (Or.inl ⟨by rfl, ?_⟩) ?_
      rotate_left 1
      · intro w _
        go_simp
        try with_reducible rfl
      simp only [Act.put, List.setIfInBounds_toArray, List.set_cons_zero, List.set_cons_succ]
      refine Heads.cons _ _ _ _ ?_ _ _ (at_succ (at_succ (at_succ (at_succ (at_succ at_zero))))) (Or.inl ⟨by rfl, ?_⟩) ?_
      rotate_left 1
      · intro w hS; obtain ⟨hS0, hS1⟩ := hS rfl
        go_simp
        try with_reducible rfl
      simp only [Act.put, List.setIfInBounds_toArray, List.set_cons_zero, List.set_cons_succ]
      refine Heads.cons _ _ _ _ ?_ _ _ (at_succ (at_succ (at_succ (at_succ (at_succ (at_succ (at_succ (at_succ at_zero)))))))) (Or.inl ⟨by rfl, ?_⟩) ?_
      rotate_left 1
      · intro w _
        go_simp
        try with_reducible rfl
      simp only [Act.put, List.setIfInBounds_toArray, List.set_cons_zero, List.set_cons_succ]
      refine Heads.cons _ _ _ _ ?_ _ _ (at_succ (at_succ (at_succ (at_succ (at_succ (at_succ (at_succ (at_succ (at_succ at_zero))))))))) (Or.inl ⟨by rfl, ?_⟩) ?_
      rotate_left 1
      · intro w _
        go_simp
        try with_reducible rfl
      simp only [Act.put, List.setIfInBounds_toArray, List.set_cons_zero, List.set_cons_succ]
      refine Heads.cons _ _ _ _ ?_ _ _ (at_succ (at_succ (at_succ (at_succ (at_succ (at_succ (at_succ (at_succ (at_succ (at_succ at_zero)))))))))) (Or.inl ⟨by rfl, ?_⟩) ?_
      rotate_left 1
      · intro w _
        go_simp
        try with_reducible rfl
      simp only [Act.put, List.setIfInBounds_toArray, List.set_cons_zero, List.set_cons_succ]
      refine Heads.cons _ _ _ _ ?_ _ _ (at_succ (at_succ (at_succ (at_succ (at_succ (at_succ (at_succ (at_succ (at_succ (at_succ (at_succ at_zero))))))))))) (Or.inl ⟨by rfl, ?_⟩) ?_
      rotate_left 1
      · intro w hS; obtain ⟨hS0, hS1⟩ := hS rfl
        go_simp
        try with_reducible rfl
      simp only [Act.put, List.setIfInBounds_toArray, List.set_cons_zero, List.set_cons_succ]
      exact Heads.nil _
    case tl =>
      refine wpE_two (i := 6) (j := 12) (by kernel_rfl) (at_succ (at_succ (at_succ (at_succ (at_succ (at_succ at_zero)))))) (by rfl) (at_succ (at_succ (at_succ (at_succ (at_succ (at_succ (at_succ (at_succ (at_succ (at_succ (at_succ (at_succ at_zero)))))))))))) (by rfl) (fun K hK => ?_) (fun K hK => ?_)
      · go_simp
        refine hK _ _ ⟨by first | exact n0 _ | exact n2 _ _ | exact e0 | exact e0n _, by first | exact n1 _ | exact n3 _ _ | exact e1 | exact e1n _⟩ ?_
        clear hK K
        refine wpE_two (i := 7) (j := 12) (by kernel_rfl) (at_succ (at_succ (at_succ (at_succ (at_succ (at_succ (at_succ at_zero))))))) (by rfl) (at_succ (at_succ (at_succ (at_succ (at_succ (at_succ (at_succ (at_succ (at_succ (at_succ (at_succ (at_succ at_zero)))))))))))) (by rfl) (fun K hK => ?_) (fun K hK => ?_)
        · refine wp_appG (.tmp 28) (.tmp 29) 25 rfl B 3 i0 (.int .i64 0) 8 Try.underlying25 hi0 hz0 hz1 hz2 rfl _ AU n cU ((List.range n).map fun i => .int .i64 (idx (U i))) (.int .i64 (-1)) _ (by first | exact HF.out.up.alloc _ | exact (HF.out.up.alloc _).alloc _) rfl (by simp [go_sem]) rfl rfl (by omega) (by omega) (by simp; omega) ?_
          intro A2 c2 w2 hown2 hg2 hat2
          have H2 : Hid (UpDone w0 w2 B AU A2 n c2 ((List.range n).map fun i => .int .i64 (idx (U i)))) := Lib.hid ⟨_, (by first | exact (Below.refl _ _).drew.alloc (Nat.le_refl _) _ | exact ((Below.refl _ _).drew.alloc (Nat.le_refl _) _).alloc (by simp) _), hown2, hg2, hat2⟩
          have HK2 := Lib.hid (fun (k : Nat) (v : Value) (hk : w0.heap.size ≤ k) (hv : World.cell? _ ⟨k, 0, none⟩ = some v) => hg2.cell (a := ⟨k, 0, none⟩) hv (fun e => by have := row_lt HF.out.up k e.symm; omega))
          obtain ⟨hdn2, hblk2, hsz2⟩ := up_facts HF.out H2.out
          have e0 : w2.cell? ⟨fb, 0, none⟩ = some (.slice AU n cU) := by rw [cell_of_row w2 _ 0 _ _ _ hblk2]; rfl
          have e1 : w2.cell? ⟨fb, 1, none⟩ = some (.slice AD n cD) := by rw [cell_of_row w2 _ 1 _ _ _ hblk2]; rfl
          have e0n : ∀ o, (w2.alloc o).cell? ⟨fb, 0, none⟩ = some (.slice AU n cU) := fun o => (World.cell?_alloc_lt _ _ _ (World.block_lt_of_cell? w2 ⟨fb, 0, none⟩ e0)).trans e0
          have e1n : ∀ o, (w2.alloc o).cell? ⟨fb, 1, none⟩ = some (.slice AD n cD) := fun o => (World.cell?_alloc_lt _ _ _ (World.block_lt_of_cell? w2 ⟨fb, 1, none⟩ e1)).trans e1
          have HD2 := Lib.hid hdn2
          clear hown2 hg2 hat2 hdn2 hblk2
          refine hK _ _ ⟨e0, e1⟩ ?_
          clear hK K
          refine wpE_one (i := 12) (by kernel_rfl) (at_succ (at_succ (at_succ (at_succ (at_succ (at_succ (at_succ (at_succ (at_succ (at_succ (at_succ (at_succ at_zero)))))))))))) (by rfl) (fun K hK => ?_)
          go_simp
          refine hK _ _ ⟨by first | exact n0 _ | exact n2 _ _ | exact e0 | exact e0n _, by first | exact n1 _ | exact n3 _ _ | exact e1 | exact e1n _⟩ ?_
          clear hK K
          refine wpE_one (i := 13) (by kernel_rfl) (at_succ (at_succ (at_succ (at_succ (at_succ (at_succ (at_succ (at_succ (at_succ (at_succ (at_succ (at_succ (at_succ at_zero))))))))))))) (by rfl) (fun K hK => ?_)
          refine wp_appG (.tmp 34) (.tmp 35) 26 rfl B 25 i1 (.slice none 0 0) 24 Try.underlying26 hi1 hy0 hy1 hy2 rfl _ AD n cD ((List.range n).map fun i => .slice (DA i) (D i).length (Dc i)) (.slice none 0 0) _ (by first | exact HD2.out | exact HD2.out.alloc _) rfl (by simp [go_sem]) rfl rfl (by omega) (by omega) (by first | omega | (simp; omega)) ?_
          intro A4 c4 w4 hown4 hg4 hat4
          have H4 : Hid (DnDone w2 w4 B AD A4 n c4 ((List.range n).map fun i => .slice (DA i) (D i).length (Dc i))) := Lib.hid ⟨_, (by first | exact Below.refl _ _ | exact (Below.refl _ _).alloc (Nat.le_refl _) _), hown4, hg4⟩
          obtain ⟨-, -, -, hblk4⟩ := dn_facts HF.out H2.out H4.out
          have k0 : w4.cell? ⟨fb, 0, none⟩ = some (.slice AU n cU) := by rw [cell_of_row w4 _ 0 _ _ _ hblk4]; rfl
          have k1 : w4.cell? ⟨fb, 1, none⟩ = some (.slice AD n cD) := by rw [cell_of_row w4 _ 1 _ _ _ hblk4]; rfl
          have k2 : w4.frozen? ⟨fb, 0, none⟩ = false := frozen_of_row w4 _ 0 _ _ hblk4
          have k3 : w4.frozen? ⟨fb, 1, none⟩ = false := frozen_of_row w4 _ 1 _ _ hblk4
          clear hown4 hg4 hat4 hblk4
          refine hK _ _ ⟨k0, k1⟩ ?_
          clear hK K
          refine wpE_drop (k := 14) rfl (by kernel_rfl) ?_
          simp only [List.drop_succ_cons, List.drop_zero]
          go_frame
          go_wp2_with fail
          go_meet
          exact new_forest HF.out H2.out H4.out
        · go_simp
          refine hK _ _ ⟨by first | exact n0 _ | exact n2 _ _ | exact e0 | exact e0n _, by first | exact n1 _ | exact n3 _ _ | exact e1 | exact e1n _⟩ ?_
          clear hK K
          refine wpE_one (i := 7) (by kernel_rfl) (at_succ (at_succ (at_succ (at_succ (at_succ (at_succ (at_succ at_zero))))))) (by rfl) (fun K hK => ?_)
          refine wp_appG (.tmp 28) (.tmp 29) 25 rfl B 3 i0 (.int .i64 0) 8 Try.underlying25 hi0 hz0 hz1 hz2 rfl _ AU n cU ((List.range n).map fun i => .int .i64 (idx (U i))) (.int .i64 (-1)) _ (by first | exact HF.out.up.alloc _ | exact (HF.out.up.alloc _).alloc _) rfl (by simp [go_sem]) rfl rfl (by omega) (by omega) (by simp; omega) ?_
          intro A2 c2 w2 hown2 hg2 hat2
          have H2 : Hid (UpDone w0 w2 B AU A2 n c2 ((List.range n).map fun i => .int .i64 (idx (U i)))) := Lib.hid ⟨_, (by first | exact (Below.refl _ _).drew.alloc (Nat.le_refl _) _ | exact ((Below.refl _ _).drew.alloc (Nat.le_refl _) _).alloc (by simp) _), hown2, hg2, hat2⟩
          have HK2 := Lib.hid (fun (k : Nat) (v : Value) (hk : w0.heap.size ≤ k) (hv : World.cell? _ ⟨k, 0, none⟩ = some v) => hg2.cell (a := ⟨k, 0, none⟩) hv (fun e => by have := row_lt HF.out.up k e.symm; omega))
          obtain ⟨hdn2, hblk2, hsz2⟩ := up_facts HF.out H2.out
          have e0 : w2.cell? ⟨fb, 0, none⟩ = some (.slice AU n cU) := by rw [cell_of_row w2 _ 0 _ _ _ hblk2]; rfl
          have e1 : w2.cell? ⟨fb, 1, none⟩ = some (.slice AD n cD) := by rw [cell_of_row w2 _ 1 _ _ _ hblk2]; rfl
          have e0n : ∀ o, (w2.alloc o).cell? ⟨fb, 0, none⟩ = some (.slice AU n cU) := fun o => (World.cell?_alloc_lt _ _ _ (World.block_lt_of_cell? w2 ⟨fb, 0, none⟩ e0)).trans e0
          have e1n : ∀ o, (w2.alloc o).cell? ⟨fb, 1, none⟩ = some (.slice AD n cD) := fun o => (World.cell?_alloc_lt _ _ _ (World.block_lt_of_cell? w2 ⟨fb, 1, none⟩ e1)).trans e1
          have HD2 := Lib.hid hdn2
          clear hown2 hg2 hat2 hdn2 hblk2
          refine hK _ _ ⟨e0, e1⟩ ?_
          clear hK K
          refine wpE_one (i := 13) (by kernel_rfl) (at_succ (at_succ (at_succ (at_succ (at_succ (at_succ (at_succ (at_succ (at_succ (at_succ (at_succ (at_succ (at_succ at_zero))))))))))))) (by rfl) (fun K hK => ?_)
          refine wp_appG (.tmp 34) (.tmp 35) 26 rfl B 25 i1 (.slice none 0 0) 24 Try.underlying26 hi1 hy0 hy1 hy2 rfl _ AD n cD ((List.range n).map fun i => .slice (DA i) (D i).length (Dc i)) (.slice none 0 0) _ (by first | exact HD2.out | exact HD2.out.alloc _) rfl (by exact HK2.out _ _ (by simp) (by simp [go_sem])) rfl rfl (by omega) (by omega) (by first | omega | (simp; omega)) ?_
          intro A4 c4 w4 hown4 hg4 hat4
          have H4 : Hid (DnDone w2 w4 B AD A4 n c4 ((List.range n).map fun i => .slice (DA i) (D i).length (Dc i))) := Lib.hid ⟨_, (by first | exact Below.refl _ _ | exact (Below.refl _ _).alloc (Nat.le_refl _) _), hown4, hg4⟩
          obtain ⟨-, -, -, hblk4⟩ := dn_facts HF.out H2.out H4.out
          have k0 : w4.cell? ⟨fb, 0, none⟩ = some (.slice AU n cU) := by rw [cell_of_row w4 _ 0 _ _ _ hblk4]; rfl
          have k1 : w4.cell? ⟨fb, 1, none⟩ = some (.slice AD n cD) := by rw [cell_of_row w4 _ 1 _ _ _ hblk4]; rfl
          have k2 : w4.frozen? ⟨fb, 0, none⟩ = false := frozen_of_row w4 _ 0 _ _ hblk4
          have k3 : w4.frozen? ⟨fb, 1, none⟩ = false := frozen_of_row w4 _ 1 _ _ hblk4
          clear hown4 hg4 hat4 hblk4
          refine hK _ _ ⟨k0, k1⟩ ?_
          clear hK K
          refine wpE_drop (k := 14) rfl (by kernel_rfl) ?_
          simp only [List.drop_succ_cons, List.drop_zero]
          go_frame
          go_wp2_with fail
          go_meet
          exact new_forest HF.out H2.out H4.out
      · go_simp
        refine hK _ _ ⟨by first | exact n0 _ | exact n2 _ _ | exact e0 | exact e0n _, by first | exact n1 _ | exact n3 _ _ | exact e1 | exact e1n _⟩ ?_
        clear hK K
        refine wpE_one (i := 6) (by kernel_rfl) (at_succ (at_succ (at_succ (at_succ (at_succ (at_succ at_zero)))))) (by rfl) (fun K hK => ?_)
        go_simp
        refine hK _ _ ⟨by first | exact n0 _ | exact n2 _ _ | exact e0 | exact e0n _, by first | exact n1 _ | exact n3 _ _ | exact e1 | exact e1n _⟩ ?_
        clear hK K
        refine wpE_one (i := 7) (by kernel_rfl) (at_succ (at_succ (at_succ (at_succ (at_succ (at_succ (at_succ at_zero))))))) (by rfl) (fun K hK => ?_)
        refine wp_appG (.tmp 28) (.tmp 29) 25 rfl B 3 i0 (.int .i64 0) 8 Try.underlying25 hi0 hz0 hz1 hz2 rfl _ AU n cU ((List.range n).map fun i => .int .i64 (idx (U i))) (.int .i64 (-1)) _ (by first | exact HF.out.up.alloc _ | exact (HF.out.up.alloc _).alloc _) rfl (by simp [go_sem]) rfl rfl (by omega) (by omega) (by simp; omega) ?_
        intro A2 c2 w2 hown2 hg2 hat2
        have H2 : Hid (UpDone w0 w2 B AU A2 n c2 ((List.range n).map fun i => .int .i64 (idx (U i)))) := Lib.hid ⟨_, (by first | exact (Below.refl _ _).drew.alloc (Nat.le_refl _) _ | exact ((Below.refl _ _).drew.alloc (Nat.le_refl _) _).alloc (by simp) _), hown2, hg2, hat2⟩
        have HK2 := Lib.hid (fun (k : Nat) (v : Value) (hk : w0.heap.size ≤ k) (hv : World.cell? _ ⟨k, 0, none⟩ = some v) => hg2.cell (a := ⟨k, 0, none⟩) hv (fun e => by have := row_lt HF.out.up k e.symm; omega))
        obtain ⟨hdn2, hblk2, hsz2⟩ := up_facts HF.out H2.out
        have e0 : w2.cell? ⟨fb, 0, none⟩ = some (.slice AU n cU) := by rw [cell_of_row w2 _ 0 _ _ _ hblk2]; rfl
        have e1 : w2.cell? ⟨fb, 1, none⟩ = some (.slice AD n cD) := by rw [cell_of_row w2 _ 1 _ _ _ hblk2]; rfl
        have e0n : ∀ o, (w2.alloc o).cell? ⟨fb, 0, none⟩ = some (.slice AU n cU) := fun o => (World.cell?_alloc_lt _ _ _ (World.block_lt_of_cell? w2 ⟨fb, 0, none⟩ e0)).trans e0
        have e1n : ∀ o, (w2.alloc o).cell? ⟨fb, 1, none⟩ = some (.slice AD n cD) := fun o => (World.cell?_alloc_lt _ _ _ (World.block_lt_of_cell? w2 ⟨fb, 1, none⟩ e1)).trans e1
        have HD2 := Lib.hid hdn2
        clear hown2 hg2 hat2 hdn2 hblk2
        refine hK _ _ ⟨e0, e1⟩ ?_
        clear hK K
        refine wpE_one (i := 13) (by kernel_rfl) (at_succ (at_succ (at_succ (at_succ (at_succ (at_succ (at_succ (at_succ (at_succ (at_succ (at_succ (at_succ (at_succ at_zero))))))))))))) (by rfl) (fun K hK => ?_)
        refine wp_appG (.tmp 34) (.tmp 35) 26 rfl B 25 i1 (.slice none 0 0) 24 Try.underlying26 hi1 hy0 hy1 hy2 rfl _ AD n cD ((List.range n).map fun i => .slice (DA i) (D i).length (Dc i)) (.slice none 0 0) _ (by first | exact HD2.out | exact HD2.out.alloc _) rfl (by exact HK2.out _ _ (by simp) (by simp [go_sem])) rfl rfl (by omega) (by omega) (by first | omega | (simp; omega)) ?_
        intro A4 c4 w4 hown4 hg4 hat4
        have H4 : Hid (DnDone w2 w4 B AD A4 n c4 ((List.range n).map fun i => .slice (DA i) (D i).length (Dc i))) := Lib.hid ⟨_, (by first | exact Below.refl _ _ | exact (Below.refl _ _).alloc (Nat.le_refl _) _), hown4, hg4⟩
        obtain ⟨-, -, -, hblk4⟩ := dn_facts HF.out H2.out H4.out
        have k0 : w4.cell? ⟨fb, 0, none⟩ = some (.slice AU n cU) := by rw [cell_of_row w4 _ 0 _ _ _ hblk4]; rfl
        have k1 : w4.cell? ⟨fb, 1, none⟩ = some (.slice AD n cD) := by rw [cell_of_row w4 _ 1 _ _ _ hblk4]; rfl
        have k2 : w4.frozen? ⟨fb, 0, none⟩ = false := frozen_of_row w4 _ 0 _ _ hblk4
        have k3 : w4.frozen? ⟨fb, 1, none⟩ = false := frozen_of_row w4 _ 1 _ _ hblk4
        clear hown4 hg4 hat4 hblk4
        refine hK _ _ ⟨k0, k1⟩ ?_
        clear hK K
        refine wpE_drop (k := 14) rfl (by kernel_rfl) ?_
        simp only [List.drop_succ_cons, List.drop_zero]
        go_frame
        go_wp2_with fail
        go_meet
        exact new_forest HF.out H2.out H4.out
  case rest =>
    have HC := hcut
    clear hcut
    go_wp2
    go_ret
    exact ⟨rfl, HC.out.1, HBT.out.trans HC.out.2⟩
end Go.Proofs.Ytkcccajiplchpaa
