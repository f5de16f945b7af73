/- Forests in memory: a parent written, a list of children written; a node cut out. -/
import Derived.Test.YtkcccajiplchpaaR7
namespace Go.Proofs.Ytkcccajiplchpaa
open Go.RowKit
set_option linter.unusedVariables false

theorem Try.infoI : (Try.prog.info? 3).map (fun i => (i.zero, i.size, i.bytes)) = some (some (.int .i64 0), 1, 8) := by kernel_rfl
theorem below_grow {w w' : World} (h : Below w.heap.size w w') : w.grownBy w' none := ⟨h.os, h.tape, h.output, h.size, fun k hk _ => h.block k hk⟩
theorem But.of_below {T : TypeId → Prop} {B : Nat} {w w' : World} (h : Below w.heap.size w w') : But T B w w' :=
  ⟨h.os, h.tape, h.output, h.size, fun b o hb _ => by rw [h.block b (Array.getElem?_eq_some_iff.1 hb).1]; exact hb⟩
theorem row_below {w w' : World} {B : Nat} {e : TypeId} {size n : Nat} {v : Value} {xs : List Value} (h : w.ownsRow B e size v n xs) (hb : Below w.heap.size w w') : w'.ownsRow B e size v n xs :=
  h.kept (below_grow hb) (by cases v.ownBlock <;> simp)
section
variable {w w' : World} {B fb n : Nat} {U : Nat → Option Nat} {D : Nat → List Nat} {AU : Option Addr} {cU : Nat} {AD : Option Addr} {cD : Nat} {DA : Nat → Option Addr} {Dc : Nat → Nat}
theorem FR.below (h : FR w B fb n U D AU cU AD cD DA Dc) (hb : Below w.heap.size w w') : FR w' B fb n U D AU cU AD cD DA Dc :=
  ⟨by rw [hb.block fb (Array.getElem?_eq_some_iff.1 h.blk).1]; exact h.blk, row_below h.up hb, row_below h.dn hb, fun i hi => row_below (h.row i hi) hb, h.sep, h.sep2, h.low⟩
theorem FR.but {T : TypeId → Prop} {C : Nat} (h : FR w B fb n U D AU cU AD cD DA Dc) (hb : But T C w w') (hT : ∀ e, T e → ¬ kindF e) : FR w' B fb n U D AU cU AD cD DA Dc :=
  ⟨hb.cell h.blk (fun e => hT _ e (.inr (.inr rfl))), row_kept h.up hb (fun e => hT _ e (.inl rfl)), row_kept h.dn hb (fun e => hT _ e (.inr (.inl rfl))), fun i hi => row_kept (h.row i hi) hb (fun e => hT _ e (.inl rfl)), h.sep, h.sep2, h.low⟩
theorem FR.congr (h : FR w B fb n U D AU cU AD cD DA Dc) {U' : Nat → Option Nat} {D' : Nat → List Nat} (hU : ∀ i, i < n → U i = U' i) (hD : ∀ i, i < n → D i = D' i) : FR w B fb n U' D' AU cU AD cD DA Dc := by
  refine ⟨h.blk, ?_, ?_, fun i hi => by rw [← hD i hi]; exact h.row i hi, h.sep, h.sep2, h.low⟩
  · have : ((List.range n).map fun i => Value.int .i64 (idx (U' i))) = (List.range n).map fun i => .int .i64 (idx (U i)) := List.map_congr_left fun i hi => by rw [hU i (by simpa using hi)]
    rw [this]; exact h.up
  · have : ((List.range n).map fun i => Value.slice (DA i) (D' i).length (Dc i)) = (List.range n).map fun i => .slice (DA i) (D i).length (Dc i) := List.map_congr_left fun i hi => by rw [hD i (by simpa using hi)]
    rw [this]; exact h.dn
/-- A row's own block lies at a place of this element type. -/
theorem row_blk {e : TypeId} {size m c g : Nat} {xs : List Value} (h : w.ownsRow B e size (.slice (some ⟨g, 0, none⟩) m c) m xs) : ∃ cur, w.heap[g]? = some (.cells cur e (0, 0)) ∧ B ≤ g := by
  rcases h.2 with ⟨hv, _⟩ | ⟨g', cap, cur, hv, hb, hg, _⟩
  · cases hv
  · injection hv with h1; injection h1 with h1; injection h1 with h1; subst h1; exact ⟨cur, hg, hb⟩
theorem row_set {e : TypeId} {m c g j : Nat} {xs : List Value} (h : w.ownsRow B e 1 (.slice (some ⟨g, 0, none⟩) m c) m xs) (u : Value) : But (· = e) B w (w.setCell ⟨g, j, none⟩ u) := by
  obtain ⟨cur, hg, hb⟩ := row_blk h
  exact But.setCell (T := (· = e)) hg rfl hb u
theorem set_map (f : Nat → Value) (n i : Nat) (v : Value) : ((List.range n).map f).set i v = (List.range n).map fun k => if k = i then v else f k := by
  apply List.ext_getElem
  · simp
  · intro k h1 h2
    have hk : k < n := by simpa using h2
    simp only [List.getElem_set, List.getElem_map, List.getElem_range]
    by_cases e : k = i
    · subst e; simp
    · rw [if_neg (fun h => e h.symm), if_neg e]
theorem FR.setUp {g : Nat} (h : FR w B fb n U D (some ⟨g, 0, none⟩) cU AD cD DA Dc) (a : Nat) (v : Option Nat) :
    FR (w.setCell ⟨g, a, none⟩ (.int .i64 (idx v))) B fb n (fun k => if k = a then v else U k) D (some ⟨g, 0, none⟩) cU AD cD DA Dc ∧ But kindF B w (w.setCell ⟨g, a, none⟩ (.int .i64 (idx v))) := by
  have hs := h.up.stored a (.int .i64 (idx v))
  have hb := row_set (j := a) h.up (.int .i64 (idx v))
  refine ⟨⟨hb.cell h.blk (by decide), ?_, row_kept h.dn hb (by decide), fun i hi => (h.row i hi).kept hs.2 ?_, h.sep, h.sep2, h.low⟩, hb.mono (fun e he => .inl he) (Nat.le_refl _)⟩
  · have := hs.1
    rw [set_map] at this
    have e : ((List.range n).map fun k => if k = a then Value.int .i64 (idx v) else Value.int .i64 (idx (U k))) = (List.range n).map fun k => .int .i64 (idx (if k = a then v else U k)) := List.map_congr_left fun k _ => by split <;> rfl
    rw [e] at this
    exact this
  · rcases hd : DA i with _ | d
    · exact .inl rfl
    · right
      intro eq
      have := h.sep i d.block hi (by rw [hd]; rfl)
      exact this (by simpa [Value.ownBlock] using eq.symm)
theorem FR.setDn {g : Nat} (h : FR w B fb n U D AU cU (some ⟨g, 0, none⟩) cD DA Dc) {p : Nat} (hp : p < n) {l : List Nat} {A : Option Addr} {c : Nat} (hl : w.ownsRow B 3 1 (.slice A l.length c) l.length (l.map fun k : Nat => Value.int .i64 (k : Int)))
    (h1 : ∀ g, A.map (·.block) = some g → AU.map (·.block) ≠ some g) (h2 : ∀ i g, i < n → i ≠ p → A.map (·.block) = some g → (DA i).map (·.block) ≠ some g) :
    FR (w.setCell ⟨g, p, none⟩ (.slice A l.length c)) B fb n U (fun i => if i = p then l else D i) AU cU (some ⟨g, 0, none⟩) cD (fun i => if i = p then A else DA i) (fun i => if i = p then c else Dc i) ∧ But kindF B w (w.setCell ⟨g, p, none⟩ (.slice A l.length c)) := by
  have hs := h.dn.stored p (.slice A l.length c)
  have hb := row_set (j := p) h.dn (.slice A l.length c)
  refine ⟨⟨hb.cell h.blk (by decide), row_kept h.up hb (by decide), ?_, fun i hi => ?_, fun i g hi e => ?_, fun i j g hi hj hij e => ?_, h.low⟩, hb.mono (fun e he => .inr (.inl he)) (Nat.le_refl _)⟩
  · have := hs.1
    rw [set_map] at this
    have e : ((List.range n).map fun k => if k = p then Value.slice A l.length c else Value.slice (DA k) (D k).length (Dc k)) = (List.range n).map fun k => .slice (if k = p then A else DA k) (if k = p then l else D k).length (if k = p then c else Dc k) := List.map_congr_left fun k _ => by split <;> rfl
    rw [e] at this
    exact this
  · by_cases e : i = p
    · subst e; simp only [if_true]; exact row_kept hl hb (by decide)
    · simp only [e, if_false]; exact row_kept (h.row i hi) hb (by decide)
  · by_cases e' : i = p
    · subst e'; simp only [if_true] at e; exact h1 g e
    · simp only [e', if_false] at e; exact h.sep i g hi e
  · by_cases e1 : i = p
    · subst e1
      simp only [if_true] at e
      simp only [Ne.symm hij, if_false]
      exact h2 j g hj (Ne.symm hij) e
    · simp only [e1, if_false] at e
      by_cases e2 : j = p
      · subst e2; simp only [if_true]
        intro eq
        exact h2 i g hi e1 eq e
      · simp only [e2, if_false]; exact h.sep2 i j g hi hj hij e
/-- A row made behind all that there is. -/
theorem new_sep {A A' : Option Addr} {m c : Nat} {w0 : World} {e : TypeId} {xs : List Value} (h : w'.ownsRow w0.heap.size e 1 (.slice A m c) m xs) (h' : ∀ g, A'.map (·.block) = some g → g < w0.heap.size) : ∀ g, A.map (·.block) = some g → A'.map (·.block) ≠ some g := fun g hg e => by
  have := (own_ge h g hg).1
  have := h' g e
  omega
theorem row_lt {e : TypeId} {m c : Nat} {A : Option Addr} {xs : List Value} (h : w.ownsRow B e 1 (.slice A m c) m xs) : ∀ g, A.map (·.block) = some g → g < w.heap.size := fun g hg => (own_ge h g hg).2
theorem FR.dnNew {g : Nat} {w0 : World} (h0 : FR w0 B fb n U D AU cU (some ⟨g, 0, none⟩) cD DA Dc) (hb : Below w0.heap.size w0 w) {p : Nat} (hp : p < n) {l : List Nat} {A : Option Addr} {c : Nat} (hl : w.ownsRow w0.heap.size 3 1 (.slice A l.length c) l.length (l.map fun k : Nat => Value.int .i64 (k : Int))) (hB : B ≤ w0.heap.size) :
    FR (w.setCell ⟨g, p, none⟩ (.slice A l.length c)) B fb n U (fun i => if i = p then l else D i) AU cU (some ⟨g, 0, none⟩) cD (fun i => if i = p then A else DA i) (fun i => if i = p then c else Dc i) ∧ But kindF B w0 (w.setCell ⟨g, p, none⟩ (.slice A l.length c)) := by
  have hl' : w.ownsRow B 3 1 (.slice A l.length c) l.length (l.map fun k : Nat => Value.int .i64 (k : Int)) := ⟨hl.1, hl.2.imp id (fun ⟨g, cap, cur, hv, hbg, rest⟩ => ⟨g, cap, cur, hv, Nat.le_trans hB hbg, rest⟩)⟩
  have := (h0.below hb).setDn hp hl' (new_sep hl (row_lt h0.up)) (fun i g hi hip => new_sep hl (row_lt (h0.row i hi)) g)
  exact ⟨this.1, (But.of_below hb).trans this.2⟩
end

/-- The children without one. -/
def fltK (l : List Nat) (a i : Nat) : List Nat := (l.take i).filter (fun k => decide (k ≠ a))
theorem fltK_succ {l : List Nat} {a i : Nat} (hi : i < l.length) : fltK l a (i + 1) = if l[i] = a then fltK l a i else fltK l a i ++ [l[i]] := by
  unfold fltK
  rw [List.take_add_one, List.getElem?_eq_getElem hi, List.filter_append]
  by_cases e : l[i] = a
  · simp [e]
  · simp [e]
theorem fltK_all (l : List Nat) (a : Nat) : fltK l a l.length = l.filter (fun k => decide (k ≠ a)) := by unfold fltK; rw [List.take_length]
theorem fltK_len (l : List Nat) (a i : Nat) : (fltK l a i).length ≤ l.length := by
  unfold fltK
  exact Nat.le_trans (List.length_filter_le _ _) (by simp; omega)
theorem nat_snoc {w : World} {B : Nat} {A : Option Addr} {c m : Nat} {l : List Nat} {k : Nat} (h : w.ownsRow B 3 1 (.slice A (l.length + 1) c) (l.length + 1) ((l.map fun k : Nat => Value.int .i64 (k : Int)) ++ [.int .i64 (k : Int)])) (hm : m = l.length + 1) :
    w.ownsRow B 3 1 (.slice A m c) m ((l ++ [k]).map fun k : Nat => Value.int .i64 (k : Int)) := by
  subst hm
  rw [List.map_append]; exact h

/-- What a call on the forest leaves. -/
def Left (w w' : World) (B fb n : Nat) (U : Nat → Option Nat) (D : Nat → List Nat) : Prop := (∃ AU cU AD cD DA Dc, FR w' B fb n U D AU cU AD cD DA Dc) ∧ But kindF B w w'
set_option maxHeartbeats 4000000 in
theorem cut_any (w : World) (B fb n : Nat) (U : Nat → Option Nat) (D : Nat → List Nat) (AU : Option Addr) (cU : Nat) (AD : Option Addr) (cD : Nat) (DA : Nat → Option Addr) (Dc : Nat → Nat) (h : FR w B fb n U D AU cU AD cD DA Dc)
    (hU : ∀ i p, i < n → U i = some p → p < n) (hlen : ∀ i, i < n → (D i).length ≤ 1000) (hB : B ≤ w.heap.size) (a : Nat) (ha : a < n) :
    Calls Try.prog 11 #[.pointer (some ⟨fb, 0, none⟩), .int .i64 a] w fun e w' => e = .returned (.tuple #[]) ∧ Left w w' B fb n (cutU U a) (cutD U D a) := by
  obtain ⟨g, rfl, hnc, ca, fa⟩ := h.upAt ha
  obtain ⟨gd, rfl, hnd, -, -⟩ := h.dnAt ha
  obtain ⟨c0, c1, _, _⟩ := h.cells
  have hset := h.setUp a none
  obtain ⟨d0, d1, _, _⟩ := hset.1.cells
  have ha' : (a : Int) < n := by omega
  have HS := Lib.hid hset
  have hsz : (w.setCell ⟨g, a, none⟩ (.int .i64 (idx none))).heap.size = w.heap.size := by simp
  cases hua : U a with
  | none =>
    have HE : Hid (FR (w.setCell ⟨g, a, none⟩ (.int .i64 (idx none))) B fb n (cutU U a) (cutD U D a) (some ⟨g, 0, none⟩) cU (some ⟨gd, 0, none⟩) cD DA Dc) := Lib.hid (hset.1.congr (fun i _ => rfl) (fun i _ => by unfold cutD; simp [hua]))
    rw [hua] at ca
    simp only [idx] at ca d0 d1 hsz
    clear h hset
    go_enter Try.func11, Try.ntmps11
    go_wp2
    (try simp only [Exit.inBlock, Exit.then])
    refine bodyPost_ret (results_none rfl _ _ _) rfl ?_
    exact ⟨rfl, ⟨_, _, _, _, _, _, HE.out⟩, HS.out.2⟩
  | some p =>
    have hp := hU a p ha hua
    have hp' : (p : Int) < n := by omega
    have hpn : ¬ (p : Int) < 0 := by omega
    have hlp := hlen p hp
    obtain ⟨gd', e', _, cp, _⟩ := hset.1.dnAt hp
    injection e' with e'; injection e' with e'; subst e'
    rw [hua] at ca
    have HU := Lib.hid hua
    obtain ⟨i0, hi0, hz0, hz1, hz2⟩ := info_parts Try.infoI
    simp only [idx] at ca d0 d1 cp HS hsz
    clear h hset hua
    go_enter Try.func11, Try.ntmps11
    go_wp2_with fail
    have HB0 : B ≤ (w.setCell ⟨g, a, none⟩ (.int .i64 (-1))).heap.size := by rw [hsz]; exact hB
    generalize w.setCell ⟨g, a, none⟩ (.int .i64 (-1)) = w1 at *
    go_loopw [31, 5] (fun iv rv wr => ∃ (i : Nat) (A1 : Option Addr) (c1 : Nat), i ≤ (D p).length ∧ iv = .int .i64 i ∧ rv = .slice A1 (fltK (D p) a i).length c1 ∧ Hid (wr.ownsRow w1.heap.size 3 1 (.slice A1 (fltK (D p) a i).length c1) (fltK (D p) a i).length ((fltK (D p) a i).map fun k : Nat => Value.int .i64 (k : Int))) ∧ Hid (Below w1.heap.size w1 wr)) (fun iv _ _ => (D p).length - (intOf iv).toNat)
    case atStart => exact ⟨0, none, 0, by omega, rfl, rfl, World.ownsRow_nil _ _ _ _, Below.refl _ _⟩
    case round =>
      obtain ⟨i, A1, c1, hi, rfl, rfl, HO, HB⟩ := hrel
      have HFB := Lib.hid (HS.out.1.below HB.out)
      obtain ⟨e0, e1, _, _⟩ := HFB.out.cells
      by_cases hil : i < (D p).length
      · obtain ⟨gk, ek, hkc, ck⟩ := kid_at (HFB.out.row p hp) hil
        rw [ek]
        have hil' : (i : Int) < (D p).length := by omega
        have hfl := fltK_len (D p) a i
        have hsz1 : w1.heap.size ≤ wr.heap.size := HB.out.size
        by_cases eka : (D p)[i] = a
        · have hs : fltK (D p) a (i + 1) = fltK (D p) a i := by rw [fltK_succ hil, if_pos eka]
          have HSS := Lib.hid hs
          have ekb : ((((D p)[i] : Nat) : Int) != (a : Int)) = false := by simp [eka]
          have HEK := Lib.hid ek
          clear ek hs eka
          go_wp2
          go_roundw
          case rel => exact ⟨i + 1, A1, c1, by omega, by go_num, by rw [HSS.out], by rw [HSS.out]; exact HO, HB⟩
          case measure => simp [intOf]; omega
        · have hs : fltK (D p) a (i + 1) = fltK (D p) a i ++ [(D p)[i]] := by rw [fltK_succ hil, if_neg eka]
          have HSS := Lib.hid hs
          have ekb : ((((D p)[i] : Nat) : Int) != (a : Int)) = true := by simp; omega
          have HEK := Lib.hid ek
          clear ek hs eka
          generalize hdk : (D p)[i] = dk at *
          go_wp2_with (at_builtin; refine wpList_app1 (.tmp 38) (.tmp 40) _ w1.heap.size 3 i0 (.int .i64 0) (.int .i64 dk) 8 wr _ _ _ _ HO.out rfl rfl Try.underlying25 hi0 hz0 hz1 hz2 rfl rfl rfl rfl (by omega) (by omega) hsz1 ?_; intro A2 c2 w2 hown2 hg2)
          have hb2 := Lib.hid (below_app HB.out HO.out (Nat.le_refl _) hsz1 hg2)
          have hl2 : (fltK (D p) a (i + 1)).length = (fltK (D p) a i).length + 1 := by rw [HSS.out]; simp
          have HO2 := Lib.hid (nat_snoc hown2 hl2)
          clear hown2 hg2
          go_wp2
          go_roundw
          case rel => exact ⟨i + 1, A2, c2, by omega, by go_num, by rw [hl2], by rw [HSS.out] at HO2 ⊢; exact HO2, hb2⟩
          case measure => simp [intOf]; omega
      · obtain rfl : i = (D p).length := by omega
        obtain ⟨gd', e', _, cp', fp'⟩ := HFB.out.dnAt hp
        injection e' with e'; injection e' with e'; subst e'
        have HN := Lib.hid (HS.out.1.dnNew HB.out hp HO.out HB0)
        generalize hfl : fltK (D p) a (D p).length = fl at *
        have HFL := Lib.hid hfl
        clear hfl
        go_wp2
        go_end0
        refine ⟨rfl, ⟨_, _, _, _, _, _, HN.out.1.congr (fun i _ => rfl) (fun i hi => ?_)⟩, HS.out.2.trans HN.out.2⟩
        unfold cutD
        rw [HU.out, ← HFL.out, fltK_all]
        by_cases e : i = p
        · subst e; simp
        · simp [e, Ne.symm e]
end Go.Proofs.Ytkcccajiplchpaa
