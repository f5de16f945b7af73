/- Tables: nodes in memory: their types, their links as numbers; a node taken out, appended. -/
import Derived.Test.YtaljhebalgipjaaGreatDoorMem2
import Derived.Test.YtaljhebalgipjaaGreatDoorB1
import Derived.LoopN
import Derived.Handy
import Derived.ProofKit
import Derived.Deep.DeepCutAuto
import Derived.Deep.CutBlock
import Derived.BigRegion
namespace Go.Proofs.YtaljhebalgipjaaGreatDoor
open Go.RowKit
set_option linter.unusedVariables false

/-- Field k (1 parent, 2 first, 3 last, 4 the one ahead, 5 the one behind) of node i. -/
abbrev Lk := Nat → Nat → Option Nat
def upd (L : Lk) (k i : Nat) (v : Option Nat) : Lk := fun k' i' => if k' = k ∧ i' = i then v else L k' i'
abbrev ptr (nb : Nat → Nat) (v : Option Nat) : Value := .pointer (v.map fun j => ⟨nb j, 0, none⟩)
structure Nodes (w : World) (B : Nat) (nb : Nat → Nat) (n : Nat) (L : Lk) (ty : Nat → Int) : Prop where
  blk : ∀ i, i < n → ∃ cs, w.heap[nb i]? = some (.cells cs 101 (0, 0)) ∧ cs.size = 29 ∧ cs[0]? = some (.int .i64 (ty i)) ∧ ∀ k, 1 ≤ k → k ≤ 5 → cs[k]? = some (ptr nb (L k i))
  inj : ∀ i j, i < n → j < n → nb i = nb j → i = j
  rng : ∀ k i j, 1 ≤ k → k ≤ 5 → i < n → L k i = some j → j < n
  low : ∀ i, i < n → B ≤ nb i

/-- Blocks below B, and blocks whose cells are of other types, are as they were. -/
structure But (T : TypeId → Prop) (B : Nat) (w w' : World) : Prop where
  os : w'.os = w.os
  tape : w'.tape = w.tape
  output : w'.output = w.output
  size : w.heap.size ≤ w'.heap.size
  block : ∀ (b : Nat) (o : Obj), w.heap[b]? = some o → (b < B ∨ ∀ cs e z, o = Obj.cells cs e z → ¬ T e) → w'.heap[b]? = some o
theorem But.refl (T : TypeId → Prop) (B : Nat) (w : World) : But T B w w := ⟨rfl, rfl, rfl, Nat.le_refl _, fun _ _ h _ => h⟩
theorem But.trans {T : TypeId → Prop} {B : Nat} {a b c : World} (h : But T B a b) (g : But T B b c) : But T B a c :=
  ⟨g.os.trans h.os, g.tape.trans h.tape, g.output.trans h.output, Nat.le_trans h.size g.size, fun i o hi ho => g.block i o (h.block i o hi ho) ho⟩
theorem But.mono {T U : TypeId → Prop} {B C : Nat} {a b : World} (h : But T B a b) (hT : ∀ e, T e → U e) (hB : C ≤ B) : But U C a b :=
  ⟨h.os, h.tape, h.output, h.size, fun i o hi ho => h.block i o hi (ho.imp (fun h => by omega) (fun ho cs e z eq ht => ho cs e z eq (hT e ht)))⟩
theorem heap_set_same {w : World} {b : Nat} {cs : Array Value} {e : TypeId} {z : Nat × Nat} (k : Nat) (v : Value) (h : w.heap[b]? = some (.cells cs e z)) : (w.setCell ⟨b, k, none⟩ v).heap[b]? = some (.cells (cs.setIfInBounds k v) e z) := by
  simp [World.setCell, Array.getElem?_modify, h]
theorem heap_set_ne {w : World} {b c : Nat} (k : Nat) (v : Value) (h : b ≠ c) : (w.setCell ⟨b, k, none⟩ v).heap[c]? = w.heap[c]? := by
  simp [World.setCell, Array.getElem?_modify, h]
theorem But.setCell {T : TypeId → Prop} {B : Nat} {w : World} {b k : Nat} {cs : Array Value} {e : TypeId} {z : Nat × Nat} (hb : w.heap[b]? = some (.cells cs e z)) (hT : T e) (hB : B ≤ b) (v : Value) : But T B w (w.setCell ⟨b, k, none⟩ v) := by
  refine ⟨rfl, rfl, rfl, by simp, fun c o hc ho => ?_⟩
  by_cases h : b = c
  · subst h
    rw [hb] at hc; cases hc
    rcases ho with ho | ho
    · omega
    · exact absurd hT (ho _ _ _ rfl)
  · rw [heap_set_ne k v h]; exact hc
theorem But.alloc (T : TypeId → Prop) (B : Nat) (w : World) (o : Obj) : But T B w (w.alloc o) :=
  ⟨rfl, rfl, rfl, by simp, fun c x hc _ => by rw [Below.heap_alloc _ _ _ (Array.getElem?_eq_some_iff.1 hc).1]; exact hc⟩
theorem But.drew {T : TypeId → Prop} {B : Nat} {a b : World} (h : But T B a b) : But T B a b.drew := ⟨h.os, h.tape, h.output, h.size, h.block⟩
theorem But.grown {T : TypeId → Prop} {B : Nat} {a b : World} {row : Option Nat} (hg : a.grownBy b row) (hr : ∀ k, row = some k → B ≤ k ∧ (k < a.heap.size → ∃ cs e z, a.heap[k]? = some (.cells cs e z) ∧ T e)) : But T B a b :=
  ⟨hg.os, hg.tape, hg.output, hg.size, fun c x hc ho => by
    have hl := (Array.getElem?_eq_some_iff.1 hc).1
    rw [hg.block c hl (fun e => ?_)]
    · exact hc
    · obtain ⟨hB, hk⟩ := hr c e.symm
      obtain ⟨cs, e, z, hk, hT⟩ := hk hl
      rw [hk] at hc; cases hc
      rcases ho with ho | ho
      · omega
      · exact ho _ _ _ rfl hT⟩
theorem But.cell {T : TypeId → Prop} {B : Nat} {a b : World} (h : But T B a b) {x : Nat} {cs : Array Value} {e : TypeId} {z : Nat × Nat} (hx : a.heap[x]? = some (.cells cs e z)) (hT : ¬ T e) : b.heap[x]? = some (.cells cs e z) :=
  h.block x _ hx (.inr fun _ _ _ eq => by cases eq; exact hT)
theorem But.below {T : TypeId → Prop} {B : Nat} {a b : World} (h : But T B a b) (hB : B ≤ a.heap.size) : Below B a b :=
  ⟨h.os, h.tape, h.output, h.size, fun k hk => by
    have hl : k < a.heap.size := by omega
    rw [h.block k _ (Array.getElem?_eq_getElem hl) (.inl hk), Array.getElem?_eq_getElem hl]⟩
theorem Nodes.drew {w : World} {B : Nat} {nb : Nat → Nat} {n : Nat} {L : Lk} {ty : Nat → Int} (h : Nodes w B nb n L ty) : Nodes w.drew B nb n L ty := ⟨h.blk, h.inj, h.rng, h.low⟩
theorem Nodes.drewN {w : World} {B : Nat} {nb : Nat → Nat} {n : Nat} {L : Lk} {ty : Nat → Int} (h : Nodes w B nb n L ty) (k : Nat) : Nodes (w.drewN k) B nb n L ty := ⟨h.blk, h.inj, h.rng, h.low⟩
theorem Nodes.but {T : TypeId → Prop} {w w' : World} {B C : Nat} {nb : Nat → Nat} {n : Nat} {L : Lk} {ty : Nat → Int} (h : Nodes w B nb n L ty) (hb : But T C w w') (hT : ¬ T 101) : Nodes w' B nb n L ty :=
  ⟨fun i hi => by obtain ⟨cs, h1, h2⟩ := h.blk i hi; exact ⟨cs, hb.cell h1 hT, h2⟩, h.inj, h.rng, h.low⟩
theorem Nodes.set {w : World} {B : Nat} {nb : Nat → Nat} {n : Nat} {L : Lk} {ty : Nat → Int} (h : Nodes w B nb n L ty) {i k : Nat} (hi : i < n) (h1 : 1 ≤ k) (h5 : k ≤ 5) (v : Option Nat) (hv : ∀ j, v = some j → j < n) :
    Nodes (w.setCell ⟨nb i, k, none⟩ (ptr nb v)) B nb n (upd L k i v) ty ∧ But (· = 101) B w (w.setCell ⟨nb i, k, none⟩ (ptr nb v)) := by
  obtain ⟨cs, hb, hs, h0, hc⟩ := h.blk i hi
  refine ⟨⟨fun j hj => ?_, h.inj, fun k' i' j h1' h5' hi' e => ?_, h.low⟩, But.setCell (T := (· = 101)) hb rfl (h.low i hi) _⟩
  · by_cases e : j = i
    · subst e
      refine ⟨_, heap_set_same k _ hb, by simpa using hs, ?_, fun k' h1' h5' => ?_⟩
      · rw [Array.getElem?_setIfInBounds, if_neg (by omega)]; exact h0
      have hk := hc k' h1' h5'
      rw [Array.getElem?_setIfInBounds]
      unfold upd
      by_cases ek : k = k'
      · subst ek
        have hl : k < cs.size := (Array.getElem?_eq_some_iff.1 hk).1
        simp [hl]
      · rw [if_neg ek, if_neg (by omega)]; exact hk
    · obtain ⟨cs', hb', hs', h0', hc'⟩ := h.blk j hj
      refine ⟨cs', ?_, hs', h0', fun k' h1' h5' => ?_⟩
      · rw [heap_set_ne k _ (fun eq => e (h.inj j i hj hi eq.symm))]; exact hb'
      · unfold upd; rw [if_neg (by omega)]; exact hc' k' h1' h5'
  · unfold upd at e
    split at e
    · exact hv j e
    · exact h.rng k' i' j h1' h5' hi' e
/-- A cell behind the links. -/
theorem Nodes.far {w : World} {B : Nat} {nb : Nat → Nat} {n : Nat} {L : Lk} {ty : Nat → Int} (h : Nodes w B nb n L ty) {i k : Nat} (hi : i < n) (h5 : 5 < k) (v : Value) :
    Nodes (w.setCell ⟨nb i, k, none⟩ v) B nb n L ty ∧ But (· = 101) B w (w.setCell ⟨nb i, k, none⟩ v) := by
  obtain ⟨cs, hb, hs, h0, hc⟩ := h.blk i hi
  refine ⟨⟨fun j hj => ?_, h.inj, h.rng, h.low⟩, But.setCell (T := (· = 101)) hb rfl (h.low i hi) _⟩
  by_cases e : j = i
  · subst e
    refine ⟨_, heap_set_same k _ hb, by simpa using hs, ?_, fun k' h1' h5' => ?_⟩
    · rw [Array.getElem?_setIfInBounds, if_neg (by omega)]; exact h0
    · rw [Array.getElem?_setIfInBounds, if_neg (by omega)]; exact hc k' h1' h5'
  · obtain ⟨cs', hb', h'⟩ := h.blk j hj
    exact ⟨cs', by rw [heap_set_ne k _ (fun eq => e (h.inj j i hj hi eq.symm))]; exact hb', h'⟩
theorem Nodes.cell {w : World} {B : Nat} {nb : Nat → Nat} {n : Nat} {L : Lk} {ty : Nat → Int} (h : Nodes w B nb n L ty) {i k : Nat} (hi : i < n) (h1 : 1 ≤ k) (h5 : k ≤ 5) : w.cell? ⟨nb i, k, none⟩ = some (ptr nb (L k i)) ∧ w.frozen? ⟨nb i, k, none⟩ = false := by
  obtain ⟨cs, hb, _, _, hc⟩ := h.blk i hi
  refine ⟨by rw [cell_of_row w _ k cs _ _ hb]; exact hc k h1 h5, ?_⟩
  simp [World.frozen?, hb]
theorem Nodes.type {w : World} {B : Nat} {nb : Nat → Nat} {n : Nat} {L : Lk} {ty : Nat → Int} (h : Nodes w B nb n L ty) {i : Nat} (hi : i < n) : w.cell? ⟨nb i, 0, none⟩ = some (.int .i64 (ty i)) := by
  obtain ⟨cs, hb, _, h0, _⟩ := h.blk i hi
  rw [cell_of_row w _ 0 cs _ _ hb]; exact h0
theorem Nodes.there {w : World} {B : Nat} {nb : Nat → Nat} {n : Nat} {L : Lk} {ty : Nat → Int} (h : Nodes w B nb n L ty) {i k : Nat} (hi : i < n) (hk : k < 29) : (∃ v, w.cell? ⟨nb i, k, none⟩ = some v) ∧ w.frozen? ⟨nb i, k, none⟩ = false := by
  obtain ⟨cs, hb, hs, _, _⟩ := h.blk i hi
  refine ⟨⟨cs[k]'(by omega), by rw [cell_of_row w _ k cs _ _ hb, Array.getElem?_eq_getElem]⟩, ?_⟩
  simp [World.frozen?, hb]

set_option maxHeartbeats 2000000 in
theorem newNode_any (t : Int) (w : World) :
    Calls Tryz.prog 34 #[.int .i64 t] w fun e w' => e = .returned (.pointer (some ⟨w.heap.size, 0, none⟩)) ∧ ∃ cs, w' = w.alloc (.cells cs 101) ∧ cs.size = 29 ∧ cs[0]? = some (.int .i64 t) ∧ ∀ k, 1 ≤ k → k ≤ 5 → cs[k]? = some (.pointer none) := by
  go_enter Tryz.func34, Tryz.ntmps34
  go_wp2
  go_ret
  refine ⟨rfl, _, rfl, rfl, rfl, fun k h1 h5 => ?_⟩
  have : k = 1 ∨ k = 2 ∨ k = 3 ∨ k = 4 ∨ k = 5 := by omega
  rcases this with rfl | rfl | rfl | rfl | rfl <;> rfl

def unlink1 (L : Lk) (a : Nat) : Lk :=
  match L 4 a with
    | some q => upd L 5 q (L 5 a)
    | none => match L 1 a with
      | some p => upd L 2 p (L 5 a)
      | none => L
theorem unlink1_keep (L : Lk) (a : Nat) : unlink1 L a 5 a = L 5 a ∧ unlink1 L a 4 a = L 4 a ∧ unlink1 L a 1 a = L 1 a := by
  unfold unlink1 upd
  cases h4 : L 4 a <;> cases h1 : L 1 a <;> simp [h1, h4]
def unlink2 (L L1 : Lk) (a : Nat) : Lk :=
  match L 5 a with
    | some r => upd L1 4 r (L 4 a)
    | none => match L 1 a with
      | some p => upd L1 3 p (L 4 a)
      | none => L1
def unlinkL (L : Lk) (a : Nat) : Lk := upd (upd (upd (unlink2 L (unlink1 L a) a) 1 a none) 5 a none) 4 a none
theorem neq_ptr {nb : Nat → Nat} (v : Option Nat) (w : World) : (binOp .neq 70 (ptr nb v) (.pointer none)).run Tryz.prog w = .ok (.bool v.isSome) w := by
  cases v with
  | none => simp [ptr, go_sem]
  | some j => simp [ptr, go_sem]
theorem eql_ptr {nb : Nat → Nat} (v : Option Nat) (w : World) : (binOp .eql 70 (ptr nb v) (.pointer none)).run Tryz.prog w = .ok (.bool v.isNone) w := by
  cases v with
  | none => simp [ptr, go_sem]
  | some j => simp [ptr, go_sem]
theorem guard_ptr {nb : Nat → Nat} (op : BinOp) (t : TypeId) (a b : Operand) (v : Option Nat) (w : World) : (eqGuard op t a b (ptr nb v) (.pointer none)).run Tryz.prog w = .ok () w := by
  cases v with
  | none => simp [eqGuard, go_sem]
  | some j => simp [eqGuard, go_sem]
set_option maxHeartbeats 4000000 in
theorem unlink_any (w : World) (B : Nat) (nb : Nat → Nat) (n : Nat) (L : Lk) (ty : Nat → Int) (a : Nat) (h : Nodes w B nb n L ty) (ha : a < n) :
    Calls Tryz.prog 91 #[.pointer (some ⟨nb a, 0, none⟩)] w fun e w' => e = .returned (.tuple #[]) ∧ Nodes w' B nb n (unlinkL L a) ty ∧ But (· = 101) B w w' := by
  have HN := Lib.hid h
  clear h
  obtain ⟨c4, f4⟩ := HN.out.cell ha (k := 4) (by omega) (by omega)
  obtain ⟨c1, f1⟩ := HN.out.cell ha (k := 1) (by omega) (by omega)
  obtain ⟨c5, f5⟩ := HN.out.cell ha (k := 5) (by omega) (by omega)
  have hr5 := HN.out.rng 5 a; have hr4 := HN.out.rng 4 a; have hr1 := HN.out.rng 1 a
  have hq := neq_ptr (nb := nb)
  have hgd := guard_ptr (nb := nb)
  go_enter Tryz.func91, Tryz.ntmps91
  go_upto_if 6 with fail
  go_cut [] (fun wx => Hid (Nodes wx B nb n (unlink1 L a) ty) ∧ Hid (But (· = 101) B w wx))
  case first =>
    cases e4 : L 4 a with
    | some q =>
      have hq' := hr4 q (by omega) (by omega) ha e4
      obtain ⟨d5, g5⟩ := HN.out.cell hq' (k := 5) (by omega) (by omega)
      rw [e4] at c4
      simp only [ptr, Option.isSome_some, Option.map_some] at c4 ⊢
      go_wp2_with fail
      go_region
      go_wp2_with fail
      go_meet
      have := HN.out.set hq' (k := 5) (by omega) (by omega) (L 5 a) (fun j => hr5 j (by omega) (by omega) ha)
      unfold unlink1; rw [e4]
      exact ⟨this.1.drew, this.2.drew⟩
    | none =>
      rw [e4] at c4
      simp only [ptr, Option.isSome_none, Option.map_none] at c4 ⊢
      cases e1 : L 1 a with
      | some p =>
        have hq' := hr1 p (by omega) (by omega) ha e1
        obtain ⟨d2, g2⟩ := HN.out.cell hq' (k := 2) (by omega) (by omega)
        rw [e1] at c1
        simp only [ptr, Option.map_some] at c1
        go_wp2_with fail
        go_region
        go_wp2_with fail
        go_meet
        have := HN.out.set hq' (k := 2) (by omega) (by omega) (L 5 a) (fun j => hr5 j (by omega) (by omega) ha)
        unfold unlink1; rw [e4]; simp only [e1]
        exact ⟨this.1.drew, this.2.drew⟩
      | none =>
        rw [e1] at c1
        simp only [ptr, Option.map_none] at c1
        go_wp2_with fail
        go_meet
        unfold unlink1; rw [e4]; simp only [e1]
        exact ⟨HN.out, But.refl _ _ _⟩
  case rest =>
    obtain ⟨HN1, HB1⟩ := hcut
    obtain ⟨e15, e14, e11⟩ := unlink1_keep L a
    clear c4 f4 c1 f1 c5 f5
    obtain ⟨c4, f4⟩ := HN1.out.cell ha (k := 4) (by omega) (by omega)
    obtain ⟨c1, f1⟩ := HN1.out.cell ha (k := 1) (by omega) (by omega)
    obtain ⟨c5, f5⟩ := HN1.out.cell ha (k := 5) (by omega) (by omega)
    rw [e14] at c4; rw [e15] at c5; rw [e11] at c1
    clear e11 e14 e15
    go_upto_if 36 with fail
    go_cut [] (fun wx => Hid (Nodes wx B nb n (unlink2 L (unlink1 L a) a) ty) ∧ Hid (But (· = 101) B w wx))
    case first =>
      cases e5 : L 5 a with
      | some q =>
        have hq' := hr5 q (by omega) (by omega) ha e5
        obtain ⟨d5, g5⟩ := HN1.out.cell hq' (k := 4) (by omega) (by omega)
        rw [e5] at c5
        simp only [ptr, Option.isSome_some, Option.map_some] at c5 ⊢
        go_wp2_with fail
        go_region
        go_wp2_with fail
        go_meet
        have := HN1.out.set hq' (k := 4) (by omega) (by omega) (L 4 a) (fun j => hr4 j (by omega) (by omega) ha)
        unfold unlink2; rw [e5]
        exact ⟨this.1.drew, HB1.out.trans this.2.drew⟩
      | none =>
        rw [e5] at c5
        simp only [ptr, Option.isSome_none, Option.map_none] at c5 ⊢
        cases e1 : L 1 a with
        | some p =>
          have hq' := hr1 p (by omega) (by omega) ha e1
          obtain ⟨d2, g2⟩ := HN1.out.cell hq' (k := 3) (by omega) (by omega)
          rw [e1] at c1
          simp only [ptr, Option.map_some] at c1
          go_wp2_with fail
          go_region
          go_wp2_with fail
          go_meet
          have := HN1.out.set hq' (k := 3) (by omega) (by omega) (L 4 a) (fun j => hr4 j (by omega) (by omega) ha)
          unfold unlink2; rw [e5]; simp only [e1]
          exact ⟨this.1.drew, HB1.out.trans this.2.drew⟩
        | none =>
          rw [e1] at c1
          simp only [ptr, Option.map_none] at c1
          go_wp2_with fail
          go_meet
          unfold unlink2; rw [e5]; simp only [e1]
          exact ⟨HN1.out, HB1.out⟩
    case rest =>
      obtain ⟨HN2, HB2⟩ := hcut
      clear c4 f4 c1 f1 c5 f5
      obtain ⟨c4, f4⟩ := HN2.out.cell ha (k := 4) (by omega) (by omega)
      obtain ⟨c1, f1⟩ := HN2.out.cell ha (k := 1) (by omega) (by omega)
      obtain ⟨c5, f5⟩ := HN2.out.cell ha (k := 5) (by omega) (by omega)
      have s1 := HN2.out.set ha (k := 1) (by omega) (by omega) none (by simp)
      have s2 := s1.1.set ha (k := 5) (by omega) (by omega) none (by simp)
      have s3 := s2.1.set ha (k := 4) (by omega) (by omega) none (by simp)
      have S := Lib.hid (And.intro s3.1 (HB2.out.trans (s1.2.trans (s2.2.trans s3.2))))
      clear s1 s2 s3
      go_wp2
      go_end0
      exact ⟨rfl, S.out.1, S.out.2⟩
def appendL (L : Lk) (a b : Nat) : Lk :=
  match unlinkL L b 3 a with
  | some q => upd (upd (upd (upd (unlinkL L b) 1 b (some a)) 5 q (some b)) 4 b (some q)) 3 a (some b)
  | none => upd (upd (upd (unlinkL L b) 1 b (some a)) 2 a (some b)) 3 a (some b)
set_option maxHeartbeats 4000000 in
theorem append_any (w : World) (B : Nat) (nb : Nat → Nat) (n : Nat) (L : Lk) (ty : Nat → Int) (a b : Nat) (h : Nodes w B nb n L ty) (ha : a < n) (hb : b < n) :
    Calls Tryz.prog 64 #[.pointer (some ⟨nb a, 0, none⟩), .pointer (some ⟨nb b, 0, none⟩)] w fun e w' => e = .returned (.tuple #[]) ∧ Nodes w' B nb n (appendL L a b) ty ∧ But (· = 101) B w w' := by
  have HN := Lib.hid h
  clear h
  have hq := neq_ptr (nb := nb)
  have hgd := guard_ptr (nb := nb)
  go_enter Tryz.func64, Tryz.ntmps64
  go_wp2_with fail
  refine (unlink_any w B nb n L ty b HN.out hb).mono ?_
  rintro e w1 ⟨rfl, hN1, hB1⟩
  have HN1 := Lib.hid hN1
  have HB1 := Lib.hid hB1
  clear hN1 hB1
  obtain ⟨c1, f1⟩ := HN1.out.cell hb (k := 1) (by omega) (by omega)
  obtain ⟨c4, f4⟩ := HN1.out.cell hb (k := 4) (by omega) (by omega)
  obtain ⟨c3, f3⟩ := HN1.out.cell ha (k := 3) (by omega) (by omega)
  obtain ⟨c2, f2⟩ := HN1.out.cell ha (k := 2) (by omega) (by omega)
  have hr3 := HN1.out.rng 3 a
  have s1 := HN1.out.set hb (k := 1) (by omega) (by omega) (some a) (by rintro _ ⟨⟩; exact ha)
  cases e3 : unlinkL L b 3 a with
  | some q =>
    have hq' := hr3 q (by omega) (by omega) ha e3
    obtain ⟨c5, f5⟩ := HN1.out.cell hq' (k := 5) (by omega) (by omega)
    have s2 := s1.1.set hq' (k := 5) (by omega) (by omega) (some b) (by rintro _ ⟨⟩; exact hb)
    have s3 := s2.1.set hb (k := 4) (by omega) (by omega) (some q) (by rintro _ ⟨⟩; exact hq')
    have s4 := s3.1.set ha (k := 3) (by omega) (by omega) (some b) (by rintro _ ⟨⟩; exact hb)
    have S := Lib.hid (And.intro s4.1 (HB1.out.trans (s1.2.trans (s2.2.trans (s3.2.trans s4.2)))))
    clear s1 s2 s3 s4
    rw [e3] at c3
    simp only [ptr, Option.map_some] at c3
    go_wp2
    go_end0
    refine ⟨rfl, ?_⟩
    unfold appendL
    rw [e3]
    exact S.out
  | none =>
    have s2 := s1.1.set ha (k := 2) (by omega) (by omega) (some b) (by rintro _ ⟨⟩; exact hb)
    have s3 := s2.1.set ha (k := 3) (by omega) (by omega) (some b) (by rintro _ ⟨⟩; exact hb)
    have S := Lib.hid (And.intro s3.1 (HB1.out.trans (s1.2.trans (s2.2.trans s3.2))))
    clear s1 s2 s3
    rw [e3] at c3
    simp only [ptr, Option.map_none] at c3
    go_wp2
    go_end0
    refine ⟨rfl, ?_⟩
    unfold appendL
    rw [e3]
    exact S.out

end Go.Proofs.YtaljhebalgipjaaGreatDoor
