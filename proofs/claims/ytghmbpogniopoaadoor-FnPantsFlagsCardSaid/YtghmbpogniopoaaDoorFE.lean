/- Punctuation: a write of nothing; a piece of the text and a piece's buffer, written. -/
import Derived.Test.YtghmbpogniopoaaDoorFD
namespace Go.Proofs.YtghmbpogniopoaaDoor
open Go.RowKit Go.Shelf
set_option linter.unusedVariables false

set_option maxHeartbeats 6400000 in
set_option maxRecDepth 100000 in
theorem write_zero (K M b : Nat) (bs : List Value) (A : Option Addr) (c : Nat) (w : World) (h : OutB K M b bs w) (hbK : b < K) (hM : M ≤ w.heap.size) :
    Calls Tryd.prog 36 #[.pointer (some ⟨b, 0, none⟩), .slice A 0 c] w fun e w' => e = .returned (.tuple #[.int .i64 0, .nilIface]) ∧ OutB K w'.heap.size b bs w' ∧ KeptB K b w w' := by
  have L := Tryd.laysM180
  have hce : ∀ d dLen dCap W, (Builtin.copy_ #[22, 22] 3 #[.slice d dLen dCap, .slice A 0 c]).run Tryd.prog W = .ok (goInt 0) W := fun d dLen dCap W => run_copy_none W 22 22 3 5 d A dLen dCap 0 c L.t37 tmp_info (by simp)
  obtain ⟨lr, ⟨rfl, hbk⟩ | ⟨g, cap, cur, hb1, hbk, hKg, hgM, hg, hlc, hcm, hcs, htk⟩⟩ := h
  · have c2 : w.cell? ⟨b, 2, none⟩ = some (.int .i8 lr) := by rw [Lib.cell_of_heap hbk]; rfl
    have f2 : w.frozen? ⟨b, 2, none⟩ = false := Lib.frozen_of_heap hbk 2
    have hbk0 : (w.setCell ⟨b, 2, none⟩ (.int .i8 0)).heap[b]? = some (.cells #[.slice none 0 0, .int .i64 0, .int .i8 0] 33 (0, 0)) := Lib.heap_setCell_same (i := 2) hbk _
    have hgr0 : w.grownBy (w.setCell ⟨b, 2, none⟩ (.int .i8 0)) (some b) := Lib.grownBy_setCell w b 2 _
    have d0 : (w.setCell ⟨b, 2, none⟩ (.int .i8 0)).cell? ⟨b, 0, none⟩ = some (.slice none 0 0) := by rw [Lib.cell_of_heap hbk0]; rfl
    have e0 : (w.setCell ⟨b, 2, none⟩ (.int .i8 0)).frozen? ⟨b, 0, none⟩ = false := Lib.frozen_of_heap hbk0 0
    go_enter Tryd.func36, Tryd.ntmps36
    go_wp2_with fail
    refine (Any.Buffer_tryGrow_room { L with } b none 0 0 0 _ d0 e0 (Nat.le_refl _) (Nat.zero_le _) (Nat.le_refl _)).mono ?_
    rintro e W1 ⟨rfl, hW1⟩
    have hbk1 : W1.heap[b]? = some (.cells #[.slice none 0 0, .int .i64 0, .int .i8 0] 33 (0, 0)) := by rw [hW1]; exact Lib.heap_setCell_same (i := 0) hbk0 _
    have hgr1 : w.grownBy W1 (some b) := by rw [hW1]; exact Lib.grownBy_setB hgr0 0 _
    have hk : Hid (KeptB K b w W1) := Lib.hid ⟨hgr1.os, hgr1.tape, hgr1.output, hgr1.size, fun k hk hb => by rw [hW1, Below.heap_setCell _ _ _ _ hb, Below.heap_setCell _ _ _ _ hb]⟩
    clear hW1 d0 e0 c2 f2 hbk0
    have d0 : W1.cell? ⟨b, 0, none⟩ = some (.slice none 0 0) := by rw [Lib.cell_of_heap hbk1]; rfl
    have HO : Hid (OutB K W1.heap.size b [] W1) := Lib.hid ⟨0, .inl ⟨rfl, hbk1⟩⟩
    go_wp2
    go_ret2
    exact ⟨rfl, HO.out, hk.out⟩
  · have c2 : w.cell? ⟨b, 2, none⟩ = some (.int .i8 lr) := by rw [Lib.cell_of_heap hbk]; rfl
    have f2 : w.frozen? ⟨b, 2, none⟩ = false := Lib.frozen_of_heap hbk 2
    have hbk0 : (w.setCell ⟨b, 2, none⟩ (.int .i8 0)).heap[b]? = some (.cells #[.slice (some ⟨g, 0, none⟩) bs.length cap, .int .i64 0, .int .i8 0] 33 (0, 0)) := Lib.heap_setCell_same (i := 2) hbk _
    have hgb : g ≠ b := by omega
    have hg0 : (w.setCell ⟨b, 2, none⟩ (.int .i8 0)).heap[g]? = some (.cells cur 5 (0, 0)) := by rw [Below.heap_setCell _ _ _ _ hgb]; exact hg
    have hgr0 : w.grownBy (w.setCell ⟨b, 2, none⟩ (.int .i8 0)) (some b) := Lib.grownBy_setCell w b 2 _
    have d0 : (w.setCell ⟨b, 2, none⟩ (.int .i8 0)).cell? ⟨b, 0, none⟩ = some (.slice (some ⟨g, 0, none⟩) bs.length cap) := by rw [Lib.cell_of_heap hbk0]; rfl
    have e0 : (w.setCell ⟨b, 2, none⟩ (.int .i8 0)).frozen? ⟨b, 0, none⟩ = false := Lib.frozen_of_heap hbk0 0
    have hlt : g < w.heap.size := Lib.lt_of_heap hg
    go_enter Tryd.func36, Tryd.ntmps36
    go_wp2_with fail
    refine (Any.Buffer_tryGrow_room { L with } b _ bs.length cap 0 _ d0 e0 hlc hcm (Nat.zero_le _)).mono ?_
    rintro e W1 ⟨rfl, hW1⟩
    rw [Nat.add_zero] at hW1
    have hbk1 : W1.heap[b]? = some (.cells #[.slice (some ⟨g, 0, none⟩) bs.length cap, .int .i64 0, .int .i8 0] 33 (0, 0)) := by rw [hW1]; exact Lib.heap_setCell_same (i := 0) hbk0 _
    have hg1 : W1.heap[g]? = some (.cells cur 5 (0, 0)) := by rw [hW1, Below.heap_setCell _ _ _ _ hgb]; exact hg0
    have hgr1 : w.grownBy W1 (some b) := by rw [hW1]; exact Lib.grownBy_setB hgr0 0 _
    have hk : Hid (KeptB K b w W1) := Lib.hid ⟨hgr1.os, hgr1.tape, hgr1.output, hgr1.size, fun k hk hb => by rw [hW1, Below.heap_setCell _ _ _ _ hb, Below.heap_setCell _ _ _ _ hb]⟩
    have hsz := hgr1.size
    clear hW1 d0 e0 c2 f2 hbk0 hg0
    have d0 : W1.cell? ⟨b, 0, none⟩ = some (.slice (some ⟨g, 0, none⟩) bs.length cap) := by rw [Lib.cell_of_heap hbk1]; rfl
    have HO : Hid (OutB K W1.heap.size b bs W1) := Lib.hid ⟨0, .inr ⟨g, cap, cur, hb1, hbk1, hKg, by omega, hg1, hlc, hcm, hcs, htk⟩⟩
    have hcm' := hcm
    unfold maxLen at hcm'
    clear htk
    go_wp2
    all_goals
      go_ret2
      exact ⟨rfl, HO.out, hk.out⟩
/-- Write, of numbers. -/
theorem writeL (K M ob : Nat) (l k : List Int) (A : Option Addr) (n c : Nat) (w : World) (h : OutB K M ob (l.map (Value.int .u8)) w) (hoK : ob < K) (hKM : K ≤ M) (hM : M ≤ w.heap.size) (hn : k.length = n)
    (hA : n = 0 ∨ ∃ a, A = some a ∧ a.block ≠ ob ∧ (a.block < K ∨ M ≤ a.block) ∧ (∀ j v, k[j]? = some v → w.cell? (a.add j) = some (.int .u8 v))) (hl : l.length ≤ 1000000000) (hk : n ≤ 1000000000) :
    Calls Tryd.prog 36 #[.pointer (some ⟨ob, 0, none⟩), .slice A n c] w fun e w' => e = .returned (.tuple #[.int .i64 n, .nilIface]) ∧ OutB K w'.heap.size ob ((l ++ k).map (Value.int .u8)) w' ∧ KeptB K ob w w' := by
  rcases Nat.eq_zero_or_pos n with h0 | h0
  · subst h0
    obtain rfl : k = [] := List.eq_nil_of_length_eq_zero hn
    rw [List.append_nil]
    exact write_zero K M ob _ A c w h hoK hM
  · obtain ⟨a, rfl, h1, h2, h3⟩ := hA.resolve_left (by omega)
    rw [List.map_append]
    refine write_out K M ob _ (k.map (Value.int .u8)) _ n c w h hoK hKM hM (by rw [List.length_map]; exact hn) (.inr ⟨h0, a, rfl, h1, h2, fun j v hj => ?_⟩) (tb_one l) (tb_one k) (by rw [List.length_map]; omega)
    rw [List.getElem?_map] at hj
    cases hk : k[j]? with
    | none => rw [hk] at hj; cases hj
    | some z => rw [hk] at hj; injection hj with hj; subst hj; exact h3 j z hk
theorem OutB.drewN {K M b : Nat} {bs : List Value} {w : World} (h : OutB K M b bs w) (k : Nat) : OutB K M b bs (w.drewN k) := h.keep rfl (fun _ _ _ => rfl) (Nat.le_refl _)
theorem bytesL (tb : Nat) (l : List Int) (w1 : World) (h : TBuf tb l w1) (k : Nat) :
    Calls Tryd.prog 14 #[.pointer (some ⟨tb, 0, none⟩)] (w1.drewN k) fun e w' => ∃ A c, e = .returned (.slice A l.length c) ∧ Hid (l.length = 0 ∨ ∃ a : Addr, A = some a ∧ tb ≤ a.block ∧ (∀ j v, l[j]? = some v → w1.cell? (a.add j) = some (.int .u8 v))) ∧ ∃ n, w' = (w1.drewN k).drewN n := by
  refine (Tryd.Buffer_Bytes tb tb _ (w1.drewN k) (Lib.IsBuffer.drewN h k)).mono ?_
  rintro e w2 ⟨v, rfl, hown, n, rfl⟩
  rw [List.length_map] at hown
  rcases hown.2 with ⟨rfl, h0⟩ | ⟨g, cap, cur, rfl, hb, hg, _⟩
  · exact ⟨none, 0, by rw [h0], Lib.hid (.inl h0), n, rfl⟩
  · refine ⟨some ⟨g, 0, none⟩, cap, rfl, Lib.hid (.inr ⟨⟨g, 0, none⟩, rfl, hb, fun j v hj => ?_⟩), n, rfl⟩
    exact (hown.cells (g := g) rfl j (.int .u8 v) (by rw [List.getElem?_map, hj]; rfl) : _)
/-- Where Process works. -/
structure Env (F : Fl) (q ob : Nat) (am : Value) (b off n cap : Nat) (f : Nat → Int) (w0 : World) : Prop where
  amp : AmpOK w0 q am (!F.an) F.nb
  obq : ob < q
  qK : q < w0.heap.size
  bK : b < w0.heap.size
  bq : b ≠ q
  bo : b ≠ ob
  mc : n ≤ cap
  cm : cap ≤ maxLen
  cell : ∀ j, j < n → w0.cell? ⟨b, off + j, none⟩ = some (.int .u8 (f j))
  rng : ∀ j, 0 ≤ f j ∧ f j ≤ 255
  nle : n ≤ 1000
/-- The blocks ahead of K stay, but for two. -/
structure Fr2 (K q ob : Nat) (w w' : World) : Prop where
  os : w'.os = w.os
  tape : w'.tape = w.tape
  output : w'.output = w.output
  size : w.heap.size ≤ w'.heap.size
  block : ∀ k, k < K → k ≠ q → k ≠ ob → w'.heap[k]? = w.heap[k]?
theorem Fr2.refl (K q ob : Nat) (w : World) : Fr2 K q ob w w := ⟨rfl, rfl, rfl, Nat.le_refl _, fun _ _ _ _ => rfl⟩
theorem Fr2.trans {K q ob : Nat} {u v w : World} (h : Fr2 K q ob u v) (g : Fr2 K q ob v w) : Fr2 K q ob u w :=
  ⟨g.os.trans h.os, g.tape.trans h.tape, g.output.trans h.output, Nat.le_trans h.size g.size, fun k hk h1 h2 => (g.block k hk h1 h2).trans (h.block k hk h1 h2)⟩
theorem Fr2.kept {K q ob : Nat} {w w' : World} (h : KeptB K ob w w') : Fr2 K q ob w w' := ⟨h.os, h.tape, h.output, h.size, fun k hk _ h2 => h.block k hk h2⟩
theorem Fr2.below {K q ob : Nat} {w w' : World} (h : Below w.heap.size w w') (hK : K ≤ w.heap.size) : Fr2 K q ob w w' := ⟨h.os, h.tape, h.output, h.size, fun k hk _ _ => h.block k (by omega)⟩
theorem Fr2.act {K q ob tb : Nat} {w w' : World} (h : FrQ q tb w w') (hK : K ≤ tb) : Fr2 K q ob w w' := ⟨h.os, h.tape, h.output, h.size, fun k hk h1 _ => h.block k (by omega) h1⟩
/-- What holds between two rounds: M: where new rows may lie. -/
structure LI (F : Fl) (q ob : Nat) (am : Value) (M : Nat) (s d : Bool) (out : List Int) (w0 wr : World) : Prop where
  fr : Fr2 w0.heap.size q ob w0 wr
  tab : Tab wr q s d (TF q am F)
  out : OutB w0.heap.size M ob (out.map (Value.int .u8)) wr
  KM : w0.heap.size ≤ M
  Ms : M ≤ wr.heap.size
section
variable {F : Fl} {q ob : Nat} {am : Value} {b off n cap : Nat} {f : Nat → Int} {w0 wr : World} {M : Nat} {s d : Bool} {out : List Int}
theorem LI.drewN (h : LI F q ob am M s d out w0 wr) (k : Nat) : LI F q ob am M s d out w0 (wr.drewN k) :=
  ⟨h.fr.trans ⟨rfl, rfl, rfl, Nat.le_refl _, fun _ _ _ _ => rfl⟩, h.tab.same rfl, h.out.drewN k, h.KM, h.Ms⟩
theorem LI.cell (E : Env F q ob am b off n cap f w0) (h : LI F q ob am M s d out w0 wr) : ∀ j, j < n → wr.cell? ⟨b, off + j, none⟩ = some (.int .u8 (f j)) := fun j hj =>
  (World.cell?_of_block (a := ⟨b, off + j, none⟩) (h.fr.block b E.bK E.bq E.bo)).trans (E.cell j hj)
theorem LI.amp (E : Env F q ob am b off n cap f w0) (h : LI F q ob am M s d out w0 wr) : AmpOK wr q am (!F.an) F.nb := by
  obtain ⟨b1, b2, b3, e, h1, h2, h3, r1, r2, r3⟩ := E.amp
  have ho := E.obq
  have k : ∀ b y, q < b → w0.cell? ⟨b, 0, none⟩ = some y → wr.cell? ⟨b, 0, none⟩ = some y := fun b y hq hy =>
    (World.cell?_of_block (a := ⟨b, 0, none⟩) (h.fr.block b (World.block_lt_of_cell? _ _ hy) (by omega) (by omega))).trans hy
  exact ⟨b1, b2, b3, e, k _ _ r1 h1, k _ _ r2 h2, k _ _ r3 h3, r1, r2, r3⟩
theorem LI.wrote (E : Env F q ob am b off n cap f w0) (h : LI F q ob am M s d out w0 wr) {w1 : World} {k : List Int} (ho : OutB w0.heap.size w1.heap.size ob ((out ++ k).map (Value.int .u8)) w1) (hk : KeptB w0.heap.size ob wr w1) : LI F q ob am w1.heap.size s d (out ++ k) w0 w1 :=
  ⟨h.fr.trans (.kept hk), h.tab.same (hk.block q E.qK (by have := E.obq; omega)), ho, Nat.le_trans h.KM (Nat.le_trans h.Ms hk.size), Nat.le_refl _⟩
def zeroBuf : Obj := .cells #[.slice none 0 0, .int .i64 0, .int .i8 0] 33 (0, 0)
theorem LI.pre (E : Env F q ob am b off n cap f w0) (h : LI F q ob am M s d out w0 wr) (i : Nat) (hi : i < n) : HPre q wr.heap.size s d (TF q am F) b (off + i) (n - i) (cap - i) (fun j => f (i + j)) (wr.alloc zeroBuf) := by
  have hs := h.fr.size
  have hb : Below wr.heap.size wr (wr.alloc zeroBuf) := (Below.refl _ wr).alloc (Nat.le_refl _) _
  refine ⟨h.tab.below hb, Lib.fresh_isBuffer 33 5 wr, Nat.lt_of_lt_of_le E.qK hs, Nat.lt_of_lt_of_le E.bK hs, E.bq, by have := E.mc; omega, by have := E.cm; omega, fun j hj => ?_, fun j => E.rng _⟩
  rw [Nat.add_assoc]
  exact (hb.cell (p := ⟨b, off + (i + j), none⟩) (Nat.lt_of_lt_of_le E.bK hs)).trans (h.cell E (i + j) (by omega))
theorem LI.acted (E : Env F q ob am b off n cap f w0) (h : LI F q ob am M s d out w0 wr) {R : HR} {w3 : World} (hp : TBuf wr.heap.size R.out w3 ∧ Tab w3 q R.s R.d (TF q am F) ∧ FrQ q wr.heap.size (wr.alloc zeroBuf) w3) : LI F q ob am wr.heap.size R.s R.d out w0 w3 := by
  have hs := h.fr.size
  have hb : Below wr.heap.size wr (wr.alloc zeroBuf) := (Below.refl _ wr).alloc (Nat.le_refl _) _
  have hoq := E.obq
  have hqK := E.qK
  refine ⟨(h.fr.trans (.below hb hs)).trans (.act hp.2.2 hs), hp.2.1, ?_, hs, Nat.le_trans hb.size hp.2.2.size⟩
  refine h.out.keep ?_ (fun k h1 h2 => ?_) h.Ms
  · exact (hp.2.2.block ob (by omega) (by omega)).trans (hb.block ob (by omega))
  · have := h.Ms
    exact (hp.2.2.block k (by omega) (by omega)).trans (hb.block k (by omega))
end
end Go.Proofs.YtghmbpogniopoaaDoor
