/- Punctuation: what the actions share. -/
import Derived.Test.YtghmbpogniopoaaDoorF4
namespace Go.Proofs.YtghmbpogniopoaaDoor
open Go.RowKit
set_option linter.unusedVariables false

theorem Tab.setS {w : World} {q : Nat} {s d : Bool} {T : Nat → Value} (h : Tab w q s d T) (v : Bool) : Tab (w.setCell ⟨q, 0, none⟩ (.bool v)) q v d T := by
  obtain ⟨cs, h1, h2, h3, h4, h5⟩ := h
  refine ⟨cs.setIfInBounds 0 (.bool v), heap_setCell_same w q 0 cs _ _ h1, by simp [h2], ?_, ?_, fun c hc => ?_⟩
  · rw [Array.getElem?_setIfInBounds_self_of_lt (by omega)]
  · rw [Array.getElem?_setIfInBounds_ne (by omega)]; exact h4
  · rw [Array.getElem?_setIfInBounds_ne (by omega)]; exact h5 c hc
theorem Tab.setD {w : World} {q : Nat} {s d : Bool} {T : Nat → Value} (h : Tab w q s d T) (v : Bool) : Tab (w.setCell ⟨q, 1, none⟩ (.bool v)) q s v T := by
  obtain ⟨cs, h1, h2, h3, h4, h5⟩ := h
  refine ⟨cs.setIfInBounds 1 (.bool v), heap_setCell_same w q 1 cs _ _ h1, by simp [h2], ?_, ?_, fun c hc => ?_⟩
  · rw [Array.getElem?_setIfInBounds_ne (by omega)]; exact h3
  · rw [Array.getElem?_setIfInBounds_self_of_lt (by omega)]
  · rw [Array.getElem?_setIfInBounds_ne (by omega)]; exact h5 c hc
theorem Tab.cellS {w : World} {q : Nat} {s d : Bool} {T : Nat → Value} (h : Tab w q s d T) : w.cell? ⟨q, 0, none⟩ = some (.bool s) := by
  obtain ⟨cs, h1, h2, h3, h4, h5⟩ := h
  simp [World.cell?, h1, h3]
theorem Tab.cellD {w : World} {q : Nat} {s d : Bool} {T : Nat → Value} (h : Tab w q s d T) : w.cell? ⟨q, 1, none⟩ = some (.bool d) := by
  obtain ⟨cs, h1, h2, h3, h4, h5⟩ := h
  simp [World.cell?, h1, h4]
/-- What an action gives back, what it writes, and the two marks behind it. -/
structure HR where
  k : Nat
  out : List Int
  s : Bool
  d : Bool
/-- What an action finds. -/
structure HPre (q tb : Nat) (s d : Bool) (T : Nat → Value) (b off m c : Nat) (f : Nat → Int) (w : World) : Prop where
  tab : Tab w q s d T
  buf : TBuf tb [] w
  qtb : q < tb
  btb : b < tb
  bq : b ≠ q
  mc : m ≤ c
  cm : c ≤ maxLen
  cell : ∀ j, j < m → w.cell? ⟨b, off + j, none⟩ = some (.int .u8 (f j))
  rng : ∀ j, 0 ≤ f j ∧ f j ≤ 255
theorem HPre.below {q tb : Nat} {s d : Bool} {T : Nat → Value} {b off m c : Nat} {f : Nat → Int} {w w' : World} (h : HPre q tb s d T b off m c f w) (hb : Below w.heap.size w w') : HPre q tb s d T b off m c f w' :=
  ⟨h.tab.below hb, h.buf.old hb, h.qtb, h.btb, h.bq, h.mc, h.cm, fun j hj => (hb.cell (p := ⟨b, off + j, none⟩) (Nat.lt_trans h.btb h.buf.lt)).trans (h.cell j hj), h.rng⟩
/-- The blocks ahead of the piece's buffer stay, but for the renderer's. -/
structure FrQ (q tb : Nat) (w w' : World) : Prop where
  os : w'.os = w.os
  tape : w'.tape = w.tape
  output : w'.output = w.output
  size : w.heap.size ≤ w'.heap.size
  block : ∀ k, k < tb → k ≠ q → w'.heap[k]? = w.heap[k]?
theorem FrQ.of_below {q tb : Nat} {w w' : World} (h : Below tb w w') : FrQ q tb w w' := ⟨h.os, h.tape, h.output, h.size, fun k hk _ => h.block k hk⟩
theorem FrQ.trans {q tb : Nat} {u v w : World} (h : FrQ q tb u v) (g : FrQ q tb v w) : FrQ q tb u w :=
  ⟨g.os.trans h.os, g.tape.trans h.tape, g.output.trans h.output, Nat.le_trans h.size g.size, fun k hk hq => (g.block k hk hq).trans (h.block k hk hq)⟩
theorem FrQ.set {q tb o : Nat} {v : Value} {w w' : World} (h : Below tb (w.setCell ⟨q, o, none⟩ v) w') : FrQ q tb w w' :=
  ⟨h.os, h.tape, h.output, by simpa [World.setCell] using h.size, fun k hk hq => (h.block k hk).trans (Below.heap_setCell _ _ _ _ hq)⟩
/-- What an action leaves. -/
def HPost (q tb : Nat) (T : Nat → Value) (R : HR) (w : World) (e : Ending) (w' : World) : Prop := e = .returned (.int .i64 (R.k : Int)) ∧ Hid (TBuf tb R.out w' ∧ Tab w' q R.s R.d T ∧ FrQ q tb w w')
theorem leaf {q tb : Nat} {T : Nat → Value} {R : HR} {w w' : World} {e : Ending} {s d : Bool} (k : Nat) {out : List Int} (hR : R = ⟨k, out, s, d⟩) (he : e = .returned (.int .i64 (k : Int))) (ht : TBuf tb out w') (hb : Below tb w w') (tab : Tab w q s d T) (hq : q < tb) : HPost q tb T R w e w' := by
  subst hR
  exact ⟨he, Lib.hid ⟨ht, tab.same (hb.block q hq), FrQ.of_below hb⟩⟩
theorem leafD {q tb : Nat} {T : Nat → Value} {R : HR} {w wn w' : World} {e : Ending} {s d v : Bool} (k : Nat) {out : List Int} (hR : R = ⟨k, out, s, v⟩) (he : e = .returned (.int .i64 (k : Int))) (ht : TBuf tb out w') (hn : Below tb w wn) (hb : Below tb (wn.setCell ⟨q, 1, none⟩ (.bool v)) w') (tab : Tab w q s d T) (hq : q < tb) : HPost q tb T R w e w' := by
  subst hR
  exact ⟨he, Lib.hid ⟨ht, ((tab.same (hn.block q hq)).setD v).same (hb.block q hq), (FrQ.of_below hn).trans (FrQ.set hb)⟩⟩
theorem leafS {q tb : Nat} {T : Nat → Value} {R : HR} {w wn w' : World} {e : Ending} {s d v : Bool} (k : Nat) {out : List Int} (hR : R = ⟨k, out, v, d⟩) (he : e = .returned (.int .i64 (k : Int))) (ht : TBuf tb out w') (hn : Below tb w wn) (hb : Below tb (wn.setCell ⟨q, 0, none⟩ (.bool v)) w') (tab : Tab w q s d T) (hq : q < tb) : HPost q tb T R w e w' := by
  subst hR
  exact ⟨he, Lib.hid ⟨ht, ((tab.same (hn.block q hq)).setS v).same (hb.block q hq), (FrQ.of_below hn).trans (FrQ.set hb)⟩⟩
def strI (s : ByteArray) : List Int := s.data.toList.map fun b => (b.toNat : Int)
theorem strI_len (s : ByteArray) : (strI s).length = s.size := by
  unfold strI
  rw [List.length_map, Array.length_toList]; rfl
theorem wC (tb : Nat) (l : List Int) (s : ByteArray) (w : World) (h : TBuf tb l w) (hl : l.length ≤ 100000) (hs : s.size ≤ 100000) :
    Calls Tryd.prog 33 #[.pointer (some ⟨tb, 0, none⟩), .string s] w fun e w' => e = .returned (.tuple #[.int .i64 s.size, .nilIface]) ∧ Hid (TBuf tb (l ++ strI s) w') ∧ Below tb w w' :=
  wS tb l (strI s) s w h (by unfold strI; rw [List.map_map]; rfl) (strI_len s).symm hl (by rw [strI_len]; exact hs)
end Go.Proofs.YtghmbpogniopoaaDoor
