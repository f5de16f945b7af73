/- Punctuation: quotation marks. -/
import Derived.Test.YtghmbpogniopoaaDoorF3
namespace Go.Proofs.YtghmbpogniopoaaDoor
open Go.RowKit
set_option linter.unusedVariables false
set_option linter.unusedSimpArgs false

/-- What a mark opens or closes. -/
def qop (p x : Int) (o : Bool) : Bool :=
  if x = 0 then (if p = 0 then !o else spc p)
  else if spc x then (if p = 0 then false else if spc p then !o else false)
  else if pu x then (if p = 0 then false else if spc p then true else if pu p then !o else false)
  else decide (p = 0) || spc p || pu p
def nbspL : List Int := [38, 110, 98, 115, 112, 59]
def qout (qu : Int) (o nb : Bool) : List Int := (if nb && !o then nbspL else []) ++ ([38, if o then 108 else 114, qu] ++ ([113, 117, 111, 59] ++ (if nb && o then nbspL else [])))
theorem spc_pu {c : Int} (h : spc c = true) : pu c = false := by
  have := of_decide_eq_true h
  exact decide_eq_false (by omega)
theorem cls (c : Int) : (c = 0 ∧ spc c = false ∧ pu c = false) ∨ (¬ c = 0 ∧ spc c = true ∧ pu c = false) ∨ (¬ c = 0 ∧ spc c = false ∧ pu c = true) ∨ (¬ c = 0 ∧ spc c = false ∧ pu c = false) := by
  by_cases h : c = 0
  · exact .inl ⟨h, by subst h; rfl, by subst h; rfl⟩
  · cases hs : spc c with
    | true => exact .inr (.inl ⟨h, rfl, spc_pu hs⟩)
    | false => cases hp : pu c with
      | true => exact .inr (.inr (.inl ⟨h, rfl, rfl⟩))
      | false => exact .inr (.inr (.inr ⟨h, rfl, rfl⟩))
theorem zero_cls {c : Int} (h : c = 0) : spc c = false ∧ pu c = false := by subst h; exact ⟨rfl, rfl⟩
theorem below_trans2 {B C : Nat} {a b c : World} (h : Below B a b) (g : Below C b c) (hC : B ≤ C) : Below B a c := ⟨g.os.trans h.os, g.tape.trans h.tape, g.output.trans h.output, Nat.le_trans h.size g.size, fun k hk => (g.block k (by omega)).trans (h.block k hk)⟩
theorem below_frozen {B : Nat} {w w' : World} (h : Below B w w') {p : Addr} (hp : p.block < B) {v : Bool} (hf : w.frozen? p = v) : w'.frozen? p = v := (World.frozen?_of_block (h.block _ hp)).trans hf
theorem below_set {B : Nat} {w w' : World} (h : Below B w w') (p : Addr) (v : Value) : Below B (w.setCell p v) (w'.setCell p v) :=
  ⟨h.os, h.tape, h.output, by simpa [World.setCell] using h.size, fun k hk => by
    unfold World.setCell
    simp only [Array.getElem?_modify, h.block k hk]⟩
theorem isBuffer_set {tb q o : Nat} {bs : List Value} {w : World} (h : Lib.IsBuffer 33 5 tb tb bs w) (hq : q < tb) (v : Value) : Lib.IsBuffer 33 5 tb tb bs (w.setCell ⟨q, o, none⟩ v) := by
  obtain ⟨hB, u, lr, hbk, hown, hne⟩ := h
  refine ⟨hB, u, lr, by rw [Below.heap_setCell _ _ _ _ (by show tb ≠ q; omega)]; exact hbk, ⟨hown.1, ?_⟩, hne⟩
  rcases hown.2 with hn | ⟨g, cap, cur, hv, hbg, hg, rest⟩
  · exact .inl hn
  · exact .inr ⟨g, cap, cur, hv, hbg, by rw [Below.heap_setCell _ _ _ _ (by show g ≠ q; omega)]; exact hg, rest⟩
/-- Behind the switch. -/
structure Sw (tb q o : Nat) (v : Bool) (bs : List Value) (w wx : World) : Prop where
  buf : Lib.IsBuffer 33 5 tb tb bs wx
  bel : Below tb (w.setCell ⟨q, o, none⟩ (.bool v)) wx
  cell : wx.cell? ⟨q, o, none⟩ = some (.bool v)
  froz : wx.frozen? ⟨q, o, none⟩ = false
theorem Sw.of {tb q o : Nat} {v : Bool} {bs : List Value} {w wn : World} {u : Value} (hI : Lib.IsBuffer 33 5 tb tb bs w) (hq : q < tb) (hb : Below w.heap.size w wn) (hc : wn.cell? ⟨q, o, none⟩ = some u) (hf : wn.frozen? ⟨q, o, none⟩ = false) : Sw tb q o v bs w (wn.setCell ⟨q, o, none⟩ (.bool v)) :=
  ⟨isBuffer_set (hI.old hb) hq _, below_set (hb.mono (Nat.le_of_lt hI.lt)) _ _, World.cell?_setCell_same _ _ _ hc, by rw [World.frozen?_setCell]; exact hf⟩
/-- The piece's buffer. -/
def TBuf (tb : Nat) (l : List Int) (w : World) : Prop := Lib.IsBuffer 33 5 tb tb (l.map (Value.int .u8)) w
theorem tb_one (l : List Int) : ∀ v ∈ l.map (Value.int .u8), v.oneCell' = true := by
  intro v hv
  simp only [List.mem_map] at hv
  obtain ⟨z, _, rfl⟩ := hv
  rfl
theorem wB (tb : Nat) (l : List Int) (c : Int) (w : World) (h : TBuf tb l w) (hl : l.length ≤ 100000) :
    Calls Tryd.prog 34 #[.pointer (some ⟨tb, 0, none⟩), .int .u8 c] w fun e w' => e = .returned .nilIface ∧ Hid (TBuf tb (l ++ [c]) w') ∧ Below tb w w' := by
  refine (Tryd.Buffer_WriteByte_k tb tb _ c w h (Nat.le_of_lt h.lt) (tb_one l) (by rw [List.length_map]; omega)).mono ?_
  rintro e w' ⟨rfl, hI, hb, -⟩
  exact ⟨rfl, Lib.hid (by unfold TBuf; rw [List.map_append]; exact hI), hb⟩
theorem wS (tb : Nat) (l k : List Int) (s : ByteArray) (w : World) (h : TBuf tb l w) (hs : Lib.byteCells s.data.toList = k.map (Value.int .u8)) (hk : s.size = k.length) (hl : l.length ≤ 100000) (hk2 : k.length ≤ 100000) :
    Calls Tryd.prog 33 #[.pointer (some ⟨tb, 0, none⟩), .string s] w fun e w' => e = .returned (.tuple #[.int .i64 s.size, .nilIface]) ∧ Hid (TBuf tb (l ++ k) w') ∧ Below tb w w' := by
  refine (Tryd.Buffer_WriteString_k tb tb _ s w h (Nat.le_of_lt h.lt) (tb_one l) (by rw [List.length_map]; omega)).mono ?_
  rintro e w' ⟨rfl, hI, hb, -⟩
  refine ⟨rfl, Lib.hid ?_, hb⟩
  unfold TBuf; rw [List.map_append, ← hs]; exact hI
theorem wW (tb : Nat) (l k : List Int) (a : Addr) (n c : Nat) (w : World) (h : TBuf tb l w) (hn : k.length = n) (ha : a.block ≠ tb) (hsrc : ∀ j v, k[j]? = some v → w.cell? (a.add j) = some (.int .u8 v)) (hl : l.length ≤ 100000) (hk2 : n ≤ 100000) :
    Calls Tryd.prog 36 #[.pointer (some ⟨tb, 0, none⟩), .slice (some a) n c] w fun e w' => e = .returned (.tuple #[.int .i64 n, .nilIface]) ∧ Hid (TBuf tb (l ++ k) w') ∧ Below tb w w' := by
  refine (Tryd.Buffer_Write_any tb tb _ (k.map (Value.int .u8)) a n c w h (Nat.le_of_lt h.lt) (tb_one l) (by rw [List.length_map]; exact hn) ha (fun j v hj => ?_) (tb_one k) (by rw [List.length_map]; omega)).mono ?_
  · rw [List.getElem?_map] at hj
    cases hk : k[j]? with
    | none => rw [hk] at hj; cases hj
    | some z => rw [hk] at hj; injection hj with hj; subst hj; exact hsrc j z hk
  rintro e w' ⟨rfl, hI, hb, -⟩
  refine ⟨rfl, Lib.hid ?_, hb⟩
  unfold TBuf; rw [List.map_append]; exact hI
set_option maxHeartbeats 8000000 in
set_option maxRecDepth 100000 in
theorem helper_any (tb q o : Nat) (p x qu : Int) (op nb : Bool) (l : List Int) (w : World) (hI : TBuf tb l w) (hq : q < tb) (hc : w.cell? ⟨q, o, none⟩ = some (.bool op)) (hf : w.frozen? ⟨q, o, none⟩ = false) (hl : l.length ≤ 1000) :
    Calls Tryd.prog 31 #[.pointer (some ⟨tb, 0, none⟩), .int .u8 p, .int .u8 x, .int .u8 qu, .pointer (some ⟨q, o, none⟩), .bool nb] w fun e w' => e = .returned (.bool true) ∧ Hid (TBuf tb (l ++ qout qu (qop p x op) nb) w') ∧ Below tb (w.setCell ⟨q, o, none⟩ (.bool (qop p x op))) w' := by
  have HI := Lib.hid hI
  have hlt := hI.lt
  clear hI
  obtain ⟨v, hv⟩ : ∃ v, v = qop p x op := ⟨_, rfl⟩
  rw [← hv]
  have HV := Lib.hid hv
  clear hv
  go_enter Tryd.func31, Tryd.ntmps31
  go_upto_block 0 with fail
  go_cut [] (fun wx => Hid (Sw tb q o v (l.map (Value.int .u8)) w wx))
  case first =>
    have HB := Lib.hid (Below.refl w.heap.size w)
    have hs0 : spc 0 = false := rfl
    have hu0 : pu 0 = false := rfl
    have HP : (p = 0 ∧ spc p = false ∧ pu p = false) ∨ (¬ p = 0 ∧ spc p = true ∧ pu p = false) ∨ (¬ p = 0 ∧ spc p = false ∧ pu p = true) ∨ (¬ p = 0 ∧ spc p = false ∧ pu p = false) := cls p
    have HX : (x = 0 ∧ spc x = false ∧ pu x = false) ∨ (¬ x = 0 ∧ spc x = true ∧ pu x = false) ∨ (¬ x = 0 ∧ spc x = false ∧ pu x = true) ∨ (¬ x = 0 ∧ spc x = false ∧ pu x = false) := cls x
    rcases HP with ⟨rfl, ps, pp⟩ | ⟨p0, ps, pp⟩ | ⟨p0, ps, pp⟩ | ⟨p0, ps, pp⟩
    all_goals rcases HX with ⟨rfl, xs, xp⟩ | ⟨x0, xs, xp⟩ | ⟨x0, xs, xp⟩ | ⟨x0, xs, xp⟩
    all_goals
      go_wp2_with (first
        | (go_at_call 38; refine (isspace_any _ _).mono ?_; rintro e w' ⟨rfl, rfl⟩)
        | (go_at_call 39; refine (ispunct_any _ _).mono ?_; rintro e wn ⟨rfl, hbn⟩; have HB := Lib.hid (below_trans2 HB.out hbn HB.out.size); have hf := below_frozen hbn (World.block_lt_of_cell? _ _ hc) hf; have hc := (hbn.cell (World.block_lt_of_cell? _ _ hc)).trans hc; clear hbn))
      go_meet
      refine Lib.hid ?_
      have hw := fun v => Sw.of (v := v) HI.out hq HB.out hc hf
      rw [HV.out]
      first
        | (rw [show qop _ _ op = true by first | (simp [qop, p0, ps, pp, x0, xs, xp]; done) | (simp [qop, ps, pp, x0, xs, xp]; done) | (simp [qop, p0, ps, pp, xs, xp]; done) | (simp [qop, ps, pp, xs, xp]; done)]; exact hw true)
        | (rw [show qop _ _ op = false by first | (simp [qop, p0, ps, pp, x0, xs, xp]; done) | (simp [qop, ps, pp, x0, xs, xp]; done) | (simp [qop, p0, ps, pp, xs, xp]; done) | (simp [qop, ps, pp, xs, xp]; done)]; exact hw false)
        | (rw [show qop _ _ op = !op by first | (simp [qop, p0, ps, pp, x0, xs, xp]; done) | (simp [qop, ps, pp, x0, xs, xp]; done) | (simp [qop, p0, ps, pp, xs, xp]; done) | (simp [qop, ps, pp, xs, xp]; done)]; exact hw (!op))
  case rest =>
    rename World => wx
    have HT : Hid (TBuf tb l wx) := Lib.hid hcut.out.buf
    have HB := Lib.hid hcut.out.bel
    clear hc hf
    have hc := hcut.out.cell
    have hf := hcut.out.froz
    clear hcut
    rcases v with _ | _ <;> rcases nb with _ | _
    · go_wp2_with fail
      refine (wB tb _ 38 _ HT.out (by first | omega | (simp [nbspL]; omega))).mono ?_
      rintro e w1 ⟨rfl, HT1, hb1⟩
      have HB1 := Lib.hid (HB.out.trans hb1)
      have hc := (hb1.cell (p := ⟨q, o, none⟩) hq).trans hc
      have hf := below_frozen hb1 (p := ⟨q, o, none⟩) hq hf
      clear hb1
      go_wp2_with fail
      refine (wB tb _ 114 _ HT1.out (by first | omega | (simp [nbspL]; omega))).mono ?_
      rintro e w2 ⟨rfl, HT2, hb2⟩
      have HB2 := Lib.hid (HB1.out.trans hb2)
      have hc := (hb2.cell (p := ⟨q, o, none⟩) hq).trans hc
      have hf := below_frozen hb2 (p := ⟨q, o, none⟩) hq hf
      clear hb2
      go_wp2_with fail
      refine (wB tb _ qu _ HT2.out (by first | omega | (simp [nbspL]; omega))).mono ?_
      rintro e w3 ⟨rfl, HT3, hb3⟩
      have HB3 := Lib.hid (HB2.out.trans hb3)
      have hc := (hb3.cell (p := ⟨q, o, none⟩) hq).trans hc
      have hf := below_frozen hb3 (p := ⟨q, o, none⟩) hq hf
      clear hb3
      go_wp2_with fail
      refine (wS tb _ [113, 117, 111, 59] _ _ HT3.out rfl rfl (by first | omega | (simp [nbspL]; omega)) (by decide)).mono ?_
      rintro e w4 ⟨rfl, HT4, hb4⟩
      have HB4 := Lib.hid (HB3.out.trans hb4)
      have hc := (hb4.cell (p := ⟨q, o, none⟩) hq).trans hc
      have hf := below_frozen hb4 (p := ⟨q, o, none⟩) hq hf
      clear hb4
      go_wp2
      go_ret
      exact ⟨rfl, Lib.hid (by have := HT4.out; simpa [qout, nbspL, List.append_assoc] using this), HB4.out⟩
    · go_wp2_with fail
      refine (wS tb _ nbspL _ _ HT.out rfl rfl (by first | omega | (simp [nbspL]; omega)) (by decide)).mono ?_
      rintro e w1 ⟨rfl, HT1, hb1⟩
      have HB1 := Lib.hid (HB.out.trans hb1)
      have hc := (hb1.cell (p := ⟨q, o, none⟩) hq).trans hc
      have hf := below_frozen hb1 (p := ⟨q, o, none⟩) hq hf
      clear hb1
      go_wp2_with fail
      refine (wB tb _ 38 _ HT1.out (by first | omega | (simp [nbspL]; omega))).mono ?_
      rintro e w2 ⟨rfl, HT2, hb2⟩
      have HB2 := Lib.hid (HB1.out.trans hb2)
      have hc := (hb2.cell (p := ⟨q, o, none⟩) hq).trans hc
      have hf := below_frozen hb2 (p := ⟨q, o, none⟩) hq hf
      clear hb2
      go_wp2_with fail
      refine (wB tb _ 114 _ HT2.out (by first | omega | (simp [nbspL]; omega))).mono ?_
      rintro e w3 ⟨rfl, HT3, hb3⟩
      have HB3 := Lib.hid (HB2.out.trans hb3)
      have hc := (hb3.cell (p := ⟨q, o, none⟩) hq).trans hc
      have hf := below_frozen hb3 (p := ⟨q, o, none⟩) hq hf
      clear hb3
      go_wp2_with fail
      refine (wB tb _ qu _ HT3.out (by first | omega | (simp [nbspL]; omega))).mono ?_
      rintro e w4 ⟨rfl, HT4, hb4⟩
      have HB4 := Lib.hid (HB3.out.trans hb4)
      have hc := (hb4.cell (p := ⟨q, o, none⟩) hq).trans hc
      have hf := below_frozen hb4 (p := ⟨q, o, none⟩) hq hf
      clear hb4
      go_wp2_with fail
      refine (wS tb _ [113, 117, 111, 59] _ _ HT4.out rfl rfl (by first | omega | (simp [nbspL]; omega)) (by decide)).mono ?_
      rintro e w5 ⟨rfl, HT5, hb5⟩
      have HB5 := Lib.hid (HB4.out.trans hb5)
      have hc := (hb5.cell (p := ⟨q, o, none⟩) hq).trans hc
      have hf := below_frozen hb5 (p := ⟨q, o, none⟩) hq hf
      clear hb5
      go_wp2
      go_ret
      exact ⟨rfl, Lib.hid (by have := HT5.out; simpa [qout, nbspL, List.append_assoc] using this), HB5.out⟩
    · go_wp2_with fail
      refine (wB tb _ 38 _ HT.out (by first | omega | (simp [nbspL]; omega))).mono ?_
      rintro e w1 ⟨rfl, HT1, hb1⟩
      have HB1 := Lib.hid (HB.out.trans hb1)
      have hc := (hb1.cell (p := ⟨q, o, none⟩) hq).trans hc
      have hf := below_frozen hb1 (p := ⟨q, o, none⟩) hq hf
      clear hb1
      go_wp2_with fail
      refine (wB tb _ 108 _ HT1.out (by first | omega | (simp [nbspL]; omega))).mono ?_
      rintro e w2 ⟨rfl, HT2, hb2⟩
      have HB2 := Lib.hid (HB1.out.trans hb2)
      have hc := (hb2.cell (p := ⟨q, o, none⟩) hq).trans hc
      have hf := below_frozen hb2 (p := ⟨q, o, none⟩) hq hf
      clear hb2
      go_wp2_with fail
      refine (wB tb _ qu _ HT2.out (by first | omega | (simp [nbspL]; omega))).mono ?_
      rintro e w3 ⟨rfl, HT3, hb3⟩
      have HB3 := Lib.hid (HB2.out.trans hb3)
      have hc := (hb3.cell (p := ⟨q, o, none⟩) hq).trans hc
      have hf := below_frozen hb3 (p := ⟨q, o, none⟩) hq hf
      clear hb3
      go_wp2_with fail
      refine (wS tb _ [113, 117, 111, 59] _ _ HT3.out rfl rfl (by first | omega | (simp [nbspL]; omega)) (by decide)).mono ?_
      rintro e w4 ⟨rfl, HT4, hb4⟩
      have HB4 := Lib.hid (HB3.out.trans hb4)
      have hc := (hb4.cell (p := ⟨q, o, none⟩) hq).trans hc
      have hf := below_frozen hb4 (p := ⟨q, o, none⟩) hq hf
      clear hb4
      go_wp2
      go_ret
      exact ⟨rfl, Lib.hid (by have := HT4.out; simpa [qout, nbspL, List.append_assoc] using this), HB4.out⟩
    · go_wp2_with fail
      refine (wB tb _ 38 _ HT.out (by first | omega | (simp [nbspL]; omega))).mono ?_
      rintro e w1 ⟨rfl, HT1, hb1⟩
      have HB1 := Lib.hid (HB.out.trans hb1)
      have hc := (hb1.cell (p := ⟨q, o, none⟩) hq).trans hc
      have hf := below_frozen hb1 (p := ⟨q, o, none⟩) hq hf
      clear hb1
      go_wp2_with fail
      refine (wB tb _ 108 _ HT1.out (by first | omega | (simp [nbspL]; omega))).mono ?_
      rintro e w2 ⟨rfl, HT2, hb2⟩
      have HB2 := Lib.hid (HB1.out.trans hb2)
      have hc := (hb2.cell (p := ⟨q, o, none⟩) hq).trans hc
      have hf := below_frozen hb2 (p := ⟨q, o, none⟩) hq hf
      clear hb2
      go_wp2_with fail
      refine (wB tb _ qu _ HT2.out (by first | omega | (simp [nbspL]; omega))).mono ?_
      rintro e w3 ⟨rfl, HT3, hb3⟩
      have HB3 := Lib.hid (HB2.out.trans hb3)
      have hc := (hb3.cell (p := ⟨q, o, none⟩) hq).trans hc
      have hf := below_frozen hb3 (p := ⟨q, o, none⟩) hq hf
      clear hb3
      go_wp2_with fail
      refine (wS tb _ [113, 117, 111, 59] _ _ HT3.out rfl rfl (by first | omega | (simp [nbspL]; omega)) (by decide)).mono ?_
      rintro e w4 ⟨rfl, HT4, hb4⟩
      have HB4 := Lib.hid (HB3.out.trans hb4)
      have hc := (hb4.cell (p := ⟨q, o, none⟩) hq).trans hc
      have hf := below_frozen hb4 (p := ⟨q, o, none⟩) hq hf
      clear hb4
      go_wp2_with fail
      refine (wS tb _ nbspL _ _ HT4.out rfl rfl (by first | omega | (simp [nbspL]; omega)) (by decide)).mono ?_
      rintro e w5 ⟨rfl, HT5, hb5⟩
      have HB5 := Lib.hid (HB4.out.trans hb5)
      have hc := (hb5.cell (p := ⟨q, o, none⟩) hq).trans hc
      have hf := below_frozen hb5 (p := ⟨q, o, none⟩) hq hf
      clear hb5
      go_wp2
      go_ret
      exact ⟨rfl, Lib.hid (by have := HT5.out; simpa [qout, nbspL, List.append_assoc] using this), HB5.out⟩
end Go.Proofs.YtghmbpogniopoaaDoor
