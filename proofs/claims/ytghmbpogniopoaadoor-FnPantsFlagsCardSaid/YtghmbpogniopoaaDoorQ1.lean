/- Punctuation: a new renderer. -/
import Derived.Test.YtghmbpogniopoaaDoorMem2
import Derived.Test.YtghmbpogniopoaaDoorProg
import Derived.LoopN
import Derived.Handy
import Derived.ProofKit
import Derived.Deep.DeepCutAuto
import Derived.Deep.CutBlock
namespace Go.Proofs.YtghmbpogniopoaaDoor
open Go.RowKit
set_option linter.unusedVariables false

theorem zeroP : ∃ zs : Array Value, zs.size = 258 ∧ (¬ zs = #[]) ∧ zs = #[.bool false, .bool false] ++ Array.replicate 256 .nilFunc ∧ ∀ w, (zeroValue 44).run Tryd.prog w = .ok (.agg zs) w :=
  ⟨_, by simp, by intro h; have := congrArg Array.size h; simp at this, rfl, fun w => by kernel_rfl⟩
/-- The block of a renderer: two marks and the table of its actions. -/
def Tab (w : World) (q : Nat) (s d : Bool) (T : Nat → Value) : Prop :=
  ∃ cs, w.heap[q]? = some (.cells cs 44 (0, 0)) ∧ cs.size = 258 ∧ cs[0]? = some (.bool s) ∧ cs[1]? = some (.bool d) ∧ ∀ c, c < 256 → cs[2 + c]? = some (T c)
theorem Tab.cell {w : World} {q : Nat} {s d : Bool} {T : Nat → Value} (h : Tab w q s d T) (c : Nat) (hc : c < 256) : w.cell? ⟨q, 2 + c, none⟩ = some (T c) := by
  obtain ⟨cs, h1, h2, h3, h4, h5⟩ := h
  simp [World.cell?, h1, h5 c hc]
theorem Tab.frozen {w : World} {q : Nat} {s d : Bool} {T : Nat → Value} (h : Tab w q s d T) (o : Nat) : w.frozen? ⟨q, o, none⟩ = false := by
  obtain ⟨cs, h1, _⟩ := h
  simp [World.frozen?, h1]
theorem Tab.lt {w : World} {q : Nat} {s d : Bool} {T : Nat → Value} (h : Tab w q s d T) : q < w.heap.size := by
  obtain ⟨cs, h1, _⟩ := h
  exact (Array.getElem?_eq_some_iff.1 h1).1
theorem Tab.set {w : World} {q : Nat} {s d : Bool} {T : Nat → Value} (h : Tab w q s d T) (o k : Nat) (hk : o = 2 + k) (hk2 : k < 256) (v : Value) : Tab (w.setCell ⟨q, o, none⟩ v) q s d (fun c => if c = k then v else T c) := by
  subst hk
  obtain ⟨cs, h1, h2, h3, h4, h5⟩ := h
  refine ⟨cs.setIfInBounds (2 + k) v, heap_setCell_same w q (2 + k) cs _ v h1, by simp [h2], ?_, ?_, fun c hc => ?_⟩
  · rw [Array.getElem?_setIfInBounds_ne (by omega)]; exact h3
  · rw [Array.getElem?_setIfInBounds_ne (by omega)]; exact h4
  · by_cases e : c = k
    · subst e
      show (cs.setIfInBounds (2 + c) v)[2 + c]? = some (if c = c then v else T c)
      rw [Array.getElem?_setIfInBounds_self_of_lt (by omega), if_pos rfl]
    · show (cs.setIfInBounds (2 + k) v)[2 + c]? = some (if c = k then v else T c)
      rw [Array.getElem?_setIfInBounds_ne (by omega), if_neg e]; exact h5 c hc
theorem Tab.same {w w' : World} {q : Nat} {s d : Bool} {T : Nat → Value} (h : Tab w q s d T) (e : w'.heap[q]? = w.heap[q]?) : Tab w' q s d T := by
  obtain ⟨cs, h1, r⟩ := h
  exact ⟨cs, e.trans h1, r⟩
/-- The action for an ampersand. -/
def AmpOK (w : World) (q : Nat) (v : Value) (ang nb : Bool) : Prop :=
  ∃ b1 b2 b3 : Nat, v = .func (.func 27) #[] #[.pointer (some ⟨b1, 0, none⟩), .pointer (some ⟨b2, 0, none⟩), .pointer (some ⟨b3, 0, none⟩)] ∧
    w.cell? ⟨b1, 0, none⟩ = some (.pointer (some ⟨q, 0, none⟩)) ∧ w.cell? ⟨b2, 0, none⟩ = some (.int .u8 (if ang then 97 else 100)) ∧ w.cell? ⟨b3, 0, none⟩ = some (.bool nb) ∧ q < b1 ∧ q < b2 ∧ q < b3
theorem AmpOK.below {w w' : World} {q : Nat} {v : Value} {ang nb : Bool} (h : AmpOK w q v ang nb) (hb : Below w.heap.size w w') : AmpOK w' q v ang nb := by
  obtain ⟨b1, b2, b3, e, h1, h2, h3, r⟩ := h
  have k : ∀ b u, w.cell? ⟨b, 0, none⟩ = some u → w'.cell? ⟨b, 0, none⟩ = some u := fun b u hu => (hb.cell (p := ⟨b, 0, none⟩) (World.block_lt_of_cell? w _ hu)).trans hu
  exact ⟨b1, b2, b3, e, k _ _ h1, k _ _ h2, k _ _ h3, r⟩
theorem AmpOK.set {w : World} {q o : Nat} {v u : Value} {ang nb : Bool} (h : AmpOK w q v ang nb) : AmpOK (w.setCell ⟨q, o, none⟩ u) q v ang nb := by
  obtain ⟨b1, b2, b3, e, h1, h2, h3, r1, r2, r3⟩ := h
  have k : ∀ b y, q < b → w.cell? ⟨b, 0, none⟩ = some y → (w.setCell ⟨q, o, none⟩ u).cell? ⟨b, 0, none⟩ = some y := fun b y hq hy => by
    rw [World.cell?_setCell_other _ _ _ _ (by intro e; injection e with e _ _; omega)]
    exact hy
  exact ⟨b1, b2, b3, e, k _ _ r1 h1, k _ _ r2 h2, k _ _ r3 h3, r1, r2, r3⟩
set_option maxHeartbeats 1000000 in
theorem smartAmp_any (q : Nat) (ang nb : Bool) (w : World) (hq : q < w.heap.size) :
    Calls Tryd.prog 15 #[.pointer (some ⟨q, 0, none⟩), .bool ang, .bool nb] w fun e w' => ∃ p0 q0 r0 : Nat, e = .returned (.func (.func 27) #[] #[.pointer (some ⟨p0, 0, none⟩), .pointer (some ⟨q0, 0, none⟩), .pointer (some ⟨r0, 0, none⟩)]) ∧ Hid (AmpOK w' q (.func (.func 27) #[] #[.pointer (some ⟨p0, 0, none⟩), .pointer (some ⟨q0, 0, none⟩), .pointer (some ⟨r0, 0, none⟩)]) ang nb) ∧ Below w.heap.size w w' := by
  have hmf : ∀ (fn : Fn) (first cap : Array Value) (w : World), (Instr.makeFunc fn first cap).run Tryd.prog w = .ok (.func fn first cap) w := fun _ _ _ _ => rfl
  cases ang
  all_goals
    go_enter Tryd.func15, Tryd.ntmps15
    go_wp2
    go_ret
    refine ⟨_, _, _, rfl, Lib.hid ⟨_, _, _, rfl, ?_, ?_, ?_, ?_, ?_, ?_⟩, ?_⟩
    · simp [go_sem]
    · simp [go_sem]
    · simp [go_sem]
    · (try simp) <;> omega
    · (try simp) <;> omega
    · (try simp) <;> omega
    exact (((Below.refl _ w).alloc (Nat.le_refl _) _).alloc (by simp) _).alloc (by simp; omega) _
theorem Tab.congr {w : World} {q : Nat} {s d : Bool} {T T' : Nat → Value} (h : Tab w q s d T) (e : ∀ c, c < 256 → T c = T' c) : Tab w q s d T' := by
  obtain ⟨cs, h1, h2, h3, h4, h5⟩ := h
  exact ⟨cs, h1, h2, h3, h4, fun c hc => by rw [← e c hc]; exact h5 c hc⟩
theorem Tab.below {w w' : World} {q : Nat} {s d : Bool} {T : Nat → Value} (h : Tab w q s d T) (hb : Below w.heap.size w w') : Tab w' q s d T := h.same (hb.block q h.lt)
/-- The five marks of the flags. -/
def fNB (x : Int) : Bool := bits BinOp.and IntKind.i64 x 131072 != 0
def fAN (x : Int) : Bool := bits BinOp.and IntKind.i64 x 65536 == 0
def fDS (x : Int) : Bool := bits BinOp.and IntKind.i64 x 16384 != 0
def fLX (x : Int) : Bool := bits BinOp.and IntKind.i64 x 32768 == 0
def fFR (x : Int) : Bool := bits BinOp.and IntKind.i64 x 8192 == 0
def T1 (q : Nat) (am : Value) (an : Bool) : Nat → Value := fun c => if c = 38 then am else if c = 34 then (if an then (.func (.func 16) #[.pointer (some ⟨q, 0, none⟩)] #[]) else (.func (.func 17) #[.pointer (some ⟨q, 0, none⟩)] #[])) else .nilFunc
def T2 (q : Nat) (am : Value) (an ds lx : Bool) : Nat → Value := fun c => if c = 39 then (.func (.func 18) #[.pointer (some ⟨q, 0, none⟩)] #[]) else if c = 40 then (.func (.func 19) #[.pointer (some ⟨q, 0, none⟩)] #[]) else if c = 45 then (if ds then (if lx then (.func (.func 20) #[.pointer (some ⟨q, 0, none⟩)] #[]) else (.func (.func 21) #[.pointer (some ⟨q, 0, none⟩)] #[])) else .nilFunc) else T1 q am an c
def T3 (q : Nat) (am : Value) (an ds lx fr : Bool) : Nat → Value := fun c => if c = 46 then (.func (.func 22) #[.pointer (some ⟨q, 0, none⟩)] #[]) else if fr then (if c = 49 ∨ c = 51 then (.func (.func 23) #[.pointer (some ⟨q, 0, none⟩)] #[]) else T2 q am an ds lx c) else (if 49 ≤ c ∧ c ≤ 57 then (.func (.func 24) #[.pointer (some ⟨q, 0, none⟩)] #[]) else T2 q am an ds lx c)
def T4 (q : Nat) (am : Value) (an ds lx fr : Bool) : Nat → Value := fun c => if c = 60 then (.func (.func 25) #[.pointer (some ⟨q, 0, none⟩)] #[]) else if c = 96 then (.func (.func 26) #[.pointer (some ⟨q, 0, none⟩)] #[]) else T3 q am an ds lx fr c
/-- A new renderer. -/
def NewP (w w' : World) (x : Int) (e : Ending) : Prop := ∃ (q : Nat) (am : Value), e = .returned (.pointer (some ⟨q, 0, none⟩)) ∧ Tab w' q false false (T4 q am (fAN x) (fDS x) (fLX x) (fFR x)) ∧ AmpOK w' q am (!fAN x) (fNB x) ∧ w.heap.size ≤ q
set_option maxHeartbeats 8000000 in
set_option maxRecDepth 1000000 in
theorem newPants_any (w : World) (x : Int) (h0 : 0 ≤ x) (h1 : x < 524288) :
    Calls Tryd.prog 11 #[.int .i64 x] w fun e w' => NewP w w' x e ∧ Below w.heap.size w w' := by
  have hmf : ∀ (fn : Fn) (first cap : Array Value) (w : World), (Instr.makeFunc fn first cap).run Tryd.prog w = .ok (.func fn first cap) w := fun _ _ _ _ => rfl
  obtain ⟨zs, hz1, hz2, hz3, hz4⟩ := zeroP
  have HZ0 : Hid (Tab (w.alloc (.cells zs 44)) w.heap.size false false (fun _ => .nilFunc)) := Lib.hid (by
    refine ⟨zs, heap_alloc_new w _, hz1, by rw [hz3]; rfl, by rw [hz3]; rfl, fun c hc => ?_⟩
    rw [hz3, Array.getElem?_append_right (by simp), show 2 + c - (#[Value.bool false, .bool false] : Array Value).size = c from by simp]
    simp [hc])
  clear hz3
  go_enter Tryd.func11, Tryd.ntmps11
  have hsf := fun (a : Addr) (fn : Fn) (f c : Array Value) (m : Mode) (w : World) => run_store Tryd.prog w a (.func fn f c) m rfl
  go_wp2_with fail
  refine (smartAmp_any w.heap.size true false _ (by simp)).mono ?_
  rintro e w1 ⟨p1, q1, r1, rfl, HA1, hb1⟩
  have HB1 := Lib.hid hb1
  have hlt1 : w.heap.size < w1.heap.size := by have := hb1.size; simp at this; omega
  clear hb1
  go_wp2_with fail
  refine (smartAmp_any w.heap.size true true _ (by omega)).mono ?_
  rintro e w2 ⟨p2, q2, r2, rfl, HA2, hb2⟩
  have HB2 := Lib.hid hb2
  have hlt2 : w.heap.size < w2.heap.size := by have := hb2.size; omega
  clear hb2
  go_wp2_with fail
  refine (smartAmp_any w.heap.size false false _ (by omega)).mono ?_
  rintro e w3 ⟨p3, q3, r3, rfl, HA3, hb3⟩
  have HB3 := Lib.hid hb3
  have hlt3 : w.heap.size < w3.heap.size := by have := hb3.size; omega
  clear hb3
  go_wp2_with fail
  refine (smartAmp_any w.heap.size false true _ (by omega)).mono ?_
  rintro e w4 ⟨p4, q4, r4, rfl, HA4, hb4⟩
  have HB4 := Lib.hid hb4
  have hlt4 : w.heap.size < w4.heap.size := by have := hb4.size; omega
  clear hb4
  have HT4 := Lib.hid ((((HZ0.out.below HB1.out).below HB2.out).below HB3.out).below HB4.out)
  have HA1' := Lib.hid (((HA1.out.below HB2.out).below HB3.out).below HB4.out)
  have HA2' := Lib.hid ((HA2.out.below HB3.out).below HB4.out)
  have HA3' := Lib.hid (HA3.out.below HB4.out)
  have HW4 : Hid (Below w.heap.size w w4) := Lib.hid ((((((Below.refl _ w).alloc (Nat.le_refl _) _).trans (HB1.out.mono (by simp))).trans (HB2.out.mono (by omega))).trans (HB3.out.mono (by omega))).trans (HB4.out.mono (by omega)))
  clear HA1 HA2 HA3 HB1 HB2 HB3 HB4 HZ0 hlt1 hlt2 hlt3
  have k34 : w4.cell? ⟨w.heap.size, 36, none⟩ = some .nilFunc := HT4.out.cell 34 (by omega)
  have k38 : w4.cell? ⟨w.heap.size, 40, none⟩ = some .nilFunc := HT4.out.cell 38 (by omega)
  have g34 := HT4.out.frozen 36
  have g38 := HT4.out.frozen 40
  go_upto_if 19 with fail
  go_cut [] (fun wx => ∃ p p' p'' : Nat, Hid (Tab wx w.heap.size false false (T1 w.heap.size (.func (.func 27) #[] #[.pointer (some ⟨p, 0, none⟩), .pointer (some ⟨p', 0, none⟩), .pointer (some ⟨p'', 0, none⟩)]) (fAN x))) ∧ Hid (AmpOK wx w.heap.size (.func (.func 27) #[] #[.pointer (some ⟨p, 0, none⟩), .pointer (some ⟨p', 0, none⟩), .pointer (some ⟨p'', 0, none⟩)]) (!fAN x) (fNB x)) ∧ Hid (Below w.heap.size w wx))
  case first =>
    cases hnb : fNB x
    all_goals cases han : fAN x
    all_goals
      have HAN := Lib.hid han; have HNB := Lib.hid hnb
      unfold fNB at hnb
      unfold fAN at han
      go_wp2_with fail
      go_meet
    · refine ⟨p1, q1, r1, Lib.hid ?_, Lib.hid ?_, Lib.hid ?_⟩
      · exact ((HT4.out.set 36 34 rfl (by omega) _).set 40 38 rfl (by omega) _).congr (fun c _ => by unfold T1; rw [HAN.out]; rfl)
      · rw [HAN.out, HNB.out]; exact HA1'.out.set.set
      · exact (HW4.out.setCell (Nat.le_refl _) _).setCell (Nat.le_refl _) _
    · refine ⟨p3, q3, r3, Lib.hid ?_, Lib.hid ?_, Lib.hid ?_⟩
      · exact ((HT4.out.set 36 34 rfl (by omega) _).set 40 38 rfl (by omega) _).congr (fun c _ => by unfold T1; rw [HAN.out]; rfl)
      · rw [HAN.out, HNB.out]; exact HA3'.out.set.set
      · exact (HW4.out.setCell (Nat.le_refl _) _).setCell (Nat.le_refl _) _
    · refine ⟨p2, q2, r2, Lib.hid ?_, Lib.hid ?_, Lib.hid ?_⟩
      · exact ((HT4.out.set 36 34 rfl (by omega) _).set 40 38 rfl (by omega) _).congr (fun c _ => by unfold T1; rw [HAN.out]; rfl)
      · rw [HAN.out, HNB.out]; exact HA2'.out.set.set
      · exact (HW4.out.setCell (Nat.le_refl _) _).setCell (Nat.le_refl _) _
    · refine ⟨p4, q4, r4, Lib.hid ?_, Lib.hid ?_, Lib.hid ?_⟩
      · exact ((HT4.out.set 36 34 rfl (by omega) _).set 40 38 rfl (by omega) _).congr (fun c _ => by unfold T1; rw [HAN.out]; rfl)
      · rw [HAN.out, HNB.out]; exact HA4.out.set.set
      · exact (HW4.out.setCell (Nat.le_refl _) _).setCell (Nat.le_refl _) _
  case rest =>
    obtain ⟨p, p', p'', HT, HA, HW⟩ := hcut
    clear HT4 HA1' HA2' HA3' HA4 HW4 hlt4 hz1 hz2 hz4 k34 k38 g34 g38
    have k39 := HT.out.cell 39 (by omega)
    have g39 := HT.out.frozen 41
    have k40 := HT.out.cell 40 (by omega)
    have g40 := HT.out.frozen 42
    have k45 := HT.out.cell 45 (by omega)
    have g45 := HT.out.frozen 47
    go_upto_if 50 with fail
    go_cut [] (fun wx => Hid (Tab wx w.heap.size false false (T2 w.heap.size (.func (.func 27) #[] #[.pointer (some ⟨p, 0, none⟩), .pointer (some ⟨p', 0, none⟩), .pointer (some ⟨p'', 0, none⟩)]) (fAN x) (fDS x) (fLX x))) ∧ Hid (AmpOK wx w.heap.size (.func (.func 27) #[] #[.pointer (some ⟨p, 0, none⟩), .pointer (some ⟨p', 0, none⟩), .pointer (some ⟨p'', 0, none⟩)]) (!fAN x) (fNB x)) ∧ Hid (Below w.heap.size w wx))
    case first =>
      cases hds : fDS x
      · have HDS := Lib.hid hds
        unfold fDS at hds
        go_wp2_with fail
        go_meet
        refine ⟨Lib.hid ?_, Lib.hid ?_, Lib.hid ?_⟩
        · exact ((HT.out.set 41 39 rfl (by omega) _).set 42 40 rfl (by omega) _).congr (fun c hc => by unfold T2 T1; rw [HDS.out]; simp only [Bool.false_eq_true, if_false]; ((repeat' split) <;> (first | rfl | omega)))
        · exact HA.out.set.set
        · exact (HW.out.setCell (Nat.le_refl _) _).setCell (Nat.le_refl _) _
      · have HDS := Lib.hid hds
        unfold fDS at hds
        cases hlx : fLX x
        all_goals
          have HLX := Lib.hid hlx
          unfold fLX at hlx
          go_wp2_with fail
          go_meet
          refine ⟨Lib.hid ?_, Lib.hid ?_, Lib.hid ?_⟩
          · exact (((HT.out.set 41 39 rfl (by omega) _).set 42 40 rfl (by omega) _).set 47 45 rfl (by omega) _).congr (fun c hc => by unfold T2; rw [HDS.out, HLX.out]; simp only [Bool.false_eq_true, if_false, if_true]; ((repeat' split) <;> (first | rfl | omega)))
          · exact HA.out.set.set.set
          · exact ((HW.out.setCell (Nat.le_refl _) _).setCell (Nat.le_refl _) _).setCell (Nat.le_refl _) _
    case rest =>
      obtain ⟨HT2, HA2, HW2⟩ := hcut
      clear HT HA HW k39 k40 k45 g39 g40 g45
      have k46 := HT2.out.cell 46 (by omega)
      have g46 := HT2.out.frozen 48
      have k49 := HT2.out.cell 49 (by omega)
      have g49 := HT2.out.frozen 51
      have k50 := HT2.out.cell 50 (by omega)
      have g50 := HT2.out.frozen 52
      have k51 := HT2.out.cell 51 (by omega)
      have g51 := HT2.out.frozen 53
      have k52 := HT2.out.cell 52 (by omega)
      have g52 := HT2.out.frozen 54
      have k53 := HT2.out.cell 53 (by omega)
      have g53 := HT2.out.frozen 55
      have k54 := HT2.out.cell 54 (by omega)
      have g54 := HT2.out.frozen 56
      have k55 := HT2.out.cell 55 (by omega)
      have g55 := HT2.out.frozen 57
      have k56 := HT2.out.cell 56 (by omega)
      have g56 := HT2.out.frozen 58
      have k57 := HT2.out.cell 57 (by omega)
      have g57 := HT2.out.frozen 59
      go_upto_if 65 with fail
      go_cut [] (fun wx => Hid (Tab wx w.heap.size false false (T3 w.heap.size (.func (.func 27) #[] #[.pointer (some ⟨p, 0, none⟩), .pointer (some ⟨p', 0, none⟩), .pointer (some ⟨p'', 0, none⟩)]) (fAN x) (fDS x) (fLX x) (fFR x))) ∧ Hid (AmpOK wx w.heap.size (.func (.func 27) #[] #[.pointer (some ⟨p, 0, none⟩), .pointer (some ⟨p', 0, none⟩), .pointer (some ⟨p'', 0, none⟩)]) (!fAN x) (fNB x)) ∧ Hid (Below w.heap.size w wx))
      case first =>
        cases hfr : fFR x
        · have HFR := Lib.hid hfr
          unfold fFR at hfr
          have HT2' := Lib.hid (HT2.out.set 48 46 rfl (by omega) (.func (.func 22) #[.pointer (some ⟨w.heap.size, 0, none⟩)] #[]))
          have HA2' := Lib.hid (HA2.out.set (o := 48) (u := (.func (.func 22) #[.pointer (some ⟨w.heap.size, 0, none⟩)] #[])))
          have HW2' := Lib.hid (HW2.out.setCell (p := ⟨w.heap.size, 48, none⟩) (Nat.le_refl _) (.func (.func 22) #[.pointer (some ⟨w.heap.size, 0, none⟩)] #[]))
          go_wp2_with fail
          go_loopw [9] (fun iv wr => ∃ k : Nat, k ≤ 9 ∧ iv = .int .i32 (49 + k) ∧ Hid (Tab wr w.heap.size false false (fun c => if c = 46 then (.func (.func 22) #[.pointer (some ⟨w.heap.size, 0, none⟩)] #[]) else if 49 ≤ c ∧ c < 49 + k then (.func (.func 24) #[.pointer (some ⟨w.heap.size, 0, none⟩)] #[]) else T2 w.heap.size (.func (.func 27) #[] #[.pointer (some ⟨p, 0, none⟩), .pointer (some ⟨p', 0, none⟩), .pointer (some ⟨p'', 0, none⟩)]) (fAN x) (fDS x) (fLX x) c)) ∧ Hid (AmpOK wr w.heap.size (.func (.func 27) #[] #[.pointer (some ⟨p, 0, none⟩), .pointer (some ⟨p', 0, none⟩), .pointer (some ⟨p'', 0, none⟩)]) (!fAN x) (fNB x)) ∧ Hid (Below w.heap.size w wr)) (fun iv _ => 58 - (intOf iv).toNat)
          case atStart => exact ⟨0, by omega, rfl, Lib.hid (HT2'.out.congr (fun c hc => by ((repeat' split) <;> (first | rfl | omega)))), HA2', HW2'⟩
          case round =>
            obtain ⟨k, hk, rfl, HTk, HAk, HWk⟩ := hrel
            by_cases hk9 : k < 9
            · have kk := HTk.out.cell (49 + k) (by omega)
              have gk := HTk.out.frozen (2 + (49 + k))
              go_wp2_with fail
              go_roundw
              case rel => exact ⟨k + 1, by omega, by first | go_num | (congr 1; omega), Lib.hid ((HTk.out.set (2 + (49 + k)) (49 + k) rfl (by omega) _).congr (fun c hc => by ((repeat' split) <;> (first | rfl | omega)))), Lib.hid HAk.out.set, Lib.hid (HWk.out.setCell (Nat.le_refl _) _)⟩
              case measure => simp [intOf]; omega
            · obtain rfl : k = 9 := by omega
              go_wp2_with fail
              go_meet
              exact ⟨Lib.hid (HTk.out.congr (fun c hc => by unfold T3; rw [HFR.out]; simp only [Bool.false_eq_true, if_false]; ((repeat' split) <;> (first | rfl | omega)))), HAk, HWk⟩
        · have HFR := Lib.hid hfr
          unfold fFR at hfr
          go_wp2_with fail
          go_meet
          refine ⟨Lib.hid ?_, Lib.hid ?_, Lib.hid ?_⟩
          · exact (((HT2.out.set 48 46 rfl (by omega) _).set 51 49 rfl (by omega) _).set 53 51 rfl (by omega) _).congr (fun c hc => by unfold T3; rw [HFR.out]; simp only [if_true]; ((repeat' split) <;> (first | rfl | omega)))
          · exact HA2.out.set.set.set
          · exact ((HW2.out.setCell (Nat.le_refl _) _).setCell (Nat.le_refl _) _).setCell (Nat.le_refl _) _
      case rest =>
        obtain ⟨HT3, HA3, HW3⟩ := hcut
        clear HT2 HA2 HW2 k46 k49 k50 k51 k52 k53 k54 k55 k56 k57 g46 g49 g50 g51 g52 g53 g54 g55 g56 g57
        have k60 := HT3.out.cell 60 (by omega)
        have g60 := HT3.out.frozen 62
        have k96 := HT3.out.cell 96 (by omega)
        have g96 := HT3.out.frozen 98
        go_wp2_with fail
        go_ret
        refine ⟨⟨w.heap.size, (.func (.func 27) #[] #[.pointer (some ⟨p, 0, none⟩), .pointer (some ⟨p', 0, none⟩), .pointer (some ⟨p'', 0, none⟩)]), rfl, ?_, ?_, Nat.le_refl _⟩, ?_⟩
        · exact ((HT3.out.set 62 60 rfl (by omega) _).set 98 96 rfl (by omega) _).congr (fun c hc => by unfold T4; ((repeat' split) <;> (first | rfl | omega)))
        · exact HA3.out.set.set
        · exact (HW3.out.setCell (Nat.le_refl _) _).setCell (Nat.le_refl _) _
end Go.Proofs.YtghmbpogniopoaaDoor
