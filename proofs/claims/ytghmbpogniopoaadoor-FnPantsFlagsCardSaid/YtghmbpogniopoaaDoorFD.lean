/- Punctuation: what Process writes, by the five marks and the text alone. -/
import Derived.Test.YtghmbpogniopoaaDoorF6
import Derived.Test.YtghmbpogniopoaaDoorF7
import Derived.Test.YtghmbpogniopoaaDoorF8
import Derived.Test.YtghmbpogniopoaaDoorFA
import Derived.Test.YtghmbpogniopoaaDoorFC
namespace Go.Proofs.YtghmbpogniopoaaDoor
open Go.RowKit
set_option linter.unusedVariables false

/-- The five marks. -/
structure Fl where
  nb : Bool
  an : Bool
  ds : Bool
  lx : Bool
  fr : Bool
def actR (F : Fl) (c : Int) (m : Nat) (f : Nat → Int) (p : Int) (s d : Bool) : Option HR :=
  if c = 60 then some (angR m f s d)
  else if c = 96 then some (backR m f p s d)
  else if c = 46 then some (periodR m f s d)
  else if F.fr = true ∧ (c = 49 ∨ c = 51) then some (numR m f p s d)
  else if F.fr = false ∧ 49 ≤ c ∧ c ≤ 57 then some (genR m f p s d)
  else if c = 39 then some (singR m f p s d)
  else if c = 40 then some (parensR m f s d)
  else if c = 45 then (if F.ds then (if F.lx then some (dashR m f p s d) else some (latexR m f s d)) else none)
  else if c = 38 then some (ampR (if !F.an then 97 else 100) F.nb m f p s d)
  else if c = 34 then some (if F.an then dqR 100 m f p s d else dqR 97 m f p s d)
  else none
def TF (q : Nat) (am : Value) (F : Fl) : Nat → Value := T4 q am F.an F.ds F.lx F.fr
/-- An action, ready to be called. -/
def Ready (F : Fl) (q : Nat) (am v : Value) (b off m c : Nat) (f : Nat → Int) (p : Int) (s d : Bool) (R : HR) : Prop :=
  (∃ Fn : FuncId, v = .func (.func Fn) #[.pointer (some ⟨q, 0, none⟩)] #[] ∧ (∀ args w, (callFunc Fn args).run Tryd.prog w = .ok (.enter Fn args) w) ∧ ∀ (tb : Nat) (w : World), HPre q tb s d (TF q am F) b off m c f w → AmpOK w q am (!F.an) F.nb → Calls Tryd.prog Fn #[.pointer (some ⟨q, 0, none⟩), .pointer (some ⟨tb, 0, none⟩), .int .u8 p, .slice (some ⟨b, off, none⟩) m c] w fun e w' => HPost q tb (TF q am F) R w e w') ∨
  (∃ (Fn : FuncId) (b1 b2 b3 : Nat), v = .func (.func Fn) #[] #[.pointer (some ⟨b1, 0, none⟩), .pointer (some ⟨b2, 0, none⟩), .pointer (some ⟨b3, 0, none⟩)] ∧ (∀ args w, (callFunc Fn args).run Tryd.prog w = .ok (.enter Fn args) w) ∧ ∀ (tb : Nat) (w : World), HPre q tb s d (TF q am F) b off m c f w → AmpOK w q am (!F.an) F.nb → Calls Tryd.prog Fn #[.pointer (some ⟨tb, 0, none⟩), .int .u8 p, .slice (some ⟨b, off, none⟩) m c, .pointer (some ⟨b1, 0, none⟩), .pointer (some ⟨b2, 0, none⟩), .pointer (some ⟨b3, 0, none⟩)] w fun e w' => HPost q tb (TF q am F) R w e w')
/-- What an action may do. -/
def Fine (m : Nat) (R : HR) : Prop := R.k < m ∧ R.out.length ≤ 4000
theorem qout_len (qu : Int) (o nb : Bool) : (qout qu o nb).length ≤ 4000 := by cases o <;> cases nb <;> simp [qout, nbspL]
theorem fine_ang {m : Nat} {f : Nat → Int} {s d : Bool} (hm : m ≤ 1000) (h : ∃ j, j < m ∧ f j = 62) : Fine m (angR m f s d) := by
  have := angR_lt h
  refine ⟨this, ?_⟩
  simp [angR]; omega
theorem fine_back {m : Nat} {f : Nat → Int} {p : Int} {s d : Bool} (hm : 1 ≤ m) : Fine m (backR m f p s d) := by
  unfold backR; split
  · exact ⟨by simp only []; omega, qout_len _ _ _⟩
  · exact ⟨hm, by simp⟩
theorem fine_sing {m : Nat} {f : Nat → Int} {p : Int} {s d : Bool} (hm : 1 ≤ m) : Fine m (singR m f p s d) := by
  unfold singR; (repeat' split)
  all_goals first | exact ⟨by simp only []; omega, qout_len _ _ _⟩ | exact ⟨by simp only []; omega, by simp only []; rw [strI_len]; decide⟩
theorem fine_parens {m : Nat} {f : Nat → Int} {s d : Bool} (hm : 1 ≤ m) : Fine m (parensR m f s d) := by
  unfold parensR; (repeat' split)
  all_goals first | exact ⟨by simp only []; omega, by simp only []; rw [strI_len]; decide⟩ | exact ⟨hm, by simp⟩
theorem fine_dash {m : Nat} {f : Nat → Int} {p : Int} {s d : Bool} (hm : 1 ≤ m) : Fine m (dashR m f p s d) := by
  unfold dashR; (repeat' split)
  all_goals first | exact ⟨by simp only []; omega, by simp only []; rw [strI_len]; decide⟩ | exact ⟨hm, by simp⟩
theorem fine_latex {m : Nat} {f : Nat → Int} {s d : Bool} (hm : 1 ≤ m) : Fine m (latexR m f s d) := by
  unfold latexR; (repeat' split)
  all_goals first | exact ⟨by simp only []; omega, by simp only []; rw [strI_len]; decide⟩ | exact ⟨hm, by simp⟩
theorem fine_period {m : Nat} {f : Nat → Int} {s d : Bool} (hm : 1 ≤ m) : Fine m (periodR m f s d) := by
  unfold periodR; (repeat' split)
  all_goals first | exact ⟨by simp only []; omega, by simp only []; rw [strI_len]; decide⟩ | exact ⟨hm, by simp⟩
theorem fine_num {m : Nat} {f : Nat → Int} {p : Int} {s d : Bool} (hm : 1 ≤ m) : Fine m (numR m f p s d) := by
  unfold numR; (repeat' split)
  all_goals first | exact ⟨by simp only []; omega, by simp only []; rw [strI_len]; decide⟩ | exact ⟨hm, by simp⟩
theorem fine_gen {m : Nat} {f : Nat → Int} {p : Int} {s d : Bool} (hm : 1 ≤ m) (h : m ≤ 1000) : Fine m (genR m f p s d) := by
  refine ⟨genR_lt hm, ?_⟩
  unfold genR genN genE
  have h1 := (scanTo_le (P := dgt) (f := f) (genD_le (m := m) (f := f) (N := scanTo dgt f m 0))).2
  have h2 := (scanTo_le (P := dgt) (f := f) (Nat.zero_le m)).2
  (repeat' split)
  case isTrue.isFalse.isTrue =>
    simp only [genO, List.length_append, List.length_map, List.length_range, strI_len]
    have e1 : (⟨#[60, 115, 117, 112, 62]⟩ : ByteArray).size = 5 := rfl
    have e2 : (⟨#[60, 47, 115, 117, 112, 62, 38, 102, 114, 97, 115, 108, 59, 60, 115, 117, 98, 62]⟩ : ByteArray).size = 18 := rfl
    have e3 : (⟨#[60, 47, 115, 117, 98, 62]⟩ : ByteArray).size = 6 := rfl
    rw [e1, e2, e3]; omega
  all_goals simp
theorem fine_amp {qu : Int} {nb : Bool} {m : Nat} {f : Nat → Int} {p : Int} {s d : Bool} (hm : 1 ≤ m) : Fine m (ampR qu nb m f p s d) := by
  unfold ampR
  cases h1 : preB m f quotL
  · cases h2 : preB m f nulL
    · exact ⟨hm, by simp⟩
    · have := preB_len h2
      simp [nulL] at this
      exact ⟨by simp; omega, by simp⟩
  · have := preB_len h1
    simp [quotL] at this
    rw [if_pos rfl]
    exact ⟨by simp only []; omega, qout_len _ _ _⟩
theorem fine_dq {qu : Int} {m : Nat} {f : Nat → Int} {p : Int} {s d : Bool} (hm : 1 ≤ m) : Fine m (dqR qu m f p s d) := ⟨hm, qout_len _ _ _⟩
theorem amp_ready (F : Fl) (q : Nat) (b1 b2 b3 b off m c : Nat) (f : Nat → Int) (p : Int) (s d : Bool) (am : Value) (e : am = .func (.func 27) #[] #[.pointer (some ⟨b1, 0, none⟩), .pointer (some ⟨b2, 0, none⟩), .pointer (some ⟨b3, 0, none⟩)]) :
    Ready F q am am b off m c f p s d (ampR (if !F.an then 97 else 100) F.nb m f p s d) := by
  refine .inr ⟨_, b1, b2, b3, e, fun _ _ => rfl, fun tb w h ha => ?_⟩
  obtain ⟨c1, c2, c3, e', h1, h2, h3, -⟩ := ha
  rw [e] at e'
  injection e' with _ _ e'
  simp at e'
  obtain ⟨rfl, rfl, rfl⟩ := e'
  exact amp_any q tb s d _ b off m c f p _ _ b1 b2 b3 w h h1 h2 h3
theorem act_form (F : Fl) (q : Nat) (am : Value) (ham : ∃ b1 b2 b3 : Nat, am = .func (.func 27) #[] #[.pointer (some ⟨b1, 0, none⟩), .pointer (some ⟨b2, 0, none⟩), .pointer (some ⟨b3, 0, none⟩)]) (b off m c : Nat) (f : Nat → Int) (p : Int) (s d : Bool) (hm : 1 ≤ m) (hmx : m ≤ 1000) (h0 : 0 ≤ f 0 ∧ f 0 ≤ 255) (h60 : f 0 = 60 → ∃ j, j < m ∧ f j = 62) :
    (actR F (f 0) m f p s d = none ∧ TF q am F (f 0).toNat = .nilFunc) ∨ ∃ R, actR F (f 0) m f p s d = some R ∧ Fine m R ∧ Ready F q am (TF q am F (f 0).toNat) b off m c f p s d R := by
  obtain ⟨b1, b2, b3, eam⟩ := ham
  have key : ∀ k : Nat, (k : Int) ≤ 255 → (((f 0).toNat = k) ↔ (f 0 = k)) := fun k _ => by omega
  have rest : ∀ (A : Option HR) (V : Value), (A = if f 0 = 39 then some (singR m f p s d)
  else if f 0 = 40 then some (parensR m f s d)
  else if f 0 = 45 then (if F.ds then (if F.lx then some (dashR m f p s d) else some (latexR m f s d)) else none)
  else if f 0 = 38 then some (ampR (if !F.an then 97 else 100) F.nb m f p s d)
  else if f 0 = 34 then some (if F.an then dqR 100 m f p s d else dqR 97 m f p s d)
  else none) → V = T2 q am F.an F.ds F.lx (f 0).toNat → (A = none ∧ V = .nilFunc) ∨ ∃ R, A = some R ∧ Fine m R ∧ Ready F q am V b off m c f p s d R := by
    intro A V eA eV
    unfold T2 T1 at eV
    by_cases h5 : f 0 = 39
    · rw [if_pos h5] at eA; rw [if_pos (by omega)] at eV
      subst eA; subst eV
      exact .inr ⟨_, rfl, fine_sing hm, .inl ⟨_, rfl, fun _ _ => rfl, fun tb w h ha => sing_any q tb s d _ b off m c f p w h hm⟩⟩
    rw [if_neg h5] at eA; rw [if_neg (by omega)] at eV
    by_cases h6 : f 0 = 40
    · rw [if_pos h6] at eA; rw [if_pos (by omega)] at eV
      subst eA; subst eV
      exact .inr ⟨_, rfl, fine_parens hm, .inl ⟨_, rfl, fun _ _ => rfl, fun tb w h ha => parens_any q tb s d _ b off m c f p w h hm⟩⟩
    rw [if_neg h6] at eA; rw [if_neg (by omega)] at eV
    by_cases h7 : f 0 = 45
    · rw [if_pos h7] at eA; rw [if_pos (by omega)] at eV
      cases hds : F.ds
      · rw [hds] at eA eV
        exact .inl ⟨eA, eV⟩
      · cases hlx : F.lx
        · rw [hds, hlx] at eA eV
          subst eA; subst eV
          exact .inr ⟨_, rfl, fine_latex hm, .inl ⟨_, rfl, fun _ _ => rfl, fun tb w h ha => latex_any q tb s d _ b off m c f p w h hm⟩⟩
        · rw [hds, hlx] at eA eV
          subst eA; subst eV
          exact .inr ⟨_, rfl, fine_dash hm, .inl ⟨_, rfl, fun _ _ => rfl, fun tb w h ha => dash_any q tb s d _ b off m c f p w h hm⟩⟩
    rw [if_neg h7] at eA; rw [if_neg (by omega)] at eV
    by_cases h8 : f 0 = 38
    · rw [if_pos h8] at eA; rw [if_pos (by omega)] at eV
      rw [eA, eV]
      exact .inr ⟨_, rfl, fine_amp hm, amp_ready F q b1 b2 b3 b off m c f p s d am eam⟩
    rw [if_neg h8] at eA; rw [if_neg (by omega)] at eV
    by_cases h9 : f 0 = 34
    · rw [if_pos h9] at eA; rw [if_pos (by omega)] at eV
      cases han : F.an
      · rw [han] at eA eV
        subst eA; subst eV
        exact .inr ⟨_, rfl, fine_dq hm, .inl ⟨_, rfl, fun _ _ => rfl, fun tb w h ha => adq_any q tb s d _ b off m c f p w h hm⟩⟩
      · rw [han] at eA eV
        subst eA; subst eV
        exact .inr ⟨_, rfl, fine_dq hm, .inl ⟨_, rfl, fun _ _ => rfl, fun tb w h ha => dq_any q tb s d _ b off m c f p w h hm⟩⟩
    rw [if_neg h9] at eA; rw [if_neg (by omega)] at eV
    exact .inl ⟨eA, eV⟩
  have all : ∀ (A : Option HR) (V : Value), A = actR F (f 0) m f p s d → V = TF q am F (f 0).toNat → (A = none ∧ V = .nilFunc) ∨ ∃ R, A = some R ∧ Fine m R ∧ Ready F q am V b off m c f p s d R := by
    intro A V eA eV
    unfold actR at eA
    unfold TF T4 T3 at eV
    by_cases h1 : f 0 = 60
    · rw [if_pos h1] at eA; rw [if_pos (by omega)] at eV
      subst eA; subst eV
      exact .inr ⟨_, rfl, fine_ang hmx (h60 h1), .inl ⟨_, rfl, fun _ _ => rfl, fun tb w h ha => ang_any q tb s d _ b off m c f p w h (h60 h1) (by omega)⟩⟩
    rw [if_neg h1] at eA; rw [if_neg (by omega)] at eV
    by_cases h2 : f 0 = 96
    · rw [if_pos h2] at eA; rw [if_pos (by omega)] at eV
      subst eA; subst eV
      exact .inr ⟨_, rfl, fine_back hm, .inl ⟨_, rfl, fun _ _ => rfl, fun tb w h ha => back_any q tb s d _ b off m c f p w h hm⟩⟩
    rw [if_neg h2] at eA; rw [if_neg (by omega)] at eV
    by_cases h3 : f 0 = 46
    · rw [if_pos h3] at eA; rw [if_pos (by omega)] at eV
      subst eA; subst eV
      exact .inr ⟨_, rfl, fine_period hm, .inl ⟨_, rfl, fun _ _ => rfl, fun tb w h ha => period_any q tb s d _ b off m c f p w h hm⟩⟩
    rw [if_neg h3] at eA; rw [if_neg (by omega)] at eV
    cases hfr : F.fr
    · rw [hfr, if_neg (by simp)] at eA; rw [hfr, if_neg (by simp)] at eV
      by_cases h4 : 49 ≤ f 0 ∧ f 0 ≤ 57
      · rw [if_pos ⟨rfl, h4⟩] at eA; rw [if_pos (by omega)] at eV
        subst eA; subst eV
        exact .inr ⟨_, rfl, fine_gen hm hmx, .inl ⟨_, rfl, fun _ _ => rfl, fun tb w h ha => gen_any q tb s d _ b off m c f p w h hm hmx⟩⟩
      · rw [if_neg (fun h => h4 h.2)] at eA; rw [if_neg (by omega)] at eV
        exact rest _ _ eA eV
    · rw [hfr] at eA; rw [hfr, if_pos rfl] at eV
      by_cases h4 : f 0 = 49 ∨ f 0 = 51
      · rw [if_pos ⟨rfl, h4⟩] at eA; rw [if_pos (by omega)] at eV
        subst eA; subst eV
        exact .inr ⟨_, rfl, fine_num hm, .inl ⟨_, rfl, fun _ _ => rfl, fun tb w h ha => num_any q tb s d _ b off m c f p w h h4 hm⟩⟩
      · rw [if_neg (fun h => h4 h.2), if_neg (by simp)] at eA; rw [if_neg (by omega)] at eV
        exact rest _ _ eA eV
  exact all _ _ rfl rfl
/-- How far Process is. -/
structure PS where
  mr : Nat
  i : Nat
  s : Bool
  d : Bool
  out : List Int
def seg (f : Nat → Int) (a b : Nat) : List Int := (List.range (b - a)).map fun j => f (a + j)
def prevC (f : Nat → Int) (i : Nat) : Int := if 0 < i then f (i - 1) else 0
def stepP (F : Fl) (n : Nat) (f : Nat → Int) (S : PS) : PS :=
  if S.i < n then
    match actR F (f S.i) (n - S.i) (fun j => f (S.i + j)) (prevC f S.i) S.s S.d with
    | none => { S with i := S.i + 1 }
    | some R => ⟨S.i + R.k + 1, S.i + R.k + 1, R.s, R.d, S.out ++ seg f S.mr S.i ++ R.out⟩
  else S
def runP (F : Fl) (n : Nat) (f : Nat → Int) : Nat → PS
  | 0 => ⟨0, 0, false, false, []⟩
  | k + 1 => stepP F n f (runP F n f k)
def outP (F : Fl) (n : Nat) (f : Nat → Int) : List Int := (runP F n f n).out ++ seg f (runP F n f n).mr n
theorem runP_stop {F : Fl} {n : Nat} {f : Nat → Int} {k : Nat} (h : n ≤ (runP F n f k).i) : ∀ j, runP F n f (k + j) = runP F n f k
  | 0 => rfl
  | j + 1 => by
    have ih := runP_stop h j
    show stepP F n f (runP F n f (k + j)) = _
    rw [ih]
    unfold stepP
    rw [if_neg (by omega)]
theorem step_none {F : Fl} {n : Nat} {f : Nat → Int} {S : PS} (hi : S.i < n) (h : actR F (f S.i) (n - S.i) (fun j => f (S.i + j)) (prevC f S.i) S.s S.d = none) : stepP F n f S = ⟨S.mr, S.i + 1, S.s, S.d, S.out⟩ := by
  unfold stepP; rw [if_pos hi, h]
theorem step_some {F : Fl} {n : Nat} {f : Nat → Int} {S : PS} {R : HR} (hi : S.i < n) (h : actR F (f S.i) (n - S.i) (fun j => f (S.i + j)) (prevC f S.i) S.s S.d = some R) : stepP F n f S = ⟨S.i + R.k + 1, S.i + R.k + 1, R.s, R.d, S.out ++ seg f S.mr S.i ++ R.out⟩ := by
  unfold stepP; rw [if_pos hi, h]
theorem seg_len (f : Nat → Int) (a b : Nat) : (seg f a b).length = b - a := by simp [seg]
end Go.Proofs.YtghmbpogniopoaaDoor
