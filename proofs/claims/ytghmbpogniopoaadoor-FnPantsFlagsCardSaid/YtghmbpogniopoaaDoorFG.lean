/- Punctuation: flags of which only five count; what is written are bytes. -/
import Derived.Test.YtghmbpogniopoaaDoorFD
import Derived.Laws.BitsAllLaws
import Derived.Lib.QuoteBits
namespace Go.Proofs.YtghmbpogniopoaaDoor
open Go.RowKit
set_option linter.unusedVariables false

theorem and_i64 (a b : Nat) (ha : a < 9223372036854775808) (hb : b < 9223372036854775808) : bits .and .i64 (a : Int) (b : Int) = ((a &&& b : Nat) : Int) := by
  show IntKind.i64.wrap ((BitVec.ofInt 64 (a : Int) &&& BitVec.ofInt 64 (b : Int)).toNat : Int) = _
  rw [BitVec.toNat_and, ofInt_u64 a (by omega), ofInt_u64 b (by omega)]
  exact Lib.wrap_i64_small _ (Nat.lt_of_le_of_lt Nat.and_le_left ha)
theorem or_i64 (a b : Nat) (ha : a < 9223372036854775808) (hb : b < 9223372036854775808) : bits .or .i64 (a : Int) (b : Int) = ((a ||| b : Nat) : Int) := by
  show IntKind.i64.wrap ((BitVec.ofInt 64 (a : Int) ||| BitVec.ofInt 64 (b : Int)).toNat : Int) = _
  rw [BitVec.toNat_or, ofInt_u64 a (by omega), ofInt_u64 b (by omega)]
  exact Lib.wrap_i64_small _ (Nat.or_lt_two_pow (n := 63) ha hb)
theorem andNot_i64 (a b : Nat) (ha : a < 9223372036854775808) (hb : b < 9223372036854775808) : bits .andNot .i64 (a : Int) (b : Int) = ((a &&& (18446744073709551615 - b) : Nat) : Int) := by
  show IntKind.i64.wrap ((BitVec.ofInt 64 (a : Int) &&& ~~~BitVec.ofInt 64 (b : Int)).toNat : Int) = _
  rw [BitVec.toNat_and, BitVec.toNat_not, ofInt_u64 a (by omega), ofInt_u64 b (by omega)]
  exact Lib.wrap_i64_small _ (Nat.lt_of_le_of_lt Nat.and_le_left ha)
/-- The own flags of one number, the others of another. -/
def mixF (x y : Int) : Int := bits .or .i64 (bits .and .i64 x 253952) (bits .andNot .i64 y 253952)
theorem mix_nat (a b : Nat) (ha : a < 524288) (hb : b < 524288) : mixF a b = (((a &&& 253952) ||| (b &&& 18446744073709297663) : Nat) : Int) := by
  unfold mixF
  have h1 := and_i64 a 253952 (by omega) (by omega)
  have h2 := andNot_i64 b 253952 (by omega) (by omega)
  have e1 : a &&& 253952 ≤ a := Nat.and_le_left
  have e2 : b &&& 18446744073709297663 ≤ b := Nat.and_le_left
  rw [show 18446744073709551615 - 253952 = 18446744073709297663 from rfl] at h2
  rw [show (253952 : Int) = ((253952 : Nat) : Int) from rfl, h1, h2]
  exact or_i64 _ _ (by omega) (by omega)
theorem mix_rng (x y : Int) (hx : 0 ≤ x ∧ x < 524288) (hy : 0 ≤ y ∧ y < 524288) : 0 ≤ mixF x y ∧ mixF x y < 524288 := by
  obtain ⟨a, rfl⟩ := Int.eq_ofNat_of_zero_le hx.1
  obtain ⟨b, rfl⟩ := Int.eq_ofNat_of_zero_le hy.1
  have ha : a < 524288 := by omega
  have hb : b < 524288 := by omega
  rw [mix_nat a b ha hb]
  have e1 : a &&& 253952 ≤ a := Nat.and_le_left
  have e2 : b &&& 18446744073709297663 ≤ b := Nat.and_le_left
  have h : (a &&& 253952) ||| (b &&& 18446744073709297663) < 2 ^ 19 := Nat.or_lt_two_pow (by omega) (by omega)
  omega
theorem mix_bit (x y : Int) (hx : 0 ≤ x ∧ x < 524288) (hy : 0 ≤ y ∧ y < 524288) (e : Nat) (he : 13 ≤ e ∧ e ≤ 17) : bits .and .i64 (mixF x y) ((2 ^ e : Nat) : Int) = bits .and .i64 x ((2 ^ e : Nat) : Int) := by
  have hr := mix_rng x y hx hy
  obtain ⟨a, rfl⟩ := Int.eq_ofNat_of_zero_le hx.1
  obtain ⟨b, rfl⟩ := Int.eq_ofNat_of_zero_le hy.1
  have ha : a < 524288 := by omega
  have hb : b < 524288 := by omega
  rw [mix_nat a b ha hb] at hr ⊢
  have h2 : 2 ^ e < 9223372036854775808 := Nat.lt_of_le_of_lt (Nat.pow_le_pow_right (by decide) he.2) (by decide)
  rw [and_i64 _ _ (by omega) h2, and_i64 _ _ (by omega) h2]
  congr 1
  apply Nat.eq_of_testBit_eq
  intro i
  rw [Nat.testBit_and, Nat.testBit_and, Nat.testBit_or, Nat.testBit_and, Nat.testBit_and, Nat.testBit_two_pow]
  by_cases hi : e = i
  · subst hi
    have h : e = 13 ∨ e = 14 ∨ e = 15 ∨ e = 16 ∨ e = 17 := by omega
    have t1 : Nat.testBit 253952 e = true := by rcases h with rfl | rfl | rfl | rfl | rfl <;> decide
    have t2 : Nat.testBit 18446744073709297663 e = false := by rcases h with rfl | rfl | rfl | rfl | rfl <;> decide
    rw [t1, t2]; simp
  · simp [hi]
/-- The five marks of a number. -/
def flOf (x : Int) : Fl := ⟨fNB x, fAN x, fDS x, fLX x, fFR x⟩
theorem mix_fl (x y : Int) (hx : 0 ≤ x ∧ x < 524288) (hy : 0 ≤ y ∧ y < 524288) : flOf (mixF x y) = flOf x := by
  have h13 := mix_bit x y hx hy 13 (by omega)
  have h14 := mix_bit x y hx hy 14 (by omega)
  have h15 := mix_bit x y hx hy 15 (by omega)
  have h16 := mix_bit x y hx hy 16 (by omega)
  have h17 := mix_bit x y hx hy 17 (by omega)
  unfold flOf fNB fAN fDS fLX fFR
  rw [show (131072 : Int) = ((2 ^ 17 : Nat) : Int) from rfl, show (65536 : Int) = ((2 ^ 16 : Nat) : Int) from rfl, show (16384 : Int) = ((2 ^ 14 : Nat) : Int) from rfl, show (32768 : Int) = ((2 ^ 15 : Nat) : Int) from rfl, show (8192 : Int) = ((2 ^ 13 : Nat) : Int) from rfl, h13, h14, h15, h16, h17]
/-- Numbers that are bytes. -/
def Rng (l : List Int) : Prop := ∀ x ∈ l, 0 ≤ x ∧ x ≤ 255
theorem Rng.nil : Rng [] := fun x h => by simp at h
theorem Rng.app {a b : List Int} (ha : Rng a) (hb : Rng b) : Rng (a ++ b) := fun x h => by
  rcases List.mem_append.1 h with h | h
  · exact ha x h
  · exact hb x h
theorem Rng.str (s : ByteArray) : Rng (strI s) := fun x h => by
  simp only [strI, List.mem_map] at h
  obtain ⟨b, _, rfl⟩ := h
  have := b.toNat_lt
  omega
theorem Rng.map {f : Nat → Int} (hf : ∀ j, 0 ≤ f j ∧ f j ≤ 255) (l : List Nat) (g : Nat → Nat) : Rng (l.map fun j => f (g j)) := fun x h => by
  simp only [List.mem_map] at h
  obtain ⟨j, _, rfl⟩ := h
  exact hf _
theorem Rng.one {f : Nat → Int} (hf : ∀ j, 0 ≤ f j ∧ f j ≤ 255) : Rng [f 0] := fun x h => by simp at h; subst h; exact hf 0
theorem Rng.qout {qu : Int} (h : 0 ≤ qu ∧ qu ≤ 255) (o nb : Bool) : Rng (qout qu o nb) := by
  intro x hx
  cases o <;> cases nb <;> simp [Proofs.YtghmbpogniopoaaDoor.qout, nbspL] at hx <;> omega
theorem back_rng {m : Nat} {f : Nat → Int} {p : Int} {s d : Bool} (hf : ∀ j, 0 ≤ f j ∧ f j ≤ 255) : Rng (backR m f p s d).out := by
  unfold backR; (repeat' split)
  all_goals first | exact Rng.qout (by decide) _ _ | exact Rng.one hf
theorem period_rng {m : Nat} {f : Nat → Int} {s d : Bool} (hf : ∀ j, 0 ≤ f j ∧ f j ≤ 255) : Rng (periodR m f s d).out := by
  unfold periodR; (repeat' split)
  all_goals first | exact Rng.str _ | exact Rng.one hf
theorem num_rng {m : Nat} {f : Nat → Int} {p : Int} {s d : Bool} (hf : ∀ j, 0 ≤ f j ∧ f j ≤ 255) : Rng (numR m f p s d).out := by
  unfold numR; (repeat' split)
  all_goals first | exact Rng.str _ | exact Rng.one hf
theorem parens_rng {m : Nat} {f : Nat → Int} {s d : Bool} (hf : ∀ j, 0 ≤ f j ∧ f j ≤ 255) : Rng (parensR m f s d).out := by
  unfold parensR; (repeat' split)
  all_goals first | exact Rng.str _ | exact Rng.one hf
theorem dash_rng {m : Nat} {f : Nat → Int} {p : Int} {s d : Bool} (hf : ∀ j, 0 ≤ f j ∧ f j ≤ 255) : Rng (dashR m f p s d).out := by
  unfold dashR; (repeat' split)
  all_goals first | exact Rng.str _ | exact Rng.one hf
theorem latex_rng {m : Nat} {f : Nat → Int} {s d : Bool} (hf : ∀ j, 0 ≤ f j ∧ f j ≤ 255) : Rng (latexR m f s d).out := by
  unfold latexR; (repeat' split)
  all_goals first | exact Rng.str _ | exact Rng.one hf
theorem sing_rng {m : Nat} {f : Nat → Int} {p : Int} {s d : Bool} : Rng (singR m f p s d).out := by
  unfold singR; (repeat' split)
  all_goals first | exact Rng.str _ | exact Rng.qout (by decide) _ _
theorem gen_rng {m : Nat} {f : Nat → Int} {p : Int} {s d : Bool} (hf : ∀ j, 0 ≤ f j ∧ f j ≤ 255) : Rng (genR m f p s d).out := by
  unfold genR genN genE; (repeat' split)
  all_goals first | exact Rng.one hf | exact (((((Rng.str _).app (Rng.map hf _ _)).app (Rng.str _)).app (Rng.map hf _ _)).app (Rng.str _))
theorem amp_rng {qu : Int} {nb : Bool} {m : Nat} {f : Nat → Int} {p : Int} {s d : Bool} (hq : 0 ≤ qu ∧ qu ≤ 255) : Rng (ampR qu nb m f p s d).out := by
  unfold ampR
  cases preB m f quotL
  · cases preB m f nulL
    · intro x hx; simp at hx; subst hx; decide
    · exact Rng.nil
  · exact Rng.qout hq _ _
theorem act_rng {F : Fl} {c : Int} {m : Nat} {f : Nat → Int} {p : Int} {s d : Bool} {R : HR} (hf : ∀ j, 0 ≤ f j ∧ f j ≤ 255) (h : actR F c m f p s d = some R) : Rng R.out := by
  unfold actR at h
  by_cases h0 : c = 60
  · rw [if_pos h0] at h
    cases h; exact Rng.map hf _ (fun j => j)
  rw [if_neg h0] at h
  by_cases h1 : c = 96
  · rw [if_pos h1] at h
    cases h; exact back_rng hf
  rw [if_neg h1] at h
  by_cases h2 : c = 46
  · rw [if_pos h2] at h
    cases h; exact period_rng hf
  rw [if_neg h2] at h
  by_cases h3 : F.fr = true ∧ (c = 49 ∨ c = 51)
  · rw [if_pos h3] at h
    cases h; exact num_rng hf
  rw [if_neg h3] at h
  by_cases h4 : F.fr = false ∧ 49 ≤ c ∧ c ≤ 57
  · rw [if_pos h4] at h
    cases h; exact gen_rng hf
  rw [if_neg h4] at h
  by_cases h5 : c = 39
  · rw [if_pos h5] at h
    cases h; exact sing_rng
  rw [if_neg h5] at h
  by_cases h6 : c = 40
  · rw [if_pos h6] at h
    cases h; exact parens_rng hf
  rw [if_neg h6] at h
  by_cases h7 : c = 45
  · rw [if_pos h7] at h
    cases hds : F.ds <;> rw [hds] at h
    · cases h
    · rw [if_pos rfl] at h
      cases hlx : F.lx <;> rw [hlx] at h
      · rw [if_neg (by decide)] at h; cases h; exact latex_rng hf
      · rw [if_pos rfl] at h; cases h; exact dash_rng hf
  rw [if_neg h7] at h
  by_cases h8 : c = 38
  · rw [if_pos h8] at h
    cases h; exact amp_rng (by cases F.an <;> decide)
  rw [if_neg h8] at h
  by_cases h9 : c = 34
  · rw [if_pos h9] at h
    cases h
    cases F.an
    · exact Rng.qout (by decide) _ _
    · exact Rng.qout (by decide) _ _
  rw [if_neg h9] at h
  cases h
theorem run_rng {F : Fl} {n : Nat} {f : Nat → Int} (hf : ∀ j, 0 ≤ f j ∧ f j ≤ 255) : ∀ k, Rng (runP F n f k).out
  | 0 => Rng.nil
  | k + 1 => by
    have ih := run_rng (F := F) (n := n) hf k
    show Rng (stepP F n f (runP F n f k)).out
    generalize runP F n f k = S at ih ⊢
    unfold stepP
    split
    · split
      · exact ih
      · rename_i R hR
        exact (ih.app (Rng.map hf _ _)).app (act_rng (fun j => hf _) hR)
    · exact ih
theorem out_rng {F : Fl} {n : Nat} {f : Nat → Int} (hf : ∀ j, 0 ≤ f j ∧ f j ≤ 255) : Rng (outP F n f) := (run_rng hf n).app (Rng.map hf _ _)
end Go.Proofs.YtghmbpogniopoaaDoor
