/- Contracts of the two functions that make a slug. -/
import Derived.Test.YtljoldjfmipaaaaB1
import Derived.Test.YtljoldjfmipaaaaB2
namespace Go.Proofs.Ytljoldjfmipaaaa
open Go.RowKit
set_option linter.unusedVariables false

theorem isletter_any (c : Int) (w : World) :
    Calls Try.prog 34 #[.int .u8 c] w fun e w' => e = .returned (.bool (decide (97 ≤ c ∧ c ≤ 122) || decide (65 ≤ c ∧ c ≤ 90))) ∧ w = w' := by
  go_enter Try.func34, Try.ntmps34
  go_wp2
  all_goals go_ret
  all_goals exact ⟨ret_bool (by first | rfl | (rw [Bool.eq_iff_iff]; simp <;> omega)), rfl⟩
theorem isalnum_any (c : Int) (w : World) :
    Calls Try.prog 30 #[.int .u8 c] w fun e w' => e = .returned (.bool (isw c)) ∧ w = w' := by
  go_enter Try.func30, Try.ntmps30
  go_wp2
  all_goals go_ret
  all_goals exact ⟨ret_bool (by rw [Bool.eq_iff_iff]; simp [isw]; omega), rfl⟩

/-- What both functions hand back. -/
def IsSlug (w' : World) (f : Nat → Int) (n : Nat) (v : Value) : Prop := ∃ A' c', v = .slice A' (slugLen f n) c' ∧ RB w' w'.heap.size A' (slugLen f n) c' (slugAt f n)

theorem slug_of {w' : World} {f : Nat → Int} {n : Nat} {o : List Int} {s : Bool} {A : Option Addr} {c : Nat} (e : gT f n = (o, s)) (h : RB w' w'.heap.size A o.length c (fun j => o.getD j 0)) {A' : Option Addr} {l c' : Nat}
    (hA : A' = if c = slo o then A else A.map (·.add (slo o))) (hl : l = shi o - slo o) (hc : c' = c - slo o) : IsSlug w' f n (.slice A' l c') := by
  have hi := ginv f n
  rw [e] at hi
  obtain ⟨h1, h2, _⟩ := slo_shi hi
  have := h.cut h1 h2
  subst hA hl hc
  refine ⟨if c = slo o then A else A.map (·.add (slo o)), c - slo o, by simp only [slugLen, e], ?_⟩
  have e1 : slugLen f n = shi o - slo o := by simp only [slugLen, e]
  have e2 : slugAt f n = fun j => o.getD (slo o + j) 0 := by funext j; simp only [slugAt, e]
  rw [e1, e2]
  exact this

theorem slug_whole {w' : World} {f : Nat → Int} {n : Nat} {o : List Int} {s : Bool} {A : Option Addr} {c l : Nat} (e : gT f n = (o, s)) (h : RB w' w'.heap.size A o.length c (fun j => o.getD j 0)) (h0 : slo o = 0) (hl : l = shi o) : IsSlug w' f n (.slice A l c) := by
  have hi := ginv f n
  rw [e] at hi
  have h2 := (slo_shi hi).2.1
  have := h.upto h2
  subst hl
  have e1 : slugLen f n = shi o := by simp only [slugLen, e, h0]; omega
  have e2 : slugAt f n = fun j => o.getD j 0 := by funext j; simp only [slugAt, e, h0]; rw [Nat.zero_add]
  refine ⟨A, c, by rw [e1], ?_⟩
  rw [e1, e2]
  exact this

set_option maxHeartbeats 1600000 in
set_option maxRecDepth 100000 in
theorem specSlug_any (A : Option Addr) (n c : Nat) (f : Nat → Int) (w : World) (h : RB w w.heap.size A n c f) (hn : n ≤ 100000) :
    Calls Try.prog 16 #[.slice A n c] w fun e w' => ∃ v, e = .returned v ∧ Hid (IsSlug w' f n v) ∧ Below w.heap.size w w' := by
  obtain ⟨i0, hi, hz0, hz1, hz2⟩ := info_parts Try.infoB
  have HR := Lib.hid h
  clear h
  go_enter Try.func16, Try.ntmps16
  go_wp2
  go_loopw [3, 9] (fun v i wr => ∃ (k : Nat) (o : List Int) (s : Bool) (A1 : Option Addr) (c1 : Nat), Hid (gT f k = (o, s)) ∧ k ≤ n ∧ i = .int .i64 k ∧ v = .slice A1 o.length c1 ∧ wr.ownsRow w.heap.size 5 1 (.slice A1 o.length c1) o.length (o.map (Value.int .u8)) ∧ Below w.heap.size w wr)
    (fun _ i _ => n - (intOf i).toNat)
  case atStart => exact ⟨0, [], false, none, 0, rfl, Nat.zero_le _, rfl, rfl, World.ownsRow_nil _ _ _ _, Below.refl _ _⟩
  case round =>
    obtain ⟨k, o, s, A1, c1, HE, hk, rfl, rfl, hown, hbl⟩ := hrel
    have hlen : o.length ≤ k := by have := (gT_len f k).1; rw [HE.out] at this; exact this
    have hsz := hbl.size
    by_cases hlt : k < n
    · obtain ⟨b, off, rfl, hB, hc⟩ := (HR.out.below hbl).2.2.2 (by omega)
      have hck := hc k hlt
      have hrk := HR.out.rng k
      have HC := Lib.hid hc
      clear hc
      by_cases hw : isw (f k) = true
      · have HN := Lib.hid (g_word HE.out hw)
        go_wp2_with (first
          | (go_at_call 20; refine (isWordByte_any _ _).mono ?_; rintro e w' ⟨rfl, rfl⟩)
          | (at_builtin; refine wpList_app1 (.tmp 16) (.tmp 18) _ w.heap.size 5 i0 (.int .u8 0) _ 1 wr _ _ _ _ hown rfl rfl Try.underlying25 hi hz0 hz1 hz2 rfl rfl rfl rfl (by omega) (by omega) hsz ?_; intro A2 c2 w2 hown2 hg2; have hbl2 := below_app hbl hown (Nat.le_refl _) hsz hg2))
        go_roundw
        case rel => exact ⟨k + 1, _, _, A2, c2, HN, by omega, by go_num, by simp, by simpa using hown2, hbl2⟩
        case measure => simp [intOf]; omega
      · have hw' : isw (f k) = false := by simpa using hw
        clear hw
        rcases Nat.eq_zero_or_pos k with hk0 | hk0
        · have hs0 : s = false := by have : gT f 0 = ([], false) := rfl; rw [← hk0, HE.out] at this; injection this
          subst hs0
          have HN := Lib.hid (g_dash HE.out hw')
          have hz : ((k : Int) == 0) = true := by simp [hk0]
          clear hk0
          go_wp2_with (first
            | (go_at_call 20; refine (isWordByte_any _ _).mono ?_; rintro e w' ⟨rfl, rfl⟩)
            | (at_builtin; refine wpList_app1 (.tmp 30) (.tmp 31) _ w.heap.size 5 i0 (.int .u8 0) _ 1 wr _ _ _ _ hown rfl rfl Try.underlying25 hi hz0 hz1 hz2 rfl rfl rfl rfl (by omega) (by omega) hsz ?_; intro A2 c2 w2 hown2 hg2; have hbl2 := below_app hbl hown (Nat.le_refl _) hsz hg2))
          go_roundw
          case rel => exact ⟨k + 1, _, _, A2, c2, HN, by omega, by go_num, by simp, by simpa using hown2, hbl2⟩
          case measure => simp [intOf]; omega
        · have hcj := HC.out (k - 1) (by omega)
          have hz : ((k : Int) == 0) = false := by simp; omega
          by_cases hj : isw (f (k - 1)) = true
          · have hs0 : s = false := by have := g_sym f (k - 1); rw [Nat.sub_add_cancel hk0, HE.out, hj] at this; simpa using this
            subst hs0
            have HN := Lib.hid (g_dash HE.out hw')
            go_wp2_with (first
              | (go_at_call 20; refine (isWordByte_any _ _).mono ?_; rintro e w' ⟨rfl, rfl⟩)
              | (at_builtin; refine wpList_app1 (.tmp 30) (.tmp 31) _ w.heap.size 5 i0 (.int .u8 0) _ 1 wr _ _ _ _ hown rfl rfl Try.underlying25 hi hz0 hz1 hz2 rfl rfl rfl rfl (by omega) (by omega) hsz ?_; intro A2 c2 w2 hown2 hg2; have hbl2 := below_app hbl hown (Nat.le_refl _) hsz hg2))
            go_roundw
            case rel => exact ⟨k + 1, _, _, A2, c2, HN, by omega, by go_num, by simp, by simpa using hown2, hbl2⟩
            case measure => simp [intOf]; omega
          · have hj' : isw (f (k - 1)) = false := by simpa using hj
            clear hj
            have hs0 : s = true := by have := g_sym f (k - 1); rw [Nat.sub_add_cancel hk0, HE.out, hj'] at this; simpa using this
            subst hs0
            have HN := Lib.hid (g_skip HE.out hw')
            go_wp2_with (go_at_call 20; refine (isWordByte_any _ _).mono ?_; rintro e w' ⟨rfl, rfl⟩)
            go_roundw
            case rel => exact ⟨k + 1, _, _, A1, c1, HN, by omega, by go_num, rfl, hown, hbl⟩
            case measure => simp [intOf]; omega
    · obtain rfl : k = n := by omega
      have hgi := ginv f k
      rw [HE.out] at hgi
      have hrb := RB.of_own hown (fun x hx => by have := hgi.rng x hx; omega)
      have hc1 := hrb.cap
      have HB := Lib.hid hrb
      have HG := Lib.hid hgi
      clear hown hgi
      by_cases hm : 1 < o.length
      · obtain ⟨b1, off1, rfl, hB1, hcell⟩ := hrb.2.2.2 (by omega)
        have hc0 : wr.cell? ⟨b1, off1, none⟩ = some (.int .u8 (o.getD 0 0)) := hcell 0 (by omega)
        have hcl : wr.cell? ⟨b1, off1 + (o.length - 1), none⟩ = some (.int .u8 (o.getD (o.length - 1) 0)) := hcell (o.length - 1) (by omega)
        have hcl2 : wr.cell? ⟨b1, off1 + 1 + (o.length - 1 - 1), none⟩ = some (.int .u8 (o.getD (o.length - 1) 0)) := by
          rw [← hcl]; congr 2; omega
        clear hrb
        have HCL := Lib.hid hcell
        clear hcell
        by_cases h0 : o.getD 0 0 = 45
        · have hs1 : slo o = 1 := by unfold slo; rw [if_pos ⟨hm, h0⟩]
          have e0 : (o.getD 0 0 == 45) = true := by simpa using h0
          by_cases hl : o.getD (o.length - 1) 0 = 45
          · have HF : Hid (slo o = 1 ∧ shi o = o.length - 1) := Lib.hid ⟨hs1, by unfold shi; rw [if_pos ⟨hm, hl⟩]⟩
            have hm2 : 2 < o.length := by
              have := slo_shi HG.out
              rw [HF.out.1, HF.out.2] at this; omega
            have e1 : (o.getD (o.length - 1) 0 == 45) = true := by simpa using hl
            generalize o.getD 0 0 = x0 at *
            generalize o.getD (o.length - 1) 0 = x1 at *
            clear h0 hl hs1
            go_wp2
            go_ret
            exact ⟨_, rfl, Lib.hid (slug_of HE.out HB.out (by rw [HF.out.1, if_neg (by omega), Option.map_some, add_lit]) (by rw [HF.out.1, HF.out.2]) (by rw [HF.out.1])), hbl⟩
          · have HF : Hid (slo o = 1 ∧ shi o = o.length) := Lib.hid ⟨hs1, by unfold shi; rw [if_neg (fun h => hl h.2)]⟩
            have e1 : (o.getD (o.length - 1) 0 == 45) = false := by simpa using hl
            generalize o.getD 0 0 = x0 at *
            generalize o.getD (o.length - 1) 0 = x1 at *
            clear h0 hl hs1
            by_cases hm2 : 2 < o.length
            · go_wp2
              go_ret
              exact ⟨_, rfl, Lib.hid (slug_of HE.out HB.out (by rw [HF.out.1, if_neg (by omega), Option.map_some, add_lit]) (by rw [HF.out.1, HF.out.2]) (by rw [HF.out.1])), hbl⟩
            · go_wp2
              go_ret
              exact ⟨_, rfl, Lib.hid (slug_of HE.out HB.out (by rw [HF.out.1, if_neg (by omega), Option.map_some, add_lit]) (by rw [HF.out.1, HF.out.2]) (by rw [HF.out.1])), hbl⟩
        · have hs1 : slo o = 0 := by unfold slo; rw [if_neg (fun h => h0 h.2)]
          have e0 : (o.getD 0 0 == 45) = false := by simpa using h0
          by_cases hl : o.getD (o.length - 1) 0 = 45
          · have HF : Hid (slo o = 0 ∧ shi o = o.length - 1) := Lib.hid ⟨hs1, by unfold shi; rw [if_pos ⟨hm, hl⟩]⟩
            have e1 : (o.getD (o.length - 1) 0 == 45) = true := by simpa using hl
            generalize o.getD 0 0 = x0 at *
            generalize o.getD (o.length - 1) 0 = x1 at *
            clear h0 hl hs1 hcl2
            go_wp2
            go_ret
            exact ⟨_, rfl, Lib.hid (slug_whole HE.out HB.out HF.out.1 (by rw [HF.out.2])), hbl⟩
          · have HF : Hid (slo o = 0 ∧ shi o = o.length) := Lib.hid ⟨hs1, by unfold shi; rw [if_neg (fun h => hl h.2)]⟩
            have e1 : (o.getD (o.length - 1) 0 == 45) = false := by simpa using hl
            generalize o.getD 0 0 = x0 at *
            generalize o.getD (o.length - 1) 0 = x1 at *
            clear h0 hl hs1 hcl2
            go_wp2
            go_ret
            exact ⟨_, rfl, Lib.hid (slug_whole HE.out HB.out HF.out.1 (by rw [HF.out.2])), hbl⟩
      · have HF : Hid (slo o = 0 ∧ shi o = o.length) := Lib.hid ⟨by unfold slo; rw [if_neg (fun h => hm h.1)], by unfold shi; rw [if_neg (fun h => hm h.1)]⟩
        clear hrb
        go_wp2
        go_ret
        exact ⟨_, rfl, Lib.hid (slug_whole HE.out HB.out HF.out.1 (by rw [HF.out.2])), hbl⟩

end Go.Proofs.Ytljoldjfmipaaaa
