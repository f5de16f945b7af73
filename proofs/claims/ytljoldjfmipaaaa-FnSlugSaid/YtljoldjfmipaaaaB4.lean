/- The contract of slugify. -/
import Derived.Test.YtljoldjfmipaaaaB3
import Derived.LoopN
namespace Go.Proofs.Ytljoldjfmipaaaa
open Go.RowKit

set_option maxHeartbeats 1600000 in
set_option maxRecDepth 100000 in
theorem slugify_any (A : Option Addr) (n c : Nat) (f : Nat → Int) (w : World) (h : RB w w.heap.size A n c f) (hn : n ≤ 100000) :
    Calls Try.prog 28 #[.slice A n c] w fun e w' => ∃ v, e = .returned v ∧ Hid (IsSlug w' f n v) ∧ Below w.heap.size w w' := by
  obtain ⟨i0, hi, hz0, hz1, hz2⟩ := info_parts Try.infoB
  rcases Nat.eq_zero_or_pos n with rfl | hn0
  · have HS : Hid (IsSlug w f 0 (.slice A 0 c)) := Lib.hid ⟨A, c, by rw [slugLen_zero], by
      rw [slugLen_zero]
      exact h.same (fun j hj => absurd hj (by omega)) (fun j => by simp [slugAt, gT, iter])⟩
    clear h
    go_enter Try.func28, Try.ntmps28
    go_wp2
    go_ret
    exact ⟨_, rfl, HS, Below.refl _ _⟩
  obtain ⟨b, off, rfl, hB, hc⟩ := h.2.2.2 hn0
  have hcap := h.cap
  have HR := Lib.hid h
  have HC := Lib.hid hc
  have hne : ((n : Int) == 0) = false := by simp; omega
  clear h hc
  go_enter Try.func28, Try.ntmps28
  go_wp2_with (at_make; refine wpList_make_own _ rfl _ _ 25 rfl w.heap.size 5 i0 (.int .u8 0) 1 Try.underlying25 hi hz0 hz1 _ _ _ n rfl rfl rfl (by rw [hz2]; omega) (by unfold maxLen; omega) (Nat.le_refl _) ?_; intro w0 hown0 hg0)
  have hb0 := (Below.refl w.heap.size w).grown hg0 (Nat.le_refl _) (fun k hk => by cases hk)
  clear hg0
  go_loopw [3, 4, 19] (fun v sv i wr => ∃ (k : Nat) (o : List Int) (s : Bool) (A1 : Option Addr) (c1 : Nat), Hid (gT f k = (o, s)) ∧ k ≤ n ∧ i = .int .i64 k ∧ sv = .bool s ∧ v = .slice A1 o.length c1 ∧ wr.ownsRow w.heap.size 5 1 (.slice A1 o.length c1) o.length (o.map (Value.int .u8)) ∧ Below w.heap.size w wr)
    (fun _ _ i _ => n - (intOf i).toNat)
  case atStart => exact ⟨0, [], false, _, _, rfl, Nat.zero_le _, rfl, rfl, rfl, hown0, hb0⟩
  case round =>
    obtain ⟨k, o, s, A1, c1, HE, hk, rfl, rfl, rfl, hown, hbl⟩ := hrel
    have hlen : o.length ≤ k := by have := (gT_len f k).1; rw [HE.out] at this; exact this
    have hsz := hbl.size
    by_cases hlt : k < n
    · have hck : wr.cell? ⟨b, off + k, none⟩ = some (.int .u8 (f k)) := (hbl.cell (p := ⟨b, off + k, none⟩) hB).trans (HC.out k hlt)
      have hrk := HR.out.rng k
      by_cases hw : isw (f k) = true
      · have HN := Lib.hid (g_word HE.out hw)
        go_wp2_with (first
          | (go_at_call 30; refine (isalnum_any _ _).mono ?_; rintro e w' ⟨rfl, rfl⟩)
          | (at_builtin; refine wpList_app1 (.tmp 25) (.tmp 27) _ w.heap.size 5 i0 (.int .u8 0) _ 1 wr _ _ _ _ hown rfl rfl Try.underlying25 hi hz0 hz1 hz2 rfl rfl rfl rfl (by omega) (by omega) hsz ?_; intro A2 c2 w2 hown2 hg2; have hbl2 := below_app hbl hown (Nat.le_refl _) hsz hg2))
        go_roundw
        case rel => exact ⟨k + 1, _, _, A2, c2, HN, by omega, by go_num, rfl, by simp, by simpa using hown2, hbl2⟩
        case measure => simp [intOf]; omega
      · have hw' : isw (f k) = false := by simpa using hw
        clear hw
        cases s
        · have HN := Lib.hid (g_dash HE.out hw')
          go_wp2_with (first
            | (go_at_call 30; refine (isalnum_any _ _).mono ?_; rintro e w' ⟨rfl, rfl⟩)
            | (at_builtin; refine wpList_app1 (.tmp 30) (.tmp 31) _ w.heap.size 5 i0 (.int .u8 0) _ 1 wr _ _ _ _ hown rfl rfl Try.underlying25 hi hz0 hz1 hz2 rfl rfl rfl rfl (by omega) (by omega) hsz ?_; intro A2 c2 w2 hown2 hg2; have hbl2 := below_app hbl hown (Nat.le_refl _) hsz hg2))
          go_roundw
          case rel => exact ⟨k + 1, _, _, A2, c2, HN, by omega, by go_num, rfl, by simp, by simpa using hown2, hbl2⟩
          case measure => simp [intOf]; omega
        · have HN := Lib.hid (g_skip HE.out hw')
          go_wp2_with (go_at_call 30; refine (isalnum_any _ _).mono ?_; rintro e w' ⟨rfl, rfl⟩)
          go_roundw
          case rel => exact ⟨k + 1, _, _, A1, c1, HN, by omega, by go_num, rfl, rfl, hown, hbl⟩
          case measure => simp [intOf]; omega
    · obtain rfl : k = n := by omega
      have hgi : GInv o s := by have := ginv f k; rw [HE.out] at this; exact this
      have hpos : 0 < o.length := by have := (gT_len f k).2 hn0; rw [HE.out] at this; exact this
      have hrb := RB.of_own hown (fun x hx => by have := hgi.rng x hx; omega)
      have hc1 := hrb.cap
      have HB := Lib.hid hrb
      have HG := Lib.hid hgi
      clear hown hgi
      obtain ⟨b1, off1, rfl, hB1, hcell⟩ := hrb.2.2.2 hpos
      have hc0 : wr.cell? ⟨b1, off1, none⟩ = some (.int .u8 (o.getD 0 0)) := hcell 0 (by omega)
      have hcl : wr.cell? ⟨b1, off1 + (o.length - 1), none⟩ = some (.int .u8 (o.getD (o.length - 1) 0)) := hcell (o.length - 1) (by omega)
      clear hrb
      have HCL := Lib.hid hcell
      clear hcell
      by_cases hm : 1 < o.length
      · have hc2 : wr.cell? ⟨b1, off1 + 1, none⟩ = some (.int .u8 (o.getD 1 0)) := HCL.out 1 (by omega)
        have hcm : wr.cell? ⟨b1, off1 + (o.length - 1 - 1), none⟩ = some (.int .u8 (o.getD (o.length - 1 - 1) 0)) := HCL.out (o.length - 1 - 1) (by omega)
        by_cases h0 : o.getD 0 0 = 45
        · have hs1 : slo o = 1 := by unfold slo; rw [if_pos ⟨hm, h0⟩]
          have h1 := HG.out.two 0 (by omega) h0
          have e0 : (o.getD 0 0 != 45) = false := by simpa using h0
          have e1 : (o.getD 1 0 != 45) = true := by simpa using h1
          by_cases hl : o.getD (o.length - 1) 0 = 45
          · have HF : Hid (slo o = 1 ∧ shi o = o.length - 1) := Lib.hid ⟨hs1, by unfold shi; rw [if_pos ⟨hm, hl⟩]⟩
            have hm2 : 2 < o.length := by
              have := slo_shi HG.out
              rw [HF.out.1, HF.out.2] at this; omega
            have h3 : o.getD (o.length - 1 - 1) 0 ≠ 45 := fun h => by
              have := HG.out.two (o.length - 1 - 1) (by omega) h
              rw [show o.length - 1 - 1 + 1 = o.length - 1 from by omega] at this
              exact this hl
            have e2 : (o.getD (o.length - 1) 0 != 45) = false := by simpa using hl
            have e3 : (o.getD (o.length - 1 - 1) 0 != 45) = true := by simpa using h3
            generalize o.getD 0 0 = x0 at *
            generalize o.getD 1 0 = x1 at *
            generalize o.getD (o.length - 1) 0 = x2 at *
            generalize o.getD (o.length - 1 - 1) 0 = x3 at *
            clear h0 hl hs1 h1 h3
            go_wp2
            refine wp_loop_rounds 2 ?_
            rw [rounds_succ]; go_wp2
            rw [rounds_succ]; go_wp2
            refine wp_loop_rounds 2 ?_
            rw [rounds_succ]; go_wp2
            rw [rounds_succ]; go_wp2
            go_ret
            exact ⟨_, rfl, Lib.hid (slug_of HE.out HB.out (by rw [HF.out.1, if_neg (by omega), Option.map_some, add_lit]) (by rw [HF.out.1, HF.out.2]) (by rw [HF.out.1])), hbl⟩
          · have HF : Hid (slo o = 1 ∧ shi o = o.length) := Lib.hid ⟨hs1, by unfold shi; rw [if_neg (fun h => hl h.2)]⟩
            have e2 : (o.getD (o.length - 1) 0 != 45) = true := by simpa using hl
            generalize o.getD 0 0 = x0 at *
            generalize o.getD 1 0 = x1 at *
            generalize o.getD (o.length - 1) 0 = x2 at *
            generalize o.getD (o.length - 1 - 1) 0 = x3 at *
            clear h0 hl hs1 h1
            go_wp2
            refine wp_loop_rounds 2 ?_
            rw [rounds_succ]; go_wp2
            rw [rounds_succ]; go_wp2
            refine wp_loop_rounds 1 ?_
            rw [rounds_succ]; go_wp2
            go_ret
            exact ⟨_, rfl, Lib.hid (slug_of HE.out HB.out (by rw [HF.out.1, if_neg (by omega), Option.map_some, add_lit]) (by rw [HF.out.1, HF.out.2]) (by rw [HF.out.1])), hbl⟩
        · have hs1 : slo o = 0 := by unfold slo; rw [if_neg (fun h => h0 h.2)]
          have e0 : (o.getD 0 0 != 45) = true := by simpa using h0
          by_cases hl : o.getD (o.length - 1) 0 = 45
          · have HF : Hid (slo o = 0 ∧ shi o = o.length - 1) := Lib.hid ⟨hs1, by unfold shi; rw [if_pos ⟨hm, hl⟩]⟩
            have h3 : o.getD (o.length - 1 - 1) 0 ≠ 45 := fun h => by
              have := HG.out.two (o.length - 1 - 1) (by omega) h
              rw [show o.length - 1 - 1 + 1 = o.length - 1 from by omega] at this
              exact this hl
            have e2 : (o.getD (o.length - 1) 0 != 45) = false := by simpa using hl
            have e3 : (o.getD (o.length - 1 - 1) 0 != 45) = true := by simpa using h3
            generalize o.getD 0 0 = x0 at *
            generalize o.getD 1 0 = x1 at *
            generalize o.getD (o.length - 1) 0 = x2 at *
            generalize o.getD (o.length - 1 - 1) 0 = x3 at *
            clear h0 hl hs1 h3 hc2
            by_cases hm2 : 2 < o.length
            · skip
              go_wp2
              refine wp_loop_rounds 1 ?_
              rw [rounds_succ]; go_wp2
              refine wp_loop_rounds 2 ?_
              rw [rounds_succ]; go_wp2
              rw [rounds_succ]; go_wp2
              go_ret
              exact ⟨_, rfl, Lib.hid (slug_whole HE.out HB.out HF.out.1 (by rw [HF.out.2])), hbl⟩
            · skip
              go_wp2
              refine wp_loop_rounds 1 ?_
              rw [rounds_succ]; go_wp2
              refine wp_loop_rounds 2 ?_
              rw [rounds_succ]; go_wp2
              rw [rounds_succ]; go_wp2
              go_ret
              exact ⟨_, rfl, Lib.hid (slug_whole HE.out HB.out HF.out.1 (by rw [HF.out.2])), hbl⟩
          · have HF : Hid (slo o = 0 ∧ shi o = o.length) := Lib.hid ⟨hs1, by unfold shi; rw [if_neg (fun h => hl h.2)]⟩
            have e2 : (o.getD (o.length - 1) 0 != 45) = true := by simpa using hl
            generalize o.getD 0 0 = x0 at *
            generalize o.getD 1 0 = x1 at *
            generalize o.getD (o.length - 1) 0 = x2 at *
            generalize o.getD (o.length - 1 - 1) 0 = x3 at *
            clear h0 hl hs1 hc2
            go_wp2
            refine wp_loop_rounds 1 ?_
            rw [rounds_succ]; go_wp2
            refine wp_loop_rounds 1 ?_
            rw [rounds_succ]; go_wp2
            go_ret
            exact ⟨_, rfl, Lib.hid (slug_whole HE.out HB.out HF.out.1 (by rw [HF.out.2])), hbl⟩
      · have HF : Hid (slo o = 0 ∧ shi o = o.length) := Lib.hid ⟨by unfold slo; rw [if_neg (fun h => hm h.1)], by unfold shi; rw [if_neg (fun h => hm h.1)]⟩
        clear hcl
        by_cases h0 : o.getD 0 0 = 45
        · have e0 : (o.getD 0 0 != 45) = false := by simpa using h0
          generalize o.getD 0 0 = x0 at *
          clear h0
          go_wp2
          refine wp_loop_rounds 2 ?_
          rw [rounds_succ]; go_wp2
          rw [rounds_succ]; go_wp2
          refine wp_loop_rounds 1 ?_
          rw [rounds_succ]; go_wp2
          go_ret
          exact ⟨_, rfl, Lib.hid (slug_whole HE.out HB.out HF.out.1 (by rw [HF.out.2])), hbl⟩
        · have e0 : (o.getD 0 0 != 45) = true := by simpa using h0
          generalize o.getD 0 0 = x0 at *
          clear h0
          go_wp2
          refine wp_loop_rounds 1 ?_
          rw [rounds_succ]; go_wp2
          refine wp_loop_rounds 1 ?_
          rw [rounds_succ]; go_wp2
          go_ret
          exact ⟨_, rfl, Lib.hid (slug_whole HE.out HB.out HF.out.1 (by rw [HF.out.2])), hbl⟩
end Go.Proofs.Ytljoldjfmipaaaa
