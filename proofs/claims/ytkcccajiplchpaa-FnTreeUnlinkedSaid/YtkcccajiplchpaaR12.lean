/- Forests in memory: the reference's step that inserts. -/
import Derived.Test.YtkcccajiplchpaaR11
namespace Go.Proofs.Ytkcccajiplchpaa
open Go.RowKit
set_option linter.unusedVariables false

/-- The children with one more ahead of another one. -/
def insK (l : List Nat) (x y i : Nat) : List Nat := (l.take i).flatMap (fun k => if k = x then [y, k] else [k])
theorem insK_succ {l : List Nat} {x y i : Nat} (hi : i < l.length) : insK l x y (i + 1) = insK l x y i ++ (if l[i] = x then [y, l[i]] else [l[i]]) := by
  unfold insK
  rw [List.take_add_one, List.getElem?_eq_getElem hi, List.flatMap_append]
  simp
theorem insK_all (l : List Nat) (x y : Nat) : insK l x y l.length = l.flatMap (fun k => if k = x then [y, k] else [k]) := by unfold insK; rw [List.take_length]
theorem insK_len (l : List Nat) (x y : Nat) : ∀ i, i ≤ l.length → (insK l x y i).length ≤ 2 * i
  | 0, _ => by simp [insK]
  | i + 1, h => by
    have := insK_len l x y i (by omega)
    rw [insK_succ (by omega), List.length_append]
    split <;> simp <;> omega
set_option maxRecDepth 100000 in
set_option maxHeartbeats 8000000 in
theorem fstep2 (w : World) (B fb n : Nat) (U : Nat → Option Nat) (D : Nat → List Nat) (AU : Option Addr) (cU : Nat) (AD : Option Addr) (cD : Nat) (DA : Nat → Option Addr) (Dc : Nat → Nat) (h : FR w B fb n U D AU cU AD cD DA Dc)
    (hU : ∀ i p, i < n → U i = some p → p < n) (r : Nat → Nat) (hr : Rank n U r) (hlen : ∀ i, i < n → (D i).length ≤ 1000) (hB : B ≤ w.heap.size) (hn : n ≤ 1000) (x y : Nat) (hx : x < n) (hy : y < n) :
    Calls Try.prog 6 #[.pointer (some ⟨fb, 0, none⟩), .agg #[.int .i64 2, .int .i64 x, .int .i64 y]] w fun e w' =>
      BoolT (¬ Und U x y ∧ ∃ p, U x = some p ∧ ∃ AU cU AD cD DA Dc, FR w' B fb n (addU (cutU U y) p y) (insD (cutU U y) (cutD U D y) x y) AU cU AD cD DA Dc) e ∧ But kindF B w w' := by
  have h' : FR (w.alloc (.cells #[.int .i64 2, .int .i64 x, .int .i64 y] 33)) B fb n U D AU cU AD cD DA Dc := h.but (But.alloc (fun _ => False) 0 w _) (fun _ h => h.elim)
  have hbt := But.alloc kindF B w (.cells #[.int .i64 2, .int .i64 x, .int .i64 y] 33)
  have hx' : (x : Int) < n := by omega
  have hy' : (y : Int) < n := by omega
  obtain ⟨g, rfl, hnc, cx, -⟩ := h'.upAt hx
  have HBT := Lib.hid hbt
  have HF := Lib.hid h'
  have HU := Lib.hid hU
  have HR := Lib.hid hr
  have HL := Lib.hid hlen
  obtain ⟨c0, c1, f0, f1⟩ := h'.cells
  clear h h' hbt hU hlen hr
  cases hux : U x with
  | none =>
    rw [hux] at cx
    simp only [idx] at cx
    clear hux
    go_enter Try.func6, Try.ntmps6
    go_wp2_with fail
    go_quiet (fail)
    go_wp2_with fail
    go_ret
    exact ⟨⟨false, rfl, fun h => by cases h⟩, HBT.out.drewN _⟩
  | some p =>
    have hp := HU.out x p hx hux
    have hp' : (p : Int) < n := by omega
    have hpn : ¬ (p : Int) < 0 := by omega
    rw [hux] at cx
    simp only [idx] at cx
    have HUX := Lib.hid hux
    clear hux
    go_enter Try.func6, Try.ntmps6
    go_wp2_with fail
    go_quiet (fail)
    go_wp2_with fail
    refine (under_any _ B fb n U D _ cU AD cD DA Dc (HF.out.drewN _) r HR.out HU.out x y hx hy).mono ?_
    rintro e w1 ⟨⟨ok, rfl, hund⟩, rfl⟩
    have HUN := Lib.hid hund
    clear hund
    cases ok with
    | true =>
      go_wp2
      go_ret
      exact ⟨⟨false, rfl, fun h => by cases h⟩, HBT.out.drewN _⟩
    | false =>
      go_wp2_with fail
      refine (cut_any _ B fb n U D _ cU AD cD DA Dc (HF.out.drewN _) HU.out HL.out (Nat.le_trans hB HBT.out.size) y hy).mono ?_
      rintro e w1 ⟨rfl, ⟨AU1, cU1, AD1, cD1, DA1, Dc1, hF1⟩, hb1⟩
      have HBT1 := Lib.hid ((HBT.out.drewN nq).trans hb1)
      obtain ⟨g1, rfl, hnc1, cy, fy⟩ := hF1.upAt hy
      clear c0 c1 f0 f1 cx
      obtain ⟨c0, c1, f0, f1⟩ := hF1.cells
      have hset := hF1.setUp y (some p)
      obtain ⟨d0, d1, _, _⟩ := hset.1.cells
      obtain ⟨gd, rfl, hnd, cp, _⟩ := hset.1.dnAt hp
      have hsz : (w1.setCell ⟨g1, y, none⟩ (.int .i64 (idx (some p)))).heap.size = w1.heap.size := by simp
      have hlp : (cutD U D y p).length ≤ 1000 := by
        have := HL.out p hp
        unfold cutD
        split
        · exact Nat.le_trans (List.length_filter_le _ _) this
        · exact this
      have HB0 : B ≤ (w1.setCell ⟨g1, y, none⟩ (.int .i64 (idx (some p)))).heap.size := by rw [hsz]; exact Nat.le_trans hB HBT1.out.size
      have HS := Lib.hid hset
      obtain ⟨i0, hi0, hz0, hz1, hz2⟩ := info_parts Try.infoI
      simp only [idx] at d0 d1 cp HS hsz HB0
      clear hF1 hb1 hset
      go_wp2_with fail
      generalize w1.setCell ⟨g1, y, none⟩ (.int .i64 (p : Int)) = w2 at *
      generalize hdp : cutD U D y p = dp at *
      have HDP := Lib.hid hdp
      clear hdp
      go_loopw [154, 9] (fun iv rv wr => ∃ (i : Nat) (A1 : Option Addr) (c1 : Nat), i ≤ dp.length ∧ iv = .int .i64 i ∧ rv = .slice A1 (insK dp x y i).length c1 ∧ Hid (wr.ownsRow w2.heap.size 3 1 (.slice A1 (insK dp x y i).length c1) (insK dp x y i).length ((insK dp x y i).map fun k : Nat => Value.int .i64 (k : Int))) ∧ Hid (Below w2.heap.size w2 wr)) (fun iv _ _ => dp.length - (intOf iv).toNat)
      case atStart => exact ⟨0, none, 0, by omega, rfl, rfl, World.ownsRow_nil _ _ _ _, Below.refl _ _⟩
      case round =>
        obtain ⟨i, A1, c1, hi, rfl, rfl, HO, HB⟩ := hrel
        have HFB := Lib.hid (HS.out.1.below HB.out)
        obtain ⟨e0, e1, _, _⟩ := HFB.out.cells
        by_cases hil : i < dp.length
        · obtain ⟨gk, ek, hkc, ck⟩ : ∃ gk, DA1 p = some ⟨gk, 0, none⟩ ∧ dp.length ≤ Dc1 p ∧ wr.cell? ⟨gk, i, none⟩ = some (.int .i64 (dp[i] : Int)) := by
            have hr := HFB.out.row p hp
            rw [HDP.out] at hr
            exact kid_at hr hil
          rw [ek]
          have hil' : (i : Int) < dp.length := by omega
          have hfl := insK_len dp x y i hi
          have hsz1 : w2.heap.size ≤ wr.heap.size := HB.out.size
          have HEK := Lib.hid ek
          have hs := insK_succ (x := x) (y := y) hil
          by_cases eka : dp[i] = x
          · rw [if_pos eka, eka] at hs
            rw [eka] at ck
            have HSS := Lib.hid hs
            clear ek hs eka
            go_wp2_with (first
              | (at_builtin; refine wpList_app1 (.tmp 161) (.tmp 163) _ w2.heap.size 3 i0 (.int .i64 0) (.int .i64 y) 8 wr _ _ _ _ HO.out rfl rfl Try.underlying25 hi0 hz0 hz1 hz2 rfl rfl rfl rfl (by omega) (by omega) hsz1 ?_; intro A2 c2 w3 hown2 hg2; have hb2 := below_app HB.out HO.out (Nat.le_refl _) hsz1 hg2; have hsz2 := hb2.size)
              | (at_builtin; refine wpList_app1 (.tmp 165) (.tmp 167) _ w2.heap.size 3 i0 (.int .i64 0) (.int .i64 x) 8 w3 _ _ _ _ hown2 rfl rfl Try.underlying25 hi0 hz0 hz1 hz2 rfl rfl rfl rfl (by omega) (by omega) hsz2 ?_; intro A3 c3 w4 hown3 hg3))
            have hb3 := Lib.hid (below_app hb2 hown2 (Nat.le_refl _) hsz2 hg3)
            have hl2 : (insK dp x y (i + 1)).length = (insK dp x y i).length + 1 + 1 := by rw [HSS.out]; simp
            have HO3 : Hid (w4.ownsRow w2.heap.size 3 1 (.slice A3 (insK dp x y (i + 1)).length c3) (insK dp x y (i + 1)).length ((insK dp x y (i + 1)).map fun k : Nat => Value.int .i64 (k : Int))) := Lib.hid (by
              rw [hl2, HSS.out]
              have := hown3
              simpa using this)
            clear hown2 hg2 hown3 hg3 hb2
            go_wp2
            go_roundw
            case rel => exact ⟨i + 1, A3, c3, by omega, by go_num, by rw [hl2], HO3, hb3⟩
            case measure => simp [intOf]; omega
          · rw [if_neg eka] at hs
            have HSS := Lib.hid hs
            have ekb : (((dp[i] : Nat) : Int) == (x : Int)) = false := by simp; omega
            clear ek hs eka
            generalize hdk : dp[i] = dk at *
            go_wp2_with (at_builtin; refine wpList_app1 (.tmp 165) (.tmp 167) _ w2.heap.size 3 i0 (.int .i64 0) (.int .i64 dk) 8 wr _ _ _ _ HO.out rfl rfl Try.underlying25 hi0 hz0 hz1 hz2 rfl rfl rfl rfl (by omega) (by omega) hsz1 ?_; intro A2 c2 w3 hown2 hg2)
            have hb2 := Lib.hid (below_app HB.out HO.out (Nat.le_refl _) hsz1 hg2)
            have hl2 : (insK dp x y (i + 1)).length = (insK dp x y i).length + 1 := by rw [HSS.out]; simp
            have HO2 := Lib.hid (nat_snoc hown2 hl2)
            clear hown2 hg2
            go_wp2
            go_roundw
            case rel => exact ⟨i + 1, A2, c2, by omega, by go_num, by rw [hl2], by rw [HSS.out] at HO2 ⊢; exact HO2, hb2⟩
            case measure => simp [intOf]; omega
        · obtain rfl : i = dp.length := by omega
          obtain ⟨gd', e', _, cp', fp'⟩ := HFB.out.dnAt hp
          injection e' with e'; injection e' with e'; subst e'
          have HN := Lib.hid (HS.out.1.dnNew HB.out hp HO.out HB0)
          generalize hfl : insK dp x y dp.length = fl at *
          have HFL := Lib.hid hfl
          clear hfl
          go_wp2
          go_ret
          have hund : ¬ Und U x y := HUN.out (by trivial)
          have hxy : x ≠ y := fun e => by subst e; exact hund (.refl x)
          refine ⟨⟨true, rfl, fun _ => ⟨hund, _, _, _, _, _, _, HN.out.1.congr (fun i _ => rfl) (fun i hi => ?_)⟩⟩, HBT1.out.trans (HS.out.2.trans HN.out.2)⟩
          have hc : cutU U y x = some p := by unfold cutU; rw [if_neg hxy]; exact HUX.out
          unfold insD
          rw [hc, ← HFL.out, insK_all]
          by_cases e : i = p
          · subst e; simp [HDP.out]
          · simp [e, Ne.symm e]
end Go.Proofs.Ytkcccajiplchpaa
