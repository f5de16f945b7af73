/- The reference's search for the end of an emphasis. -/
import Derived.Test.YtkkkdcfidoecnaaE3
import Derived.LoopN
namespace Go.Proofs.Ytkkkdcfidoecnaa
open Go.RowKit
set_option linter.unusedVariables false

def posIn (w : World) (B : Nat) : Int := intOf ((w.cell? ⟨B + 1 + 1 + 1, 0, none⟩).getD undef)
theorem posIn_of {w : World} {B : Nat} {A : Option Addr} {n cap i : Nat} {c : Int} (h : Bx w B A n cap c i) : posIn w B = i := by unfold posIn; rw [h.ci]; rfl
theorem below_only {B0 : Nat} {a w w' : World} {g : Nat} (h : Below B0 a w) (hg : w.grownBy w' (some g)) (hB : B0 ≤ g) (hs : B0 ≤ w.heap.size) : Below B0 a w' := h.grown hg hs (fun k hk => by injection hk; omega)
theorem below_draw {B0 : Nat} {a w : World} (h : Below B0 a w) (n : Nat) : Below B0 a (w.drewN n) := ⟨h.os, h.tape, h.output, h.size, h.block⟩

set_option maxHeartbeats 8000000 in
set_option maxRecDepth 1000000 in
theorem specEmph_any (A : Option Addr) (n cap : Nat) (f : Nat → Int) (c : Int) (w : World) (h : RB w w.heap.size A n cap f) (hn : n ≤ 100000) (hc : c = 42 ∨ c = 95 ∨ c = 126) :
    Calls Try.prog 7 #[.slice A n cap, .int .u8 c] w fun e w' => ∃ r : Nat, e = .returned (.int .i64 r) ∧ Hid (OutE c n f 0 r) ∧ Below w.heap.size w w' := by
  have hmf : ∀ (fn : Fn) (first cap : Array Value) (w : World), (Instr.makeFunc fn first cap).run Try.prog w = .ok (.func fn first cap) w := fun _ _ _ _ => rfl
  rcases Nat.eq_zero_or_pos n with rfl | hn0
  · have HO := Lib.hid (fe_over (FromE.zero c 0 f) (Nat.le_refl 0))
    clear h hc
    go_enter Try.func7, Try.ntmps7
    go_wp2
    refine wp_loop_rounds 1 ?_
    rw [rounds_succ]; go_wp2
    go_ret
    exact ⟨0, rfl, HO, ((((Below.refl _ _).alloc (by simp) _).alloc (by simp <;> omega) _).alloc (by simp <;> omega) _).alloc (by simp <;> omega) _⟩
  obtain ⟨b, off, rfl, hB, hcell⟩ := h.2.2.2 hn0
  have HC := Lib.hid hcell; have HR := Lib.hid h.rng; have HCC := Lib.hid hc
  clear h hcell hc
  go_enter Try.func7, Try.ntmps7
  go_wp2
  go_loopw [] (fun wr => ∃ i : Nat, Hid (FromE c n f i) ∧ i ≤ n + 1 ∧ Hid (Bx wr w.heap.size (some ⟨b, off, none⟩) n cap c i) ∧ Below w.heap.size w wr ∧ w.heap.size + 4 ≤ wr.heap.size) (fun wr => n + 2 - (posIn wr w.heap.size).toNat)
  case atStart =>
    refine ⟨0, FromE.zero c n f, by omega, Lib.hid ⟨by simp [go_sem], by simp [go_sem], by simp [go_sem], by simp [go_sem], by simp [go_sem]⟩, ((((Below.refl _ _).alloc (by simp) _).alloc (by simp <;> omega) _).alloc (by simp <;> omega) _).alloc (by simp <;> omega) _, by simp⟩
  case round =>
    obtain ⟨i, HF, hi, HX, hbl, hsz⟩ := hrel
    obtain ⟨wo, rfl⟩ : ∃ wo : World, wo = wr := ⟨_, rfl⟩
    obtain ⟨x1, x2, x3, x4, x5⟩ := HX.out
    by_cases hlt : i < n
    · go_wp2_with fail
      go_loopw [] (fun wj => ∃ j : Nat, Hid (scan (stopsE c) n f i = scan (stopsE c) n f j) ∧ i ≤ j ∧ j ≤ n ∧ Hid (Bx wj w.heap.size (some ⟨b, off, none⟩) n cap c j) ∧ Below w.heap.size w wj ∧ w.heap.size + 4 ≤ wj.heap.size) (fun wj => n - (posIn wj w.heap.size).toNat)
      case atStart => exact ⟨i, Lib.hid rfl, by omega, by omega, HX, hbl, hsz⟩
      case round =>
        obtain ⟨wj, rfl⟩ : ∃ wj : World, wj = wr := ⟨_, rfl⟩
        obtain ⟨j, HS, hij, hjn, HXj, hblj, hszj⟩ := hrel
        obtain ⟨y1, y2, y3, y4, y5⟩ := HXj.out
        by_cases hjl : j < n
        · have hcj := (hblj.cell (p := ⟨b, off + j, none⟩) hB).trans (HC.out j hjl)
          have hrj := HR.out j
          have e0 : decide ((j : Int) < (n : Int)) = true := by simp; omega
          by_cases hs : stopsE c (f j) = true
          · have HST := Lib.hid (HS.out.trans (scan_hit hs))
            have h3 : f j = c ∨ (f j ≠ c ∧ f j = 96) ∨ (f j ≠ c ∧ f j ≠ 96 ∧ f j = 91) := by
              have hcc := HCC.out
              simp [stopsE] at hs; omega
            have hcp : 0 < j → wj.cell? ⟨b, off + (j - 1), none⟩ = some (.int .u8 (f (j - 1))) := fun h0 => (hblj.cell (p := ⟨b, off + (j - 1), none⟩) hB).trans (HC.out (j - 1) (by omega))
            have e00 : ((j : Int) == (n : Int)) = false := by simp; omega
            clear hs
            by_cases hesc : 0 < j ∧ f (j - 1) = 92
            · have HN := Lib.hid (fe_esc HF.out hlt HST.out hjl hesc.1 hesc.2)
              have hcp1 := hcp hesc.1
              have hj0 := hesc.1
              have e4 : decide (0 < (j : Int)) = true := by simp; omega
              have e5 := (seb hesc.2).2
              clear hcp hesc
              rcases h3 with h1 | ⟨h1, h2⟩ | ⟨h1, h2, h3⟩
              · have e1 := (seb h1).1
                clear h1
                go_wp2_with fail
                go_quiet (fail)
                go_wp2_with fail
                go_roundw
                case rel => exact ⟨j + 1, HN, by omega, Lib.hid (by first | exact (HXj.out.drewN _).set (j + 1) _ (by go_num) | exact (HXj.out.set (j + 1) _ (by go_num)).drewN _ | exact HXj.out.set (j + 1) _ (by go_num) | exact HXj.out.drewN _ | exact HXj.out), (by first | exact (below_draw hblj _).setCell (by show w.heap.size ≤ w.heap.size + 1 + 1 + 1; omega) _ | exact below_draw (hblj.setCell (by show w.heap.size ≤ w.heap.size + 1 + 1 + 1; omega) _) _ | exact hblj.setCell (by show w.heap.size ≤ w.heap.size + 1 + 1 + 1; omega) _ | exact below_draw hblj _ | exact hblj), (by first | omega | (simp <;> omega))⟩
                case measure => rw [posIn_of ((by first | exact (HXj.out.drewN _).set (j + 1) _ (by go_num) | exact (HXj.out.set (j + 1) _ (by go_num)).drewN _ | exact HXj.out.set (j + 1) _ (by go_num) | exact HXj.out.drewN _ | exact HXj.out) : Bx _ _ _ _ _ _ (j + 1)), posIn_of HX.out]; omega
              · have e1 := (snb h1).1; have e2 := (seb h2).1
                clear h1 h2
                go_wp2_with fail
                go_quiet (fail)
                go_wp2_with fail
                go_roundw
                case rel => exact ⟨j + 1, HN, by omega, Lib.hid (by first | exact (HXj.out.drewN _).set (j + 1) _ (by go_num) | exact (HXj.out.set (j + 1) _ (by go_num)).drewN _ | exact HXj.out.set (j + 1) _ (by go_num) | exact HXj.out.drewN _ | exact HXj.out), (by first | exact (below_draw hblj _).setCell (by show w.heap.size ≤ w.heap.size + 1 + 1 + 1; omega) _ | exact below_draw (hblj.setCell (by show w.heap.size ≤ w.heap.size + 1 + 1 + 1; omega) _) _ | exact hblj.setCell (by show w.heap.size ≤ w.heap.size + 1 + 1 + 1; omega) _ | exact below_draw hblj _ | exact hblj), (by first | omega | (simp <;> omega))⟩
                case measure => rw [posIn_of ((by first | exact (HXj.out.drewN _).set (j + 1) _ (by go_num) | exact (HXj.out.set (j + 1) _ (by go_num)).drewN _ | exact HXj.out.set (j + 1) _ (by go_num) | exact HXj.out.drewN _ | exact HXj.out) : Bx _ _ _ _ _ _ (j + 1)), posIn_of HX.out]; omega
              · have e1 := (snb h1).1; have e2 := (snb h2).1; have e3 := (seb h3).1
                clear h1 h2 h3
                go_wp2_with fail
                go_quiet (fail)
                go_wp2_with fail
                go_roundw
                case rel => exact ⟨j + 1, HN, by omega, Lib.hid (by first | exact (HXj.out.drewN _).set (j + 1) _ (by go_num) | exact (HXj.out.set (j + 1) _ (by go_num)).drewN _ | exact HXj.out.set (j + 1) _ (by go_num) | exact HXj.out.drewN _ | exact HXj.out), (by first | exact (below_draw hblj _).setCell (by show w.heap.size ≤ w.heap.size + 1 + 1 + 1; omega) _ | exact below_draw (hblj.setCell (by show w.heap.size ≤ w.heap.size + 1 + 1 + 1; omega) _) _ | exact hblj.setCell (by show w.heap.size ≤ w.heap.size + 1 + 1 + 1; omega) _ | exact below_draw hblj _ | exact hblj), (by first | omega | (simp <;> omega))⟩
                case measure => rw [posIn_of ((by first | exact (HXj.out.drewN _).set (j + 1) _ (by go_num) | exact (HXj.out.set (j + 1) _ (by go_num)).drewN _ | exact HXj.out.set (j + 1) _ (by go_num) | exact HXj.out.drewN _ | exact HXj.out) : Bx _ _ _ _ _ _ (j + 1)), posIn_of HX.out]; omega
            · have HE := Lib.hid hesc
              have hne : j = 0 ∨ (0 < j ∧ f (j - 1) ≠ 92) := by omega
              clear hesc
              rcases h3 with h1 | ⟨h1, h2⟩ | ⟨h1, h2, h3⟩
              · have HO := Lib.hid (fe_found HF.out hlt HST.out hjl HE.out h1)
                obtain ⟨e1, e1'⟩ := seb h1
                clear h1
                rcases hne with h0 | ⟨h0, h92⟩
                · have e4 : decide (0 < (j : Int)) = false := by simp [h0]
                  have h0' : j ≤ 0 := by omega
                  clear h0 hcp
                  go_wp2_with fail
                  go_quiet (fail)
                  go_wp2_with fail
                  go_quiet (fail)
                  go_wp2_with fail
                  go_ret
                  exact ⟨j, rfl, HO, (by first | exact (below_draw hblj _).setCell (by show w.heap.size ≤ w.heap.size + 1 + 1 + 1; omega) _ | exact below_draw (hblj.setCell (by show w.heap.size ≤ w.heap.size + 1 + 1 + 1; omega) _) _ | exact hblj.setCell (by show w.heap.size ≤ w.heap.size + 1 + 1 + 1; omega) _ | exact below_draw hblj _ | exact hblj)⟩
                · have e4 : decide (0 < (j : Int)) = true := by simp; omega
                  have hcp1 := hcp h0
                  have e5 := (snb h92).2
                  clear h92 hcp
                  go_wp2_with fail
                  go_quiet (fail)
                  go_wp2_with fail
                  go_quiet (fail)
                  go_wp2_with fail
                  go_ret
                  exact ⟨j, rfl, HO, (by first | exact (below_draw hblj _).setCell (by show w.heap.size ≤ w.heap.size + 1 + 1 + 1; omega) _ | exact below_draw (hblj.setCell (by show w.heap.size ≤ w.heap.size + 1 + 1 + 1; omega) _) _ | exact hblj.setCell (by show w.heap.size ≤ w.heap.size + 1 + 1 + 1; omega) _ | exact below_draw hblj _ | exact hblj)⟩
              · have HT := fun (k t : Nat) => Lib.hid (fe_tick_end (k := k) (t := t) HF.out hlt HST.out hjl HE.out h1 h2)
                have HT2 := fun (k : Nat) => Lib.hid (fe_tick (k := k) HF.out hlt HST.out hjl HE.out h1 h2)
                obtain ⟨e1, e1'⟩ := snb h1
                obtain ⟨e2, e2'⟩ := seb h2
                have e3' : (f j == 91) = false := (snb (by omega)).2
                clear h1 h2
                rcases hne with h0 | ⟨h0, h92⟩
                · have e4 : decide (0 < (j : Int)) = false := by simp [h0]
                  have h0' : j ≤ 0 := by omega
                  clear h0 hcp
                  go_wp2_with fail
                  go_quiet (fail)
                  go_wp2_with fail
                  go_quiet (fail)
                  go_wp2_with fail
                  refine (next_any w.heap.size b off n cap f c 96 (j + 1) _ (by omega) hn hB HR.out (fun q hq => ((((by first | exact (below_draw hblj _).setCell (by show w.heap.size ≤ w.heap.size + 1 + 1 + 1; omega) _ | exact below_draw (hblj.setCell (by show w.heap.size ≤ w.heap.size + 1 + 1 + 1; omega) _) _ | exact hblj.setCell (by show w.heap.size ≤ w.heap.size + 1 + 1 + 1; omega) _ | exact below_draw hblj _ | exact hblj) : Below w.heap.size w _).cell (p := ⟨b, off + q, none⟩) hB).trans (HC.out q hq))) (by first | exact (HXj.out.drewN _).set (j + 1) _ (by go_num) | exact (HXj.out.set (j + 1) _ (by go_num)).drewN _ | exact HXj.out.set (j + 1) _ (by go_num) | exact HXj.out.drewN _ | exact HXj.out)).mono ?_
                  rintro en u ⟨ku, tu, rfl, HKu, hku, hiku, htu, HXu, hgu⟩
                  have hblu : Below w.heap.size w u := below_only (by first | exact (below_draw hblj _).setCell (by show w.heap.size ≤ w.heap.size + 1 + 1 + 1; omega) _ | exact below_draw (hblj.setCell (by show w.heap.size ≤ w.heap.size + 1 + 1 + 1; omega) _) _ | exact hblj.setCell (by show w.heap.size ≤ w.heap.size + 1 + 1 + 1; omega) _ | exact below_draw hblj _ | exact hblj) hgu (by show w.heap.size ≤ w.heap.size + 1 + 1 + 1; omega) (by first | omega | (simp <;> omega))
                  have hszu : w.heap.size + 4 ≤ u.heap.size := Nat.le_trans (by first | omega | (simp <;> omega)) hgu.size
                  obtain ⟨ux1, ux2, ux3, ux4, ux5⟩ := HXu.out
                  clear hgu
                  by_cases hkn : ku < n
                  · have HN := Lib.hid ((HT2 ku).out HKu.out.1 hkn)
                    have e9 : ((ku : Int) == (n : Int)) = false := by simp; omega
                    go_wp2_with fail
                    go_roundw
                    case rel => exact ⟨ku + 1, HN, by omega, Lib.hid (by first | exact (HXu.out.drewN _).set (ku + 1) _ (by go_num) | exact (HXu.out.set (ku + 1) _ (by go_num)).drewN _ | exact HXu.out.set (ku + 1) _ (by go_num) | exact HXu.out.drewN _ | exact HXu.out), (by first | exact (below_draw hblu _).setCell (by show w.heap.size ≤ w.heap.size + 1 + 1 + 1; omega) _ | exact below_draw (hblu.setCell (by show w.heap.size ≤ w.heap.size + 1 + 1 + 1; omega) _) _ | exact hblu.setCell (by show w.heap.size ≤ w.heap.size + 1 + 1 + 1; omega) _ | exact below_draw hblu _ | exact hblu), (by first | omega | (simp <;> omega))⟩
                    case measure => rw [posIn_of ((by first | exact (HXu.out.drewN _).set (ku + 1) _ (by go_num) | exact (HXu.out.set (ku + 1) _ (by go_num)).drewN _ | exact HXu.out.set (ku + 1) _ (by go_num) | exact HXu.out.drewN _ | exact HXu.out) : Bx _ _ _ _ _ _ (ku + 1)), posIn_of HX.out]; omega
                  · have HO := Lib.hid ((HT ku tu).out HKu.out.1 HKu.out.2 (by omega))
                    have e9 : ((ku : Int) == (n : Int)) = true := by simp; omega
                    go_wp2_with fail
                    go_ret
                    exact ⟨tu, rfl, HO, (by first | exact (below_draw hblu _).setCell (by show w.heap.size ≤ w.heap.size + 1 + 1 + 1; omega) _ | exact below_draw (hblu.setCell (by show w.heap.size ≤ w.heap.size + 1 + 1 + 1; omega) _) _ | exact hblu.setCell (by show w.heap.size ≤ w.heap.size + 1 + 1 + 1; omega) _ | exact below_draw hblu _ | exact hblu)⟩
                · have e4 : decide (0 < (j : Int)) = true := by simp; omega
                  have hcp1 := hcp h0
                  have e5 := (snb h92).2
                  clear h92 hcp
                  go_wp2_with fail
                  go_quiet (fail)
                  go_wp2_with fail
                  go_quiet (fail)
                  go_wp2_with fail
                  refine (next_any w.heap.size b off n cap f c 96 (j + 1) _ (by omega) hn hB HR.out (fun q hq => ((((by first | exact (below_draw hblj _).setCell (by show w.heap.size ≤ w.heap.size + 1 + 1 + 1; omega) _ | exact below_draw (hblj.setCell (by show w.heap.size ≤ w.heap.size + 1 + 1 + 1; omega) _) _ | exact hblj.setCell (by show w.heap.size ≤ w.heap.size + 1 + 1 + 1; omega) _ | exact below_draw hblj _ | exact hblj) : Below w.heap.size w _).cell (p := ⟨b, off + q, none⟩) hB).trans (HC.out q hq))) (by first | exact (HXj.out.drewN _).set (j + 1) _ (by go_num) | exact (HXj.out.set (j + 1) _ (by go_num)).drewN _ | exact HXj.out.set (j + 1) _ (by go_num) | exact HXj.out.drewN _ | exact HXj.out)).mono ?_
                  rintro en u ⟨ku, tu, rfl, HKu, hku, hiku, htu, HXu, hgu⟩
                  have hblu : Below w.heap.size w u := below_only (by first | exact (below_draw hblj _).setCell (by show w.heap.size ≤ w.heap.size + 1 + 1 + 1; omega) _ | exact below_draw (hblj.setCell (by show w.heap.size ≤ w.heap.size + 1 + 1 + 1; omega) _) _ | exact hblj.setCell (by show w.heap.size ≤ w.heap.size + 1 + 1 + 1; omega) _ | exact below_draw hblj _ | exact hblj) hgu (by show w.heap.size ≤ w.heap.size + 1 + 1 + 1; omega) (by first | omega | (simp <;> omega))
                  have hszu : w.heap.size + 4 ≤ u.heap.size := Nat.le_trans (by first | omega | (simp <;> omega)) hgu.size
                  obtain ⟨ux1, ux2, ux3, ux4, ux5⟩ := HXu.out
                  clear hgu
                  by_cases hkn : ku < n
                  · have HN := Lib.hid ((HT2 ku).out HKu.out.1 hkn)
                    have e9 : ((ku : Int) == (n : Int)) = false := by simp; omega
                    go_wp2_with fail
                    go_roundw
                    case rel => exact ⟨ku + 1, HN, by omega, Lib.hid (by first | exact (HXu.out.drewN _).set (ku + 1) _ (by go_num) | exact (HXu.out.set (ku + 1) _ (by go_num)).drewN _ | exact HXu.out.set (ku + 1) _ (by go_num) | exact HXu.out.drewN _ | exact HXu.out), (by first | exact (below_draw hblu _).setCell (by show w.heap.size ≤ w.heap.size + 1 + 1 + 1; omega) _ | exact below_draw (hblu.setCell (by show w.heap.size ≤ w.heap.size + 1 + 1 + 1; omega) _) _ | exact hblu.setCell (by show w.heap.size ≤ w.heap.size + 1 + 1 + 1; omega) _ | exact below_draw hblu _ | exact hblu), (by first | omega | (simp <;> omega))⟩
                    case measure => rw [posIn_of ((by first | exact (HXu.out.drewN _).set (ku + 1) _ (by go_num) | exact (HXu.out.set (ku + 1) _ (by go_num)).drewN _ | exact HXu.out.set (ku + 1) _ (by go_num) | exact HXu.out.drewN _ | exact HXu.out) : Bx _ _ _ _ _ _ (ku + 1)), posIn_of HX.out]; omega
                  · have HO := Lib.hid ((HT ku tu).out HKu.out.1 HKu.out.2 (by omega))
                    have e9 : ((ku : Int) == (n : Int)) = true := by simp; omega
                    go_wp2_with fail
                    go_ret
                    exact ⟨tu, rfl, HO, (by first | exact (below_draw hblu _).setCell (by show w.heap.size ≤ w.heap.size + 1 + 1 + 1; omega) _ | exact below_draw (hblu.setCell (by show w.heap.size ≤ w.heap.size + 1 + 1 + 1; omega) _) _ | exact hblu.setCell (by show w.heap.size ≤ w.heap.size + 1 + 1 + 1; omega) _ | exact below_draw hblu _ | exact hblu)⟩
              · have HL := fun (k t m : Nat) => Lib.hid (fe_link (k := k) (t := t) (m := m) HF.out hlt HST.out hjl HE.out h1 h2)
                obtain ⟨e1, e1'⟩ := snb h1
                obtain ⟨e2, e2'⟩ := snb h2
                obtain ⟨e3, e3'⟩ := seb h3
                clear h1 h2 h3
                rcases hne with h0 | ⟨h0, h92⟩
                · have e4 : decide (0 < (j : Int)) = false := by simp [h0]
                  have h0' : j ≤ 0 := by omega
                  clear h0 hcp
                  go_wp2_with fail
                  go_quiet (fail)
                  go_wp2_with fail
                  go_quiet (fail)
                  go_wp2_with fail
                  refine (next_any w.heap.size b off n cap f c 93 (j + 1) _ (by omega) hn hB HR.out (fun q hq => ((((by first | exact (below_draw hblj _).setCell (by show w.heap.size ≤ w.heap.size + 1 + 1 + 1; omega) _ | exact below_draw (hblj.setCell (by show w.heap.size ≤ w.heap.size + 1 + 1 + 1; omega) _) _ | exact hblj.setCell (by show w.heap.size ≤ w.heap.size + 1 + 1 + 1; omega) _ | exact below_draw hblj _ | exact hblj) : Below w.heap.size w _).cell (p := ⟨b, off + q, none⟩) hB).trans (HC.out q hq))) (by first | exact (HXj.out.drewN _).set (j + 1) _ (by go_num) | exact (HXj.out.set (j + 1) _ (by go_num)).drewN _ | exact HXj.out.set (j + 1) _ (by go_num) | exact HXj.out.drewN _ | exact HXj.out)).mono ?_
                  rintro en u ⟨ku, tu, rfl, HKu, hku, hiku, htu, HXu, hgu⟩
                  have hblu : Below w.heap.size w u := below_only (by first | exact (below_draw hblj _).setCell (by show w.heap.size ≤ w.heap.size + 1 + 1 + 1; omega) _ | exact below_draw (hblj.setCell (by show w.heap.size ≤ w.heap.size + 1 + 1 + 1; omega) _) _ | exact hblj.setCell (by show w.heap.size ≤ w.heap.size + 1 + 1 + 1; omega) _ | exact below_draw hblj _ | exact hblj) hgu (by show w.heap.size ≤ w.heap.size + 1 + 1 + 1; omega) (by first | omega | (simp <;> omega))
                  have hszu : w.heap.size + 4 ≤ u.heap.size := Nat.le_trans (by first | omega | (simp <;> omega)) hgu.size
                  obtain ⟨ux1, ux2, ux3, ux4, ux5⟩ := HXu.out
                  clear hgu
                  have HM := fun m => Lib.hid ((HL ku tu m).out HKu.out.1 HKu.out.2)
                  go_wp2_with fail
                  go_loopw [] (fun wm => ∃ m : Nat, Hid (scan noBlank n f (ku + 1) = scan noBlank n f m) ∧ ku + 1 ≤ m ∧ m ≤ n + 1 ∧ Hid (Bx wm w.heap.size (some ⟨b, off, none⟩) n cap c m) ∧ Below w.heap.size w wm ∧ w.heap.size + 4 ≤ wm.heap.size) (fun wm => n + 1 - (posIn wm w.heap.size).toNat)
                  case atStart => exact ⟨ku + 1, Lib.hid rfl, by omega, by omega, Lib.hid (by first | exact (HXu.out.drewN _).set (ku + 1) _ (by go_num) | exact (HXu.out.set (ku + 1) _ (by go_num)).drewN _ | exact HXu.out.set (ku + 1) _ (by go_num) | exact HXu.out.drewN _ | exact HXu.out), (by first | exact (below_draw hblu _).setCell (by show w.heap.size ≤ w.heap.size + 1 + 1 + 1; omega) _ | exact below_draw (hblu.setCell (by show w.heap.size ≤ w.heap.size + 1 + 1 + 1; omega) _) _ | exact hblu.setCell (by show w.heap.size ≤ w.heap.size + 1 + 1 + 1; omega) _ | exact below_draw hblu _ | exact hblu), (by first | omega | (simp <;> omega))⟩
                  case round =>
                    obtain ⟨wm, rfl⟩ : ∃ wm : World, wm = wr := ⟨_, rfl⟩
                    obtain ⟨m, HSM, hm1, hm2, HXm, hblm, hszm⟩ := hrel
                    obtain ⟨mx1, mx2, mx3, mx4, mx5⟩ := HXm.out
                    by_cases hml : m < n
                    · have hcm := (hblm.cell (p := ⟨b, off + m, none⟩) hB).trans (HC.out m hml)
                      have hrm := HR.out m
                      have e0 : decide ((m : Int) < (n : Int)) = true := by simp; omega
                      by_cases h32 : f m = 32
                      · have HSM' := Lib.hid (HSM.out.trans (scan_go hml (by simp [noBlank, h32])))
                        have e9 := (seb h32).2
                        clear h32
                        go_wp2_with fail
                        go_roundw
                        case rel => exact ⟨m + 1, HSM', by omega, by omega, Lib.hid (by first | exact (HXm.out.drewN _).set (m + 1) _ (by go_num) | exact (HXm.out.set (m + 1) _ (by go_num)).drewN _ | exact HXm.out.set (m + 1) _ (by go_num) | exact HXm.out.drewN _ | exact HXm.out), (by first | exact (below_draw hblm _).setCell (by show w.heap.size ≤ w.heap.size + 1 + 1 + 1; omega) _ | exact below_draw (hblm.setCell (by show w.heap.size ≤ w.heap.size + 1 + 1 + 1; omega) _) _ | exact hblm.setCell (by show w.heap.size ≤ w.heap.size + 1 + 1 + 1; omega) _ | exact below_draw hblm _ | exact hblm), (by first | omega | (simp <;> omega))⟩
                        case measure => rw [posIn_of ((by first | exact (HXm.out.drewN _).set (m + 1) _ (by go_num) | exact (HXm.out.set (m + 1) _ (by go_num)).drewN _ | exact HXm.out.set (m + 1) _ (by go_num) | exact HXm.out.drewN _ | exact HXm.out) : Bx _ _ _ _ _ _ (m + 1)), posIn_of HXm.out]; omega
                      · by_cases h10 : f m = 10
                        · have HSM' := Lib.hid (HSM.out.trans (scan_go hml (by simp [noBlank, h10])))
                          have e9 := (snb h32).2
                          have e10 := (seb h10).2
                          clear h32 h10
                          go_wp2_with fail
                          go_roundw
                          case rel => exact ⟨m + 1, HSM', by omega, by omega, Lib.hid (by first | exact (HXm.out.drewN _).set (m + 1) _ (by go_num) | exact (HXm.out.set (m + 1) _ (by go_num)).drewN _ | exact HXm.out.set (m + 1) _ (by go_num) | exact HXm.out.drewN _ | exact HXm.out), (by first | exact (below_draw hblm _).setCell (by show w.heap.size ≤ w.heap.size + 1 + 1 + 1; omega) _ | exact below_draw (hblm.setCell (by show w.heap.size ≤ w.heap.size + 1 + 1 + 1; omega) _) _ | exact hblm.setCell (by show w.heap.size ≤ w.heap.size + 1 + 1 + 1; omega) _ | exact below_draw hblm _ | exact hblm), (by first | omega | (simp <;> omega))⟩
                          case measure => rw [posIn_of ((by first | exact (HXm.out.drewN _).set (m + 1) _ (by go_num) | exact (HXm.out.set (m + 1) _ (by go_num)).drewN _ | exact HXm.out.set (m + 1) _ (by go_num) | exact HXm.out.drewN _ | exact HXm.out) : Bx _ _ _ _ _ _ (m + 1)), posIn_of HXm.out]; omega
                        · have HLE := Lib.hid ((HM m).out (HSM.out.trans (scan_hit (by simp [noBlank, h32, h10]))))
                          have e9 := (snb h32).2
                          have e10 := (snb h10).2
                          clear h32 h10
                          by_cases h91 : f m = 91
                          · have H1 : Hid (f m = 91 ∨ f m = 40) := Lib.hid (.inl h91)
                            have e14 := (seb h91).1
                            clear h91
                            go_wp2_with fail
                            refine (next_any w.heap.size b off n cap f c (f m) (m + 1) _ (by omega) hn hB HR.out (fun q hq => ((((by first | exact (below_draw hblm _).setCell (by show w.heap.size ≤ w.heap.size + 1 + 1 + 1; omega) _ | exact below_draw (hblm.setCell (by show w.heap.size ≤ w.heap.size + 1 + 1 + 1; omega) _) _ | exact hblm.setCell (by show w.heap.size ≤ w.heap.size + 1 + 1 + 1; omega) _ | exact below_draw hblm _ | exact hblm) : Below w.heap.size w _).cell (p := ⟨b, off + q, none⟩) hB).trans (HC.out q hq))) (by first | exact (HXm.out.drewN _).set (m + 1) _ (by go_num) | exact (HXm.out.set (m + 1) _ (by go_num)).drewN _ | exact HXm.out.set (m + 1) _ (by go_num) | exact HXm.out.drewN _ | exact HXm.out)).mono ?_
                            rintro en v ⟨kv, tv, rfl, HKv, hkv, hikv, htv, HXv, hgv⟩
                            have hblv : Below w.heap.size w v := below_only (by first | exact (below_draw hblm _).setCell (by show w.heap.size ≤ w.heap.size + 1 + 1 + 1; omega) _ | exact below_draw (hblm.setCell (by show w.heap.size ≤ w.heap.size + 1 + 1 + 1; omega) _) _ | exact hblm.setCell (by show w.heap.size ≤ w.heap.size + 1 + 1 + 1; omega) _ | exact below_draw hblm _ | exact hblm) hgv (by show w.heap.size ≤ w.heap.size + 1 + 1 + 1; omega) (by first | omega | (simp <;> omega))
                            have hszv : w.heap.size + 4 ≤ v.heap.size := Nat.le_trans (by first | omega | (simp <;> omega)) hgv.size
                            obtain ⟨vx1, vx2, vx3, vx4, vx5⟩ := HXv.out
                            clear hgv
                            by_cases ht0 : tu = 0
                            · have e12 : ((tu : Int) == 0) = true := by simp [ht0]
                              by_cases hs0 : 0 < tv
                              · have HO := Lib.hid (le_second (s := tv) HLE.out hml H1.out ht0 HKv.out.2 hs0)
                                clear ht0
                                go_wp2_with fail
                                go_ret
                                exact ⟨tv, rfl, HO, (by first | exact (below_draw hblv _).setCell (by show w.heap.size ≤ w.heap.size + 1 + 1 + 1; omega) _ | exact below_draw (hblv.setCell (by show w.heap.size ≤ w.heap.size + 1 + 1 + 1; omega) _) _ | exact hblv.setCell (by show w.heap.size ≤ w.heap.size + 1 + 1 + 1; omega) _ | exact below_draw hblv _ | exact hblv)⟩
                              · have HNS : Hid (¬ (tu = 0 ∧ 0 < noted (isB (f m)) c n f (m + 1) 0)) := Lib.hid (by rw [HKv.out.2]; omega)
                                clear ht0
                                by_cases hq : kv < n
                                · have HN := Lib.hid (le_shut HLE.out hml H1.out HNS.out HKv.out.1 hq)
                                  go_wp2_with fail
                                  go_roundw
                                  case rel => exact ⟨kv + 1, HN, by omega, Lib.hid (by first | exact (HXv.out.drewN _).set (kv + 1) _ (by go_num) | exact (HXv.out.set (kv + 1) _ (by go_num)).drewN _ | exact HXv.out.set (kv + 1) _ (by go_num) | exact HXv.out.drewN _ | exact HXv.out), (by first | exact (below_draw hblv _).setCell (by show w.heap.size ≤ w.heap.size + 1 + 1 + 1; omega) _ | exact below_draw (hblv.setCell (by show w.heap.size ≤ w.heap.size + 1 + 1 + 1; omega) _) _ | exact hblv.setCell (by show w.heap.size ≤ w.heap.size + 1 + 1 + 1; omega) _ | exact below_draw hblv _ | exact hblv), (by first | omega | (simp <;> omega))⟩
                                  case measure => rw [posIn_of ((by first | exact (HXv.out.drewN _).set (kv + 1) _ (by go_num) | exact (HXv.out.set (kv + 1) _ (by go_num)).drewN _ | exact HXv.out.set (kv + 1) _ (by go_num) | exact HXv.out.drewN _ | exact HXv.out) : Bx _ _ _ _ _ _ (kv + 1)), posIn_of HX.out]; omega
                                · have HO := Lib.hid (le_open HLE.out hml H1.out HNS.out HKv.out.1 (by omega))
                                  go_wp2_with fail
                                  go_ret
                                  exact ⟨tu, rfl, HO, (by first | exact (below_draw hblv _).setCell (by show w.heap.size ≤ w.heap.size + 1 + 1 + 1; omega) _ | exact below_draw (hblv.setCell (by show w.heap.size ≤ w.heap.size + 1 + 1 + 1; omega) _) _ | exact hblv.setCell (by show w.heap.size ≤ w.heap.size + 1 + 1 + 1; omega) _ | exact below_draw hblv _ | exact hblv)⟩
                            · have e12 : ((tu : Int) == 0) = false := by simp; omega
                              have HNS : Hid (¬ (tu = 0 ∧ 0 < noted (isB (f m)) c n f (m + 1) 0)) := Lib.hid (fun h => ht0 h.1)
                              clear ht0
                              by_cases hq : kv < n
                              · have HN := Lib.hid (le_shut HLE.out hml H1.out HNS.out HKv.out.1 hq)
                                go_wp2_with fail
                                go_roundw
                                case rel => exact ⟨kv + 1, HN, by omega, Lib.hid (by first | exact (HXv.out.drewN _).set (kv + 1) _ (by go_num) | exact (HXv.out.set (kv + 1) _ (by go_num)).drewN _ | exact HXv.out.set (kv + 1) _ (by go_num) | exact HXv.out.drewN _ | exact HXv.out), (by first | exact (below_draw hblv _).setCell (by show w.heap.size ≤ w.heap.size + 1 + 1 + 1; omega) _ | exact below_draw (hblv.setCell (by show w.heap.size ≤ w.heap.size + 1 + 1 + 1; omega) _) _ | exact hblv.setCell (by show w.heap.size ≤ w.heap.size + 1 + 1 + 1; omega) _ | exact below_draw hblv _ | exact hblv), (by first | omega | (simp <;> omega))⟩
                                case measure => rw [posIn_of ((by first | exact (HXv.out.drewN _).set (kv + 1) _ (by go_num) | exact (HXv.out.set (kv + 1) _ (by go_num)).drewN _ | exact HXv.out.set (kv + 1) _ (by go_num) | exact HXv.out.drewN _ | exact HXv.out) : Bx _ _ _ _ _ _ (kv + 1)), posIn_of HX.out]; omega
                              · have HO := Lib.hid (le_open HLE.out hml H1.out HNS.out HKv.out.1 (by omega))
                                go_wp2_with fail
                                go_ret
                                exact ⟨tu, rfl, HO, (by first | exact (below_draw hblv _).setCell (by show w.heap.size ≤ w.heap.size + 1 + 1 + 1; omega) _ | exact below_draw (hblv.setCell (by show w.heap.size ≤ w.heap.size + 1 + 1 + 1; omega) _) _ | exact hblv.setCell (by show w.heap.size ≤ w.heap.size + 1 + 1 + 1; omega) _ | exact below_draw hblv _ | exact hblv)⟩
                          · by_cases h40 : f m = 40
                            · have H1 : Hid (f m = 91 ∨ f m = 40) := Lib.hid (.inr h40)
                              have e14 := (snb h91).1
                              have e15 := (seb h40).1
                              clear h91 h40
                              go_wp2_with fail
                              refine (next_any w.heap.size b off n cap f c (f m) (m + 1) _ (by omega) hn hB HR.out (fun q hq => ((((by first | exact (below_draw hblm _).setCell (by show w.heap.size ≤ w.heap.size + 1 + 1 + 1; omega) _ | exact below_draw (hblm.setCell (by show w.heap.size ≤ w.heap.size + 1 + 1 + 1; omega) _) _ | exact hblm.setCell (by show w.heap.size ≤ w.heap.size + 1 + 1 + 1; omega) _ | exact below_draw hblm _ | exact hblm) : Below w.heap.size w _).cell (p := ⟨b, off + q, none⟩) hB).trans (HC.out q hq))) (by first | exact (HXm.out.drewN _).set (m + 1) _ (by go_num) | exact (HXm.out.set (m + 1) _ (by go_num)).drewN _ | exact HXm.out.set (m + 1) _ (by go_num) | exact HXm.out.drewN _ | exact HXm.out)).mono ?_
                              rintro en v ⟨kv, tv, rfl, HKv, hkv, hikv, htv, HXv, hgv⟩
                              have hblv : Below w.heap.size w v := below_only (by first | exact (below_draw hblm _).setCell (by show w.heap.size ≤ w.heap.size + 1 + 1 + 1; omega) _ | exact below_draw (hblm.setCell (by show w.heap.size ≤ w.heap.size + 1 + 1 + 1; omega) _) _ | exact hblm.setCell (by show w.heap.size ≤ w.heap.size + 1 + 1 + 1; omega) _ | exact below_draw hblm _ | exact hblm) hgv (by show w.heap.size ≤ w.heap.size + 1 + 1 + 1; omega) (by first | omega | (simp <;> omega))
                              have hszv : w.heap.size + 4 ≤ v.heap.size := Nat.le_trans (by first | omega | (simp <;> omega)) hgv.size
                              obtain ⟨vx1, vx2, vx3, vx4, vx5⟩ := HXv.out
                              clear hgv
                              by_cases ht0 : tu = 0
                              · have e12 : ((tu : Int) == 0) = true := by simp [ht0]
                                by_cases hs0 : 0 < tv
                                · have HO := Lib.hid (le_second (s := tv) HLE.out hml H1.out ht0 HKv.out.2 hs0)
                                  clear ht0
                                  go_wp2_with fail
                                  go_ret
                                  exact ⟨tv, rfl, HO, (by first | exact (below_draw hblv _).setCell (by show w.heap.size ≤ w.heap.size + 1 + 1 + 1; omega) _ | exact below_draw (hblv.setCell (by show w.heap.size ≤ w.heap.size + 1 + 1 + 1; omega) _) _ | exact hblv.setCell (by show w.heap.size ≤ w.heap.size + 1 + 1 + 1; omega) _ | exact below_draw hblv _ | exact hblv)⟩
                                · have HNS : Hid (¬ (tu = 0 ∧ 0 < noted (isB (f m)) c n f (m + 1) 0)) := Lib.hid (by rw [HKv.out.2]; omega)
                                  clear ht0
                                  by_cases hq : kv < n
                                  · have HN := Lib.hid (le_shut HLE.out hml H1.out HNS.out HKv.out.1 hq)
                                    go_wp2_with fail
                                    go_roundw
                                    case rel => exact ⟨kv + 1, HN, by omega, Lib.hid (by first | exact (HXv.out.drewN _).set (kv + 1) _ (by go_num) | exact (HXv.out.set (kv + 1) _ (by go_num)).drewN _ | exact HXv.out.set (kv + 1) _ (by go_num) | exact HXv.out.drewN _ | exact HXv.out), (by first | exact (below_draw hblv _).setCell (by show w.heap.size ≤ w.heap.size + 1 + 1 + 1; omega) _ | exact below_draw (hblv.setCell (by show w.heap.size ≤ w.heap.size + 1 + 1 + 1; omega) _) _ | exact hblv.setCell (by show w.heap.size ≤ w.heap.size + 1 + 1 + 1; omega) _ | exact below_draw hblv _ | exact hblv), (by first | omega | (simp <;> omega))⟩
                                    case measure => rw [posIn_of ((by first | exact (HXv.out.drewN _).set (kv + 1) _ (by go_num) | exact (HXv.out.set (kv + 1) _ (by go_num)).drewN _ | exact HXv.out.set (kv + 1) _ (by go_num) | exact HXv.out.drewN _ | exact HXv.out) : Bx _ _ _ _ _ _ (kv + 1)), posIn_of HX.out]; omega
                                  · have HO := Lib.hid (le_open HLE.out hml H1.out HNS.out HKv.out.1 (by omega))
                                    go_wp2_with fail
                                    go_ret
                                    exact ⟨tu, rfl, HO, (by first | exact (below_draw hblv _).setCell (by show w.heap.size ≤ w.heap.size + 1 + 1 + 1; omega) _ | exact below_draw (hblv.setCell (by show w.heap.size ≤ w.heap.size + 1 + 1 + 1; omega) _) _ | exact hblv.setCell (by show w.heap.size ≤ w.heap.size + 1 + 1 + 1; omega) _ | exact below_draw hblv _ | exact hblv)⟩
                              · have e12 : ((tu : Int) == 0) = false := by simp; omega
                                have HNS : Hid (¬ (tu = 0 ∧ 0 < noted (isB (f m)) c n f (m + 1) 0)) := Lib.hid (fun h => ht0 h.1)
                                clear ht0
                                by_cases hq : kv < n
                                · have HN := Lib.hid (le_shut HLE.out hml H1.out HNS.out HKv.out.1 hq)
                                  go_wp2_with fail
                                  go_roundw
                                  case rel => exact ⟨kv + 1, HN, by omega, Lib.hid (by first | exact (HXv.out.drewN _).set (kv + 1) _ (by go_num) | exact (HXv.out.set (kv + 1) _ (by go_num)).drewN _ | exact HXv.out.set (kv + 1) _ (by go_num) | exact HXv.out.drewN _ | exact HXv.out), (by first | exact (below_draw hblv _).setCell (by show w.heap.size ≤ w.heap.size + 1 + 1 + 1; omega) _ | exact below_draw (hblv.setCell (by show w.heap.size ≤ w.heap.size + 1 + 1 + 1; omega) _) _ | exact hblv.setCell (by show w.heap.size ≤ w.heap.size + 1 + 1 + 1; omega) _ | exact below_draw hblv _ | exact hblv), (by first | omega | (simp <;> omega))⟩
                                  case measure => rw [posIn_of ((by first | exact (HXv.out.drewN _).set (kv + 1) _ (by go_num) | exact (HXv.out.set (kv + 1) _ (by go_num)).drewN _ | exact HXv.out.set (kv + 1) _ (by go_num) | exact HXv.out.drewN _ | exact HXv.out) : Bx _ _ _ _ _ _ (kv + 1)), posIn_of HX.out]; omega
                                · have HO := Lib.hid (le_open HLE.out hml H1.out HNS.out HKv.out.1 (by omega))
                                  go_wp2_with fail
                                  go_ret
                                  exact ⟨tu, rfl, HO, (by first | exact (below_draw hblv _).setCell (by show w.heap.size ≤ w.heap.size + 1 + 1 + 1; omega) _ | exact below_draw (hblv.setCell (by show w.heap.size ≤ w.heap.size + 1 + 1 + 1; omega) _) _ | exact hblv.setCell (by show w.heap.size ≤ w.heap.size + 1 + 1 + 1; omega) _ | exact below_draw hblv _ | exact hblv)⟩
                            · have HP := fun h0 => Lib.hid (le_plain HLE.out hml h91 h40 h0)
                              have HA := fun h0 => Lib.hid (le_again HLE.out hml h91 h40 h0)
                              have e14 := (snb h91).1
                              have e15 := (snb h40).1
                              clear h91 h40
                              by_cases ht0 : 0 < tu
                              · have HO := HP ht0
                                clear HP HA
                                go_wp2_with fail
                                go_ret
                                exact ⟨tu, rfl, HO, (by first | exact (below_draw hblm _).setCell (by show w.heap.size ≤ w.heap.size + 1 + 1 + 1; omega) _ | exact below_draw (hblm.setCell (by show w.heap.size ≤ w.heap.size + 1 + 1 + 1; omega) _) _ | exact hblm.setCell (by show w.heap.size ≤ w.heap.size + 1 + 1 + 1; omega) _ | exact below_draw hblm _ | exact hblm)⟩
                              · have HN := HA (by omega)
                                clear HP HA
                                go_wp2_with fail
                                go_roundw
                                case rel => exact ⟨m, HN, by omega, Lib.hid (by first | exact (HXm.out.drewN _).set (m) _ (by go_num) | exact (HXm.out.set (m) _ (by go_num)).drewN _ | exact HXm.out.set (m) _ (by go_num) | exact HXm.out.drewN _ | exact HXm.out), (by first | exact (below_draw hblm _).setCell (by show w.heap.size ≤ w.heap.size + 1 + 1 + 1; omega) _ | exact below_draw (hblm.setCell (by show w.heap.size ≤ w.heap.size + 1 + 1 + 1; omega) _) _ | exact hblm.setCell (by show w.heap.size ≤ w.heap.size + 1 + 1 + 1; omega) _ | exact below_draw hblm _ | exact hblm), (by first | omega | (simp <;> omega))⟩
                                case measure => rw [posIn_of ((by first | exact (HXm.out.drewN _).set (m) _ (by go_num) | exact (HXm.out.set (m) _ (by go_num)).drewN _ | exact HXm.out.set (m) _ (by go_num) | exact HXm.out.drewN _ | exact HXm.out) : Bx _ _ _ _ _ _ (m)), posIn_of HX.out]; omega
                    · have HO := Lib.hid (le_over ((HM m).out (HSM.out.trans (scan_end (by omega)))) (by omega))
                      have e0 : decide ((m : Int) < (n : Int)) = false := by simp; omega
                      have e0' : decide (m < n) = false := by simpa using hml
                      have hml' : n ≤ m := by omega
                      clear hml
                      go_wp2_with fail
                      go_ret
                      exact ⟨tu, rfl, HO, (by first | exact (below_draw hblm _).setCell (by show w.heap.size ≤ w.heap.size + 1 + 1 + 1; omega) _ | exact below_draw (hblm.setCell (by show w.heap.size ≤ w.heap.size + 1 + 1 + 1; omega) _) _ | exact hblm.setCell (by show w.heap.size ≤ w.heap.size + 1 + 1 + 1; omega) _ | exact below_draw hblm _ | exact hblm)⟩
                · have e4 : decide (0 < (j : Int)) = true := by simp; omega
                  have hcp1 := hcp h0
                  have e5 := (snb h92).2
                  clear h92 hcp
                  go_wp2_with fail
                  go_quiet (fail)
                  go_wp2_with fail
                  go_quiet (fail)
                  go_wp2_with fail
                  refine (next_any w.heap.size b off n cap f c 93 (j + 1) _ (by omega) hn hB HR.out (fun q hq => ((((by first | exact (below_draw hblj _).setCell (by show w.heap.size ≤ w.heap.size + 1 + 1 + 1; omega) _ | exact below_draw (hblj.setCell (by show w.heap.size ≤ w.heap.size + 1 + 1 + 1; omega) _) _ | exact hblj.setCell (by show w.heap.size ≤ w.heap.size + 1 + 1 + 1; omega) _ | exact below_draw hblj _ | exact hblj) : Below w.heap.size w _).cell (p := ⟨b, off + q, none⟩) hB).trans (HC.out q hq))) (by first | exact (HXj.out.drewN _).set (j + 1) _ (by go_num) | exact (HXj.out.set (j + 1) _ (by go_num)).drewN _ | exact HXj.out.set (j + 1) _ (by go_num) | exact HXj.out.drewN _ | exact HXj.out)).mono ?_
                  rintro en u ⟨ku, tu, rfl, HKu, hku, hiku, htu, HXu, hgu⟩
                  have hblu : Below w.heap.size w u := below_only (by first | exact (below_draw hblj _).setCell (by show w.heap.size ≤ w.heap.size + 1 + 1 + 1; omega) _ | exact below_draw (hblj.setCell (by show w.heap.size ≤ w.heap.size + 1 + 1 + 1; omega) _) _ | exact hblj.setCell (by show w.heap.size ≤ w.heap.size + 1 + 1 + 1; omega) _ | exact below_draw hblj _ | exact hblj) hgu (by show w.heap.size ≤ w.heap.size + 1 + 1 + 1; omega) (by first | omega | (simp <;> omega))
                  have hszu : w.heap.size + 4 ≤ u.heap.size := Nat.le_trans (by first | omega | (simp <;> omega)) hgu.size
                  obtain ⟨ux1, ux2, ux3, ux4, ux5⟩ := HXu.out
                  clear hgu
                  have HM := fun m => Lib.hid ((HL ku tu m).out HKu.out.1 HKu.out.2)
                  go_wp2_with fail
                  go_loopw [] (fun wm => ∃ m : Nat, Hid (scan noBlank n f (ku + 1) = scan noBlank n f m) ∧ ku + 1 ≤ m ∧ m ≤ n + 1 ∧ Hid (Bx wm w.heap.size (some ⟨b, off, none⟩) n cap c m) ∧ Below w.heap.size w wm ∧ w.heap.size + 4 ≤ wm.heap.size) (fun wm => n + 1 - (posIn wm w.heap.size).toNat)
                  case atStart => exact ⟨ku + 1, Lib.hid rfl, by omega, by omega, Lib.hid (by first | exact (HXu.out.drewN _).set (ku + 1) _ (by go_num) | exact (HXu.out.set (ku + 1) _ (by go_num)).drewN _ | exact HXu.out.set (ku + 1) _ (by go_num) | exact HXu.out.drewN _ | exact HXu.out), (by first | exact (below_draw hblu _).setCell (by show w.heap.size ≤ w.heap.size + 1 + 1 + 1; omega) _ | exact below_draw (hblu.setCell (by show w.heap.size ≤ w.heap.size + 1 + 1 + 1; omega) _) _ | exact hblu.setCell (by show w.heap.size ≤ w.heap.size + 1 + 1 + 1; omega) _ | exact below_draw hblu _ | exact hblu), (by first | omega | (simp <;> omega))⟩
                  case round =>
                    obtain ⟨wm, rfl⟩ : ∃ wm : World, wm = wr := ⟨_, rfl⟩
                    obtain ⟨m, HSM, hm1, hm2, HXm, hblm, hszm⟩ := hrel
                    obtain ⟨mx1, mx2, mx3, mx4, mx5⟩ := HXm.out
                    by_cases hml : m < n
                    · have hcm := (hblm.cell (p := ⟨b, off + m, none⟩) hB).trans (HC.out m hml)
                      have hrm := HR.out m
                      have e0 : decide ((m : Int) < (n : Int)) = true := by simp; omega
                      by_cases h32 : f m = 32
                      · have HSM' := Lib.hid (HSM.out.trans (scan_go hml (by simp [noBlank, h32])))
                        have e9 := (seb h32).2
                        clear h32
                        go_wp2_with fail
                        go_roundw
                        case rel => exact ⟨m + 1, HSM', by omega, by omega, Lib.hid (by first | exact (HXm.out.drewN _).set (m + 1) _ (by go_num) | exact (HXm.out.set (m + 1) _ (by go_num)).drewN _ | exact HXm.out.set (m + 1) _ (by go_num) | exact HXm.out.drewN _ | exact HXm.out), (by first | exact (below_draw hblm _).setCell (by show w.heap.size ≤ w.heap.size + 1 + 1 + 1; omega) _ | exact below_draw (hblm.setCell (by show w.heap.size ≤ w.heap.size + 1 + 1 + 1; omega) _) _ | exact hblm.setCell (by show w.heap.size ≤ w.heap.size + 1 + 1 + 1; omega) _ | exact below_draw hblm _ | exact hblm), (by first | omega | (simp <;> omega))⟩
                        case measure => rw [posIn_of ((by first | exact (HXm.out.drewN _).set (m + 1) _ (by go_num) | exact (HXm.out.set (m + 1) _ (by go_num)).drewN _ | exact HXm.out.set (m + 1) _ (by go_num) | exact HXm.out.drewN _ | exact HXm.out) : Bx _ _ _ _ _ _ (m + 1)), posIn_of HXm.out]; omega
                      · by_cases h10 : f m = 10
                        · have HSM' := Lib.hid (HSM.out.trans (scan_go hml (by simp [noBlank, h10])))
                          have e9 := (snb h32).2
                          have e10 := (seb h10).2
                          clear h32 h10
                          go_wp2_with fail
                          go_roundw
                          case rel => exact ⟨m + 1, HSM', by omega, by omega, Lib.hid (by first | exact (HXm.out.drewN _).set (m + 1) _ (by go_num) | exact (HXm.out.set (m + 1) _ (by go_num)).drewN _ | exact HXm.out.set (m + 1) _ (by go_num) | exact HXm.out.drewN _ | exact HXm.out), (by first | exact (below_draw hblm _).setCell (by show w.heap.size ≤ w.heap.size + 1 + 1 + 1; omega) _ | exact below_draw (hblm.setCell (by show w.heap.size ≤ w.heap.size + 1 + 1 + 1; omega) _) _ | exact hblm.setCell (by show w.heap.size ≤ w.heap.size + 1 + 1 + 1; omega) _ | exact below_draw hblm _ | exact hblm), (by first | omega | (simp <;> omega))⟩
                          case measure => rw [posIn_of ((by first | exact (HXm.out.drewN _).set (m + 1) _ (by go_num) | exact (HXm.out.set (m + 1) _ (by go_num)).drewN _ | exact HXm.out.set (m + 1) _ (by go_num) | exact HXm.out.drewN _ | exact HXm.out) : Bx _ _ _ _ _ _ (m + 1)), posIn_of HXm.out]; omega
                        · have HLE := Lib.hid ((HM m).out (HSM.out.trans (scan_hit (by simp [noBlank, h32, h10]))))
                          have e9 := (snb h32).2
                          have e10 := (snb h10).2
                          clear h32 h10
                          by_cases h91 : f m = 91
                          · have H1 : Hid (f m = 91 ∨ f m = 40) := Lib.hid (.inl h91)
                            have e14 := (seb h91).1
                            clear h91
                            go_wp2_with fail
                            refine (next_any w.heap.size b off n cap f c (f m) (m + 1) _ (by omega) hn hB HR.out (fun q hq => ((((by first | exact (below_draw hblm _).setCell (by show w.heap.size ≤ w.heap.size + 1 + 1 + 1; omega) _ | exact below_draw (hblm.setCell (by show w.heap.size ≤ w.heap.size + 1 + 1 + 1; omega) _) _ | exact hblm.setCell (by show w.heap.size ≤ w.heap.size + 1 + 1 + 1; omega) _ | exact below_draw hblm _ | exact hblm) : Below w.heap.size w _).cell (p := ⟨b, off + q, none⟩) hB).trans (HC.out q hq))) (by first | exact (HXm.out.drewN _).set (m + 1) _ (by go_num) | exact (HXm.out.set (m + 1) _ (by go_num)).drewN _ | exact HXm.out.set (m + 1) _ (by go_num) | exact HXm.out.drewN _ | exact HXm.out)).mono ?_
                            rintro en v ⟨kv, tv, rfl, HKv, hkv, hikv, htv, HXv, hgv⟩
                            have hblv : Below w.heap.size w v := below_only (by first | exact (below_draw hblm _).setCell (by show w.heap.size ≤ w.heap.size + 1 + 1 + 1; omega) _ | exact below_draw (hblm.setCell (by show w.heap.size ≤ w.heap.size + 1 + 1 + 1; omega) _) _ | exact hblm.setCell (by show w.heap.size ≤ w.heap.size + 1 + 1 + 1; omega) _ | exact below_draw hblm _ | exact hblm) hgv (by show w.heap.size ≤ w.heap.size + 1 + 1 + 1; omega) (by first | omega | (simp <;> omega))
                            have hszv : w.heap.size + 4 ≤ v.heap.size := Nat.le_trans (by first | omega | (simp <;> omega)) hgv.size
                            obtain ⟨vx1, vx2, vx3, vx4, vx5⟩ := HXv.out
                            clear hgv
                            by_cases ht0 : tu = 0
                            · have e12 : ((tu : Int) == 0) = true := by simp [ht0]
                              by_cases hs0 : 0 < tv
                              · have HO := Lib.hid (le_second (s := tv) HLE.out hml H1.out ht0 HKv.out.2 hs0)
                                clear ht0
                                go_wp2_with fail
                                go_ret
                                exact ⟨tv, rfl, HO, (by first | exact (below_draw hblv _).setCell (by show w.heap.size ≤ w.heap.size + 1 + 1 + 1; omega) _ | exact below_draw (hblv.setCell (by show w.heap.size ≤ w.heap.size + 1 + 1 + 1; omega) _) _ | exact hblv.setCell (by show w.heap.size ≤ w.heap.size + 1 + 1 + 1; omega) _ | exact below_draw hblv _ | exact hblv)⟩
                              · have HNS : Hid (¬ (tu = 0 ∧ 0 < noted (isB (f m)) c n f (m + 1) 0)) := Lib.hid (by rw [HKv.out.2]; omega)
                                clear ht0
                                by_cases hq : kv < n
                                · have HN := Lib.hid (le_shut HLE.out hml H1.out HNS.out HKv.out.1 hq)
                                  go_wp2_with fail
                                  go_roundw
                                  case rel => exact ⟨kv + 1, HN, by omega, Lib.hid (by first | exact (HXv.out.drewN _).set (kv + 1) _ (by go_num) | exact (HXv.out.set (kv + 1) _ (by go_num)).drewN _ | exact HXv.out.set (kv + 1) _ (by go_num) | exact HXv.out.drewN _ | exact HXv.out), (by first | exact (below_draw hblv _).setCell (by show w.heap.size ≤ w.heap.size + 1 + 1 + 1; omega) _ | exact below_draw (hblv.setCell (by show w.heap.size ≤ w.heap.size + 1 + 1 + 1; omega) _) _ | exact hblv.setCell (by show w.heap.size ≤ w.heap.size + 1 + 1 + 1; omega) _ | exact below_draw hblv _ | exact hblv), (by first | omega | (simp <;> omega))⟩
                                  case measure => rw [posIn_of ((by first | exact (HXv.out.drewN _).set (kv + 1) _ (by go_num) | exact (HXv.out.set (kv + 1) _ (by go_num)).drewN _ | exact HXv.out.set (kv + 1) _ (by go_num) | exact HXv.out.drewN _ | exact HXv.out) : Bx _ _ _ _ _ _ (kv + 1)), posIn_of HX.out]; omega
                                · have HO := Lib.hid (le_open HLE.out hml H1.out HNS.out HKv.out.1 (by omega))
                                  go_wp2_with fail
                                  go_ret
                                  exact ⟨tu, rfl, HO, (by first | exact (below_draw hblv _).setCell (by show w.heap.size ≤ w.heap.size + 1 + 1 + 1; omega) _ | exact below_draw (hblv.setCell (by show w.heap.size ≤ w.heap.size + 1 + 1 + 1; omega) _) _ | exact hblv.setCell (by show w.heap.size ≤ w.heap.size + 1 + 1 + 1; omega) _ | exact below_draw hblv _ | exact hblv)⟩
                            · have e12 : ((tu : Int) == 0) = false := by simp; omega
                              have HNS : Hid (¬ (tu = 0 ∧ 0 < noted (isB (f m)) c n f (m + 1) 0)) := Lib.hid (fun h => ht0 h.1)
                              clear ht0
                              by_cases hq : kv < n
                              · have HN := Lib.hid (le_shut HLE.out hml H1.out HNS.out HKv.out.1 hq)
                                go_wp2_with fail
                                go_roundw
                                case rel => exact ⟨kv + 1, HN, by omega, Lib.hid (by first | exact (HXv.out.drewN _).set (kv + 1) _ (by go_num) | exact (HXv.out.set (kv + 1) _ (by go_num)).drewN _ | exact HXv.out.set (kv + 1) _ (by go_num) | exact HXv.out.drewN _ | exact HXv.out), (by first | exact (below_draw hblv _).setCell (by show w.heap.size ≤ w.heap.size + 1 + 1 + 1; omega) _ | exact below_draw (hblv.setCell (by show w.heap.size ≤ w.heap.size + 1 + 1 + 1; omega) _) _ | exact hblv.setCell (by show w.heap.size ≤ w.heap.size + 1 + 1 + 1; omega) _ | exact below_draw hblv _ | exact hblv), (by first | omega | (simp <;> omega))⟩
                                case measure => rw [posIn_of ((by first | exact (HXv.out.drewN _).set (kv + 1) _ (by go_num) | exact (HXv.out.set (kv + 1) _ (by go_num)).drewN _ | exact HXv.out.set (kv + 1) _ (by go_num) | exact HXv.out.drewN _ | exact HXv.out) : Bx _ _ _ _ _ _ (kv + 1)), posIn_of HX.out]; omega
                              · have HO := Lib.hid (le_open HLE.out hml H1.out HNS.out HKv.out.1 (by omega))
                                go_wp2_with fail
                                go_ret
                                exact ⟨tu, rfl, HO, (by first | exact (below_draw hblv _).setCell (by show w.heap.size ≤ w.heap.size + 1 + 1 + 1; omega) _ | exact below_draw (hblv.setCell (by show w.heap.size ≤ w.heap.size + 1 + 1 + 1; omega) _) _ | exact hblv.setCell (by show w.heap.size ≤ w.heap.size + 1 + 1 + 1; omega) _ | exact below_draw hblv _ | exact hblv)⟩
                          · by_cases h40 : f m = 40
                            · have H1 : Hid (f m = 91 ∨ f m = 40) := Lib.hid (.inr h40)
                              have e14 := (snb h91).1
                              have e15 := (seb h40).1
                              clear h91 h40
                              go_wp2_with fail
                              refine (next_any w.heap.size b off n cap f c (f m) (m + 1) _ (by omega) hn hB HR.out (fun q hq => ((((by first | exact (below_draw hblm _).setCell (by show w.heap.size ≤ w.heap.size + 1 + 1 + 1; omega) _ | exact below_draw (hblm.setCell (by show w.heap.size ≤ w.heap.size + 1 + 1 + 1; omega) _) _ | exact hblm.setCell (by show w.heap.size ≤ w.heap.size + 1 + 1 + 1; omega) _ | exact below_draw hblm _ | exact hblm) : Below w.heap.size w _).cell (p := ⟨b, off + q, none⟩) hB).trans (HC.out q hq))) (by first | exact (HXm.out.drewN _).set (m + 1) _ (by go_num) | exact (HXm.out.set (m + 1) _ (by go_num)).drewN _ | exact HXm.out.set (m + 1) _ (by go_num) | exact HXm.out.drewN _ | exact HXm.out)).mono ?_
                              rintro en v ⟨kv, tv, rfl, HKv, hkv, hikv, htv, HXv, hgv⟩
                              have hblv : Below w.heap.size w v := below_only (by first | exact (below_draw hblm _).setCell (by show w.heap.size ≤ w.heap.size + 1 + 1 + 1; omega) _ | exact below_draw (hblm.setCell (by show w.heap.size ≤ w.heap.size + 1 + 1 + 1; omega) _) _ | exact hblm.setCell (by show w.heap.size ≤ w.heap.size + 1 + 1 + 1; omega) _ | exact below_draw hblm _ | exact hblm) hgv (by show w.heap.size ≤ w.heap.size + 1 + 1 + 1; omega) (by first | omega | (simp <;> omega))
                              have hszv : w.heap.size + 4 ≤ v.heap.size := Nat.le_trans (by first | omega | (simp <;> omega)) hgv.size
                              obtain ⟨vx1, vx2, vx3, vx4, vx5⟩ := HXv.out
                              clear hgv
                              by_cases ht0 : tu = 0
                              · have e12 : ((tu : Int) == 0) = true := by simp [ht0]
                                by_cases hs0 : 0 < tv
                                · have HO := Lib.hid (le_second (s := tv) HLE.out hml H1.out ht0 HKv.out.2 hs0)
                                  clear ht0
                                  go_wp2_with fail
                                  go_ret
                                  exact ⟨tv, rfl, HO, (by first | exact (below_draw hblv _).setCell (by show w.heap.size ≤ w.heap.size + 1 + 1 + 1; omega) _ | exact below_draw (hblv.setCell (by show w.heap.size ≤ w.heap.size + 1 + 1 + 1; omega) _) _ | exact hblv.setCell (by show w.heap.size ≤ w.heap.size + 1 + 1 + 1; omega) _ | exact below_draw hblv _ | exact hblv)⟩
                                · have HNS : Hid (¬ (tu = 0 ∧ 0 < noted (isB (f m)) c n f (m + 1) 0)) := Lib.hid (by rw [HKv.out.2]; omega)
                                  clear ht0
                                  by_cases hq : kv < n
                                  · have HN := Lib.hid (le_shut HLE.out hml H1.out HNS.out HKv.out.1 hq)
                                    go_wp2_with fail
                                    go_roundw
                                    case rel => exact ⟨kv + 1, HN, by omega, Lib.hid (by first | exact (HXv.out.drewN _).set (kv + 1) _ (by go_num) | exact (HXv.out.set (kv + 1) _ (by go_num)).drewN _ | exact HXv.out.set (kv + 1) _ (by go_num) | exact HXv.out.drewN _ | exact HXv.out), (by first | exact (below_draw hblv _).setCell (by show w.heap.size ≤ w.heap.size + 1 + 1 + 1; omega) _ | exact below_draw (hblv.setCell (by show w.heap.size ≤ w.heap.size + 1 + 1 + 1; omega) _) _ | exact hblv.setCell (by show w.heap.size ≤ w.heap.size + 1 + 1 + 1; omega) _ | exact below_draw hblv _ | exact hblv), (by first | omega | (simp <;> omega))⟩
                                    case measure => rw [posIn_of ((by first | exact (HXv.out.drewN _).set (kv + 1) _ (by go_num) | exact (HXv.out.set (kv + 1) _ (by go_num)).drewN _ | exact HXv.out.set (kv + 1) _ (by go_num) | exact HXv.out.drewN _ | exact HXv.out) : Bx _ _ _ _ _ _ (kv + 1)), posIn_of HX.out]; omega
                                  · have HO := Lib.hid (le_open HLE.out hml H1.out HNS.out HKv.out.1 (by omega))
                                    go_wp2_with fail
                                    go_ret
                                    exact ⟨tu, rfl, HO, (by first | exact (below_draw hblv _).setCell (by show w.heap.size ≤ w.heap.size + 1 + 1 + 1; omega) _ | exact below_draw (hblv.setCell (by show w.heap.size ≤ w.heap.size + 1 + 1 + 1; omega) _) _ | exact hblv.setCell (by show w.heap.size ≤ w.heap.size + 1 + 1 + 1; omega) _ | exact below_draw hblv _ | exact hblv)⟩
                              · have e12 : ((tu : Int) == 0) = false := by simp; omega
                                have HNS : Hid (¬ (tu = 0 ∧ 0 < noted (isB (f m)) c n f (m + 1) 0)) := Lib.hid (fun h => ht0 h.1)
                                clear ht0
                                by_cases hq : kv < n
                                · have HN := Lib.hid (le_shut HLE.out hml H1.out HNS.out HKv.out.1 hq)
                                  go_wp2_with fail
                                  go_roundw
                                  case rel => exact ⟨kv + 1, HN, by omega, Lib.hid (by first | exact (HXv.out.drewN _).set (kv + 1) _ (by go_num) | exact (HXv.out.set (kv + 1) _ (by go_num)).drewN _ | exact HXv.out.set (kv + 1) _ (by go_num) | exact HXv.out.drewN _ | exact HXv.out), (by first | exact (below_draw hblv _).setCell (by show w.heap.size ≤ w.heap.size + 1 + 1 + 1; omega) _ | exact below_draw (hblv.setCell (by show w.heap.size ≤ w.heap.size + 1 + 1 + 1; omega) _) _ | exact hblv.setCell (by show w.heap.size ≤ w.heap.size + 1 + 1 + 1; omega) _ | exact below_draw hblv _ | exact hblv), (by first | omega | (simp <;> omega))⟩
                                  case measure => rw [posIn_of ((by first | exact (HXv.out.drewN _).set (kv + 1) _ (by go_num) | exact (HXv.out.set (kv + 1) _ (by go_num)).drewN _ | exact HXv.out.set (kv + 1) _ (by go_num) | exact HXv.out.drewN _ | exact HXv.out) : Bx _ _ _ _ _ _ (kv + 1)), posIn_of HX.out]; omega
                                · have HO := Lib.hid (le_open HLE.out hml H1.out HNS.out HKv.out.1 (by omega))
                                  go_wp2_with fail
                                  go_ret
                                  exact ⟨tu, rfl, HO, (by first | exact (below_draw hblv _).setCell (by show w.heap.size ≤ w.heap.size + 1 + 1 + 1; omega) _ | exact below_draw (hblv.setCell (by show w.heap.size ≤ w.heap.size + 1 + 1 + 1; omega) _) _ | exact hblv.setCell (by show w.heap.size ≤ w.heap.size + 1 + 1 + 1; omega) _ | exact below_draw hblv _ | exact hblv)⟩
                            · have HP := fun h0 => Lib.hid (le_plain HLE.out hml h91 h40 h0)
                              have HA := fun h0 => Lib.hid (le_again HLE.out hml h91 h40 h0)
                              have e14 := (snb h91).1
                              have e15 := (snb h40).1
                              clear h91 h40
                              by_cases ht0 : 0 < tu
                              · have HO := HP ht0
                                clear HP HA
                                go_wp2_with fail
                                go_ret
                                exact ⟨tu, rfl, HO, (by first | exact (below_draw hblm _).setCell (by show w.heap.size ≤ w.heap.size + 1 + 1 + 1; omega) _ | exact below_draw (hblm.setCell (by show w.heap.size ≤ w.heap.size + 1 + 1 + 1; omega) _) _ | exact hblm.setCell (by show w.heap.size ≤ w.heap.size + 1 + 1 + 1; omega) _ | exact below_draw hblm _ | exact hblm)⟩
                              · have HN := HA (by omega)
                                clear HP HA
                                go_wp2_with fail
                                go_roundw
                                case rel => exact ⟨m, HN, by omega, Lib.hid (by first | exact (HXm.out.drewN _).set (m) _ (by go_num) | exact (HXm.out.set (m) _ (by go_num)).drewN _ | exact HXm.out.set (m) _ (by go_num) | exact HXm.out.drewN _ | exact HXm.out), (by first | exact (below_draw hblm _).setCell (by show w.heap.size ≤ w.heap.size + 1 + 1 + 1; omega) _ | exact below_draw (hblm.setCell (by show w.heap.size ≤ w.heap.size + 1 + 1 + 1; omega) _) _ | exact hblm.setCell (by show w.heap.size ≤ w.heap.size + 1 + 1 + 1; omega) _ | exact below_draw hblm _ | exact hblm), (by first | omega | (simp <;> omega))⟩
                                case measure => rw [posIn_of ((by first | exact (HXm.out.drewN _).set (m) _ (by go_num) | exact (HXm.out.set (m) _ (by go_num)).drewN _ | exact HXm.out.set (m) _ (by go_num) | exact HXm.out.drewN _ | exact HXm.out) : Bx _ _ _ _ _ _ (m)), posIn_of HX.out]; omega
                    · have HO := Lib.hid (le_over ((HM m).out (HSM.out.trans (scan_end (by omega)))) (by omega))
                      have e0 : decide ((m : Int) < (n : Int)) = false := by simp; omega
                      have e0' : decide (m < n) = false := by simpa using hml
                      have hml' : n ≤ m := by omega
                      clear hml
                      go_wp2_with fail
                      go_ret
                      exact ⟨tu, rfl, HO, (by first | exact (below_draw hblm _).setCell (by show w.heap.size ≤ w.heap.size + 1 + 1 + 1; omega) _ | exact below_draw (hblm.setCell (by show w.heap.size ≤ w.heap.size + 1 + 1 + 1; omega) _) _ | exact hblm.setCell (by show w.heap.size ≤ w.heap.size + 1 + 1 + 1; omega) _ | exact below_draw hblm _ | exact hblm)⟩
          · have hne : f j ≠ c ∧ f j ≠ 96 ∧ f j ≠ 91 := by simpa [stopsE] using hs
            have HN : Hid (scan (stopsE c) n f i = scan (stopsE c) n f (j + 1)) := Lib.hid (HS.out.trans (scan_go hjl (by simpa using hs)))
            have e1 := (snb hne.1).1; have e2 := (snb hne.2.1).1; have e3 := (snb hne.2.2).1
            clear hs hne
            go_wp2_with fail
            go_quiet (fail)
            go_wp2_with fail
            go_roundw
            case rel => exact ⟨j + 1, HN, by omega, by omega, Lib.hid (by first | exact (HXj.out.drewN _).set (j + 1) _ (by go_num) | exact (HXj.out.set (j + 1) _ (by go_num)).drewN _ | exact HXj.out.set (j + 1) _ (by go_num) | exact HXj.out.drewN _ | exact HXj.out), (by first | exact (below_draw hblj _).setCell (by show w.heap.size ≤ w.heap.size + 1 + 1 + 1; omega) _ | exact below_draw (hblj.setCell (by show w.heap.size ≤ w.heap.size + 1 + 1 + 1; omega) _) _ | exact hblj.setCell (by show w.heap.size ≤ w.heap.size + 1 + 1 + 1; omega) _ | exact below_draw hblj _ | exact hblj), (by first | omega | (simp <;> omega))⟩
            case measure => rw [posIn_of ((by first | exact (HXj.out.drewN _).set (j + 1) _ (by go_num) | exact (HXj.out.set (j + 1) _ (by go_num)).drewN _ | exact HXj.out.set (j + 1) _ (by go_num) | exact HXj.out.drewN _ | exact HXj.out) : Bx _ _ _ _ _ _ (j + 1)), posIn_of HXj.out]; omega
        · have HO := Lib.hid (fe_none HF.out hlt (HS.out.trans (scan_end (by omega))) (by omega))
          have e0 : decide ((j : Int) < (n : Int)) = false := by simp; omega
          have e0' : decide (j < n) = false := by simpa using hjl
          have e00 : ((j : Int) == (n : Int)) = true := by simp; omega
          clear hjl
          go_wp2_with fail
          go_quiet (fail)
          go_wp2_with fail
          go_ret
          exact ⟨0, rfl, HO, (by first | exact (below_draw hblj _).setCell (by show w.heap.size ≤ w.heap.size + 1 + 1 + 1; omega) _ | exact below_draw (hblj.setCell (by show w.heap.size ≤ w.heap.size + 1 + 1 + 1; omega) _) _ | exact hblj.setCell (by show w.heap.size ≤ w.heap.size + 1 + 1 + 1; omega) _ | exact below_draw hblj _ | exact hblj)⟩
    · have HO := Lib.hid (fe_over HF.out (by omega))
      go_wp2_with fail
      go_ret
      exact ⟨0, rfl, HO, (by first | exact (below_draw hbl _).setCell (by show w.heap.size ≤ w.heap.size + 1 + 1 + 1; omega) _ | exact below_draw (hbl.setCell (by show w.heap.size ≤ w.heap.size + 1 + 1 + 1; omega) _) _ | exact hbl.setCell (by show w.heap.size ≤ w.heap.size + 1 + 1 + 1; omega) _ | exact below_draw hbl _ | exact hbl)⟩
end Go.Proofs.Ytkkkdcfidoecnaa


