/- Tables: the walk of a row. -/
import Derived.Test.YtaljhebalgipjaaGreatDoorH4
namespace Go.Proofs.YtaljhebalgipjaaGreatDoor
open Go.RowKit
set_option linter.unusedVariables false

/-- Behind a cell: its block's two marks may be written. -/
theorem cell_marks {w w' : World} {B pb n : Nat} {ty : Nat → Int} {q b : Nat} (h : NewB w w' B pb n ty q 20 (.returned (.pointer (some ⟨b, 0, none⟩)))) (hq : ty q = 23) (u v : Value) :
    (∃ x, w'.cell? ⟨b, 25, none⟩ = some x) ∧ w'.frozen? ⟨b, 25, none⟩ = false ∧ (∃ x, w'.cell? ⟨b, 26, none⟩ = some x) ∧ w'.frozen? ⟨b, 26, none⟩ = false ∧
      RowTip ((w'.setCell ⟨b, 25, none⟩ u).setCell ⟨b, 26, none⟩ v) B pb (n + 1) ∧ But kindM B w' (w'.setCell ⟨b, 25, none⟩ u) ∧ But kindM B w ((w'.setCell ⟨b, 25, none⟩ u).setCell ⟨b, 26, none⟩ v) := by
  obtain ⟨b', nb', L', ty', he, hbn, hs, h1, h2, h3, h4, h5⟩ := h
  injection he with he; injection he with he; injection he with he; injection he with he
  subst he
  have hn : n < n + 1 := Nat.lt_succ_self n
  obtain ⟨c25, f25⟩ := hs.nodes.there hn (k := 25) (by omega)
  obtain ⟨c26, f26⟩ := hs.nodes.there hn (k := 26) (by omega)
  have g1 := hs.nodes.far hn (k := 25) (by omega) u
  have s1 := hs.nodesBut g1.1 g1.2
  have g2 := s1.nodes.far hn (k := 26) (by omega) v
  have s2 := s1.nodesBut g2.1 g2.2
  rw [← hbn] at c25 f25 c26 f26 g1 g2 s2
  exact ⟨c25, f25, c26, f26, ⟨nb', L', ty', n, q, s2, .inr ⟨h3, h1, rfl, by rw [h2 q h4]; exact hq⟩, by rw [h2 q h4]; exact hq, by omega⟩, g1.2.mono (fun e he => .inl he) (Nat.le_refl _),
    h5.trans ((g1.2.mono (fun e he => .inl he) (Nat.le_refl _)).trans (g2.2.mono (fun e he => .inl he) (Nat.le_refl _)))⟩
set_option maxRecDepth 100000 in
set_option maxHeartbeats 8000000 in
theorem tableRow_any (w : World) (B pb : Nat) (nb : Nat → Nat) (n : Nat) (L : Lk) (ty : Nat → Int) (k : Nat) (hS : SP w B pb nb n L ty k) (h21 : ty k = 21) (hB : B ≤ w.heap.size)
    (A : Option Addr) (N c : Nat) (f : Nat → Int) (hD : DT w A N c f) (hr : ∀ j, 0 ≤ f j ∧ f j ≤ 255) (m : Nat) (hmN : m + 1 ≤ N) (hN : N ≤ 100000) (hesc : ∀ j, j ≤ m → f j ≠ 92) (hlast : f m = 10)
    (cb nc cc : Nat) (al : Nat → Int) (hC : CT w cb nc cc al) (hnc : nc ≤ 1000) :
    Calls Tryz.prog 33 #[.pointer (some ⟨pb, 0, none⟩), .slice A (m + 1) c, .slice (some ⟨cb, 0, none⟩) nc cc, .bool true] w fun e w' =>
      e = .returned (.tuple #[]) ∧ But kindM B w w' := by
  have rb0 := (hD.rb hr).pre hmN
  obtain ⟨db, off, rfl, -, -⟩ := rb0.2.2.2 (by omega)
  have hcap := rb0.cap
  have HD := Lib.hid hD
  have HR := Lib.hid hr
  have HE := Lib.hid hesc
  have HC := Lib.hid hC
  have HL := Lib.hid hlast
  have HS := Lib.hid hS
  have HT21 := Lib.hid h21
  clear hD hr hesc hC hlast hS h21 rb0
  go_enter Tryz.func33, Tryz.ntmps33
  go_wp2_with fail
  refine (addBlock_any w B pb nb n L ty k k 23 none 0 0 HS.out hB (.inl ⟨rfl, .inr (.inl ⟨HT21.out, rfl⟩)⟩)).mono ?_
  rintro e w1 ⟨b1, nb1, L1, ty1, rfl, hb1n, hs1, t1, t2, t3, t4, hbut1⟩
  have HT1 : Hid (RowTip w1 B pb (n + 1)) := Lib.hid ⟨nb1, L1, ty1, n, n, hs1, .inl ⟨rfl, .inr (.inr ⟨t1, rfl⟩)⟩, t1, by omega⟩
  have HB1 := Lib.hid hbut1
  have hsz1 : B ≤ w1.heap.size := Nat.le_trans hB hbut1.size
  clear hs1 t1 t2 t3 t4 hbut1 hb1n
  have HRB : Hid (∀ W : World, But kindM B w W → RB W W.heap.size (some ⟨db, off, none⟩) (m + 1) c f) := Lib.hid fun W hW => ((HD.out.but hW).rb HR.out).pre hmN
  have HCC : Hid (∀ W : World, But kindM B w W → ∀ j, j < m + 1 → W.cell? ⟨db, off + j, none⟩ = some (.int .u8 (f j))) := Lib.hid fun W hW j hj => by
    obtain ⟨b', off', e, _, hc⟩ := (HRB.out W hW).2.2.2 (by omega)
    injection e with e; injection e with e1 e2; subst e1 e2
    exact hc j hj
  have d0 := HCC.out w1 HB1.out 0 (by omega)
  rw [Nat.add_zero] at d0
  go_upto_region 2 with fail
  go_cut [26] (fun tv wx => tv = .bool (decide (f 0 = 124)) ∧ w1 = wx)
  case first =>
    by_cases h124 : f 0 = 124
    · have e1 := (leb h124).2
      go_wp2_with fail
      refine (noEsc_any w1 w1.heap.size _ (m + 1) c f (HRB.out w1 HB1.out) (by omega) 0 (by omega) (fun j hj => by omega)).mono ?_
      rintro e w' ⟨rfl, rfl⟩
      go_wp2_with fail
      go_meet
      exact ⟨by simp [h124], rfl⟩
    · have e1 := (lnb h124).2
      go_wp2_with fail
      go_meet
      exact ⟨by simp [h124], rfl⟩
  case rest =>
    obtain ⟨rfl, rfl⟩ := hcut
    go_upto_if 26 with fail
    go_cut [8] (fun iv wx => ∃ i : Nat, i ≤ 1 ∧ iv = .int .i64 i ∧ w1 = wx)
    case first =>
      by_cases h124 : f 0 = 124
      · have e1 := decide_eq_true h124
        go_wp2_with fail
        go_meet
        exact ⟨1, by omega, by go_num, rfl⟩
      · have e1 := decide_eq_false h124
        go_wp2_with fail
        go_meet
        exact ⟨0, by omega, rfl, rfl⟩
    case rest =>
      obtain ⟨i0, hi0, rfl, rfl⟩ := hcut
      go_upto_block 0 with fail
      go_cut [9] (fun cv wx => ∃ col nN : Nat, col ≤ nc ∧ cv = .int .i64 col ∧ Hid (RowTip wx B pb nN) ∧ Hid (But kindM B w wx))
      case first =>
        go_wp2_with fail
        go_loopw [9, 8] (fun cv iv wr => ∃ col i nN : Nat, col ≤ nc ∧ i ≤ m + 2 ∧ cv = .int .i64 col ∧ iv = .int .i64 i ∧ Hid (RowTip wr B pb nN) ∧ Hid (But kindM B w wr)) (fun cv _ _ => nc - (intOf cv).toNat)
        case atStart => exact ⟨0, i0, n + 1, by omega, by omega, rfl, rfl, HT1, HB1⟩
        case round =>
          obtain ⟨col, i, nN, hcol, hi, rfl, rfl, HT, HB⟩ := hrel
          have hszr : B ≤ wr.heap.size := Nat.le_trans hB HB.out.size
          by_cases hcn : col < nc
          · by_cases him : i < m + 1
            · have hcn' : (col : Int) < nc := by omega
              have him' : (i : Int) < (m : Int) + 1 := by omega
              have hcc := HCC.out wr HB.out
              have HCW := Lib.hid hcc
              have HRW := Lib.hid (HRB.out wr HB.out)
              have hcl := (HC.out.but HB.out).at hcn
              clear hcc
              go_upto_block 2 with fail
              go_cut [8] (fun iv wx => ∃ i2 : Nat, i ≤ i2 ∧ i2 ≤ m ∧ iv = .int .i64 i2 ∧ wr = wx)
              case first =>
                go_wp2_with fail
                go_loop [8] (fun iv => ∃ i2 : Nat, i ≤ i2 ∧ i2 ≤ m ∧ iv = .int .i64 i2) (fun iv => m + 1 - (intOf iv).toNat)
                case atStart => exact ⟨i, by omega, by omega, rfl⟩
                case round =>
                  obtain ⟨i2, h1, h2, rfl⟩ := hrel
                  have cj := HCW.out i2 (by omega)
                  have hj' : (i2 : Int) < (m : Int) + 1 := by omega
                  by_cases h32 : f i2 = 32
                  · have e1 := (leb h32).2
                    have hne : i2 ≠ m := fun e => by subst e; rw [HL.out] at h32; omega
                    go_wp2
                    go_round
                    case rel => exact ⟨i2 + 1, by omega, by omega, by go_num⟩
                    case measure => simp [intOf]; omega
                  · have e1 := (lnb h32).2
                    go_wp2
                    go_meet
                    exact ⟨i2, h1, h2, rfl, rfl⟩
              case rest =>
                obtain ⟨i2, h1, h2, rfl, rfl⟩ := hcut
                go_upto_block 4 with fail
                go_cut [8] (fun iv wx => ∃ i3 : Nat, i2 ≤ i3 ∧ i3 ≤ m ∧ iv = .int .i64 i3 ∧ wr = wx)
                case first =>
                  go_wp2_with fail
                  go_loop [8] (fun iv => ∃ i3 : Nat, i2 ≤ i3 ∧ i3 ≤ m ∧ iv = .int .i64 i3) (fun iv => m + 1 - (intOf iv).toNat)
                  case atStart => exact ⟨i2, by omega, by omega, rfl⟩
                  case round =>
                    obtain ⟨i3, h3, h4, rfl⟩ := hrel
                    have cj := HCW.out i3 (by omega)
                    have hj' : (i3 : Int) < (m : Int) + 1 := by omega
                    by_cases h124 : f i3 = 124
                    · have e1 := (leb h124).1
                      go_wp2_with fail
                      refine (noEsc_any wr wr.heap.size _ (m + 1) c f HRW.out (by omega) i3 (by omega) (fun j hj => HE.out j (by omega))).mono ?_
                      rintro e w' ⟨rfl, rfl⟩
                      go_wp2
                      go_meet
                      exact ⟨i3, h3, h4, rfl, rfl⟩
                    · have e1 := (lnb h124).1
                      by_cases h10 : f i3 = 10
                      · have e2 := (leb h10).1
                        go_wp2
                        go_meet
                        exact ⟨i3, h3, h4, rfl, rfl⟩
                      · have e2 := (lnb h10).1
                        have hne : i3 ≠ m := fun e => by subst e; exact h10 HL.out
                        go_wp2
                        go_round
                        case rel => exact ⟨i3 + 1, by omega, by omega, by go_num⟩
                        case measure => simp [intOf]; omega
                case rest =>
                  obtain ⟨i3, h3, h4, rfl, rfl⟩ := hcut
                  go_upto_block 6 with fail
                  go_cut [11] (fun ev wx => ∃ ce : Nat, i2 ≤ ce ∧ ce ≤ i3 ∧ ev = .int .i64 ce ∧ wr = wx)
                  case first =>
                    go_wp2_with fail
                    go_loop [11] (fun ev => ∃ ce : Nat, i2 ≤ ce ∧ ce ≤ i3 ∧ ev = .int .i64 ce) (fun ev => (intOf ev).toNat)
                    case atStart => exact ⟨i3, by omega, by omega, rfl⟩
                    case round =>
                      obtain ⟨ce, h5, h6, rfl⟩ := hrel
                      by_cases hgt : i2 < ce
                      · obtain ⟨ce', rfl⟩ : ∃ x, ce = x + 1 := ⟨ce - 1, by omega⟩
                        have cj := HCW.out ce' (by omega)
                        have hj' : (ce' : Int) < (m : Int) + 1 := by omega
                        have hgt' : (i2 : Int) < (ce' : Int) + 1 := by omega
                        by_cases h32 : f ce' = 32
                        · have e1 := (leb h32).2
                          go_wp2
                          go_round
                          case rel => exact ⟨ce', by omega, by omega, by go_num⟩
                          case measure => simp [intOf]
                        · have e1 := (lnb h32).2
                          go_wp2
                          go_meet
                          exact ⟨ce' + 1, by omega, by omega, by go_num, rfl⟩
                      · have hng : ¬ (i2 : Int) < (ce : Int) := by omega
                        go_wp2
                        go_meet
                        exact ⟨ce, by omega, by omega, rfl, rfl⟩
                  case rest =>
                    obtain ⟨ce, h5, h6, rfl, rfl⟩ := hcut
                    obtain ⟨nbr, Lr, tyr, kr, qr, hsr, hgr, hqr, hqn⟩ := HT.out
                    have HSR := Lib.hid hsr
                    have HGR := Lib.hid hgr
                    have z1 : (i2 : Int) ≤ ce := by omega
                    have z2 : (ce : Int) ≤ c := by omega
                    have z3 : ¬ c = i2 := by omega
                    have z4 : (0 : Int) ≤ (i2 : Int) := by omega
                    clear hsr hgr
                    go_wp2_with fail
                    refine (addBlock_any wr B pb nbr nN Lr tyr kr qr 20 _ _ _ HSR.out hszr HGR.out).mono ?_
                    rintro e w2 hnew
                    obtain ⟨b2, hb2⟩ : ∃ b2, e = .returned (.pointer (some ⟨b2, 0, none⟩)) := by obtain ⟨b2, _, _, _, he, _⟩ := hnew; exact ⟨b2, he⟩
                    subst hb2
                    obtain ⟨⟨x25, c25⟩, f25, ⟨x26, c26⟩, f26, hrt, hbm, hbb⟩ := cell_marks hnew hqr (.bool true) (.int .i64 (al col))
                    have HRT := Lib.hid hrt
                    have HBB := Lib.hid (HB.out.trans hbb)
                    have hb3 : But kindM B w (w2.setCell ⟨b2, 25, none⟩ (.bool true)) := by
                      obtain ⟨_, _, _, _, _, _, _, _, _, _, _, h5⟩ := hnew
                      exact HB.out.trans (h5.trans hbm)
                    have hcl3 := (HC.out.but hb3).at hcn
                    clear hnew hrt hbm hbb hb3
                    go_wp2
                    go_roundw
                    case rel => exact ⟨col + 1, i3 + 1, nN + 1, by omega, by omega, by go_num, by go_num, HRT, HBB⟩
                    case measure => simp [intOf]; omega
            · have him' : ¬ (i : Int) < (m : Int) + 1 := by omega
              have hcn' : (col : Int) < nc := by omega
              go_wp2
              go_meet
              exact ⟨col, nN, by omega, rfl, HT, HB⟩
          · have hcn' : ¬ (col : Int) < nc := by omega
            go_wp2
            go_meet
            exact ⟨col, nN, by omega, rfl, HT, HB⟩
      case rest =>
        obtain ⟨col, nN, hcol, rfl, HT, HB⟩ := hcut
        go_wp2_with fail
        go_loopw [9] (fun cv wr => ∃ col nN : Nat, col ≤ nc ∧ cv = .int .i64 col ∧ Hid (RowTip wr B pb nN) ∧ Hid (But kindM B w wr)) (fun cv _ => nc - (intOf cv).toNat)
        case atStart => exact ⟨col, nN, hcol, rfl, HT, HB⟩
        case round =>
          obtain ⟨col, nN, hcol, rfl, HT, HB⟩ := hrel
          have hszr : B ≤ wr.heap.size := Nat.le_trans hB HB.out.size
          by_cases hcn : col < nc
          · have hcn' : (col : Int) < nc := by omega
            obtain ⟨nbr, Lr, tyr, kr, qr, hsr, hgr, hqr, hqn⟩ := HT.out
            have HSR := Lib.hid hsr
            have HGR := Lib.hid hgr
            clear hsr hgr
            go_wp2_with fail
            refine (addBlock_any wr B pb nbr nN Lr tyr kr qr 20 none 0 0 HSR.out hszr HGR.out).mono ?_
            rintro e w2 hnew
            obtain ⟨b2, hb2⟩ : ∃ b2, e = .returned (.pointer (some ⟨b2, 0, none⟩)) := by obtain ⟨b2, _, _, _, he, _⟩ := hnew; exact ⟨b2, he⟩
            subst hb2
            obtain ⟨⟨x25, c25⟩, f25, ⟨x26, c26⟩, f26, hrt, hbm, hbb⟩ := cell_marks hnew hqr (.bool true) (.int .i64 (al col))
            have HRT := Lib.hid hrt
            have HBB := Lib.hid (HB.out.trans hbb)
            have hb3 : But kindM B w (w2.setCell ⟨b2, 25, none⟩ (.bool true)) := by
              obtain ⟨_, _, _, _, _, _, _, _, _, _, _, h5⟩ := hnew
              exact HB.out.trans (h5.trans hbm)
            have hcl3 := (HC.out.but hb3).at hcn
            clear hnew hrt hbm hbb hb3
            go_wp2
            go_roundw
            case rel => exact ⟨col + 1, nN + 1, by omega, by go_num, HRT, HBB⟩
            case measure => simp [intOf]; omega
          · have hcn' : ¬ (col : Int) < nc := by omega
            go_wp2
            go_end0
            exact ⟨rfl, HB.out⟩
end Go.Proofs.YtaljhebalgipjaaGreatDoor
