/- Tables: the walk of a head. -/
import Derived.Test.YtaljhebalgipjaaGreatDoorH5
import Derived.Test.YtaljhebalgipjaaGreatDoorH6
namespace Go.Proofs.YtaljhebalgipjaaGreatDoor
open Go.RowKit
set_option linter.unusedVariables false

def kindA (e : TypeId) : Prop := e = 51
theorem CR.made {w w' : World} {B n : Nat} {xs : List Value} (hn : 0 < n) (h : w'.ownsRow w.heap.size 51 1 (.slice (some ⟨w.heap.size, 0, none⟩) n n) n xs) (hx : xs = (List.range n).map fun _ => .int .i64 0) (hg : w.grownBy w' none) (hB : B ≤ w.heap.size) :
    CR w' B w.heap.size n (fun _ => 0) ∧ But kindA B w w' := by
  subst hx
  refine ⟨?_, But.grown hg (fun k hk => by cases hk)⟩
  exact ⟨h.1, h.2.imp id (fun ⟨g, cap, cur, hv, hb, rest⟩ => ⟨g, cap, cur, hv, Nat.le_trans hB hb, rest⟩)⟩
/-- Behind column k the place q: a bar, or the line's end. -/
def Stop (f : Nat → Int) (nc Z : Nat) (s : Nat → Nat) (k q : Nat) : Prop := (f q = 124 ∧ at_ s nc Z (k + 1) = q + 1) ∨ (k + 1 = nc ∧ f q = 10 ∧ Z = q)
def colsAt (al : Nat → Nat) (k v : Nat) : Nat → Int := fun j => if j < k then (al j : Int) else if j = k then (v : Int) else 0
theorem colsAt_0 (al : Nat → Nat) : colsAt al 0 0 = fun _ => 0 := by
  funext j; unfold colsAt; split <;> (try split) <;> omega
theorem colsAt_next (al : Nat → Nat) (k : Nat) : colsAt al k (al k) = colsAt al (k + 1) 0 := by
  funext j; unfold colsAt
  by_cases h1 : j < k
  · rw [if_pos h1, if_pos (by omega)]
  · by_cases h2 : j = k
    · subst h2; rw [if_neg h1, if_pos rfl, if_pos (by omega)]
    · rw [if_neg h1, if_neg h2, if_neg (by omega)]; split <;> rfl
theorem colsAt_set (al : Nat → Nat) (k v u : Nat) : (fun q => if q = k then (u : Int) else colsAt al k v q) = colsAt al k u := by
  funext j; unfold colsAt
  by_cases h2 : j = k
  · subst h2; simp
  · simp [h2]
theorem colsAt_same (al : Nat → Nat) (k v : Nat) : colsAt al k v k = v := by unfold colsAt; simp
theorem colsAt_end (al : Nat → Nat) (k v j : Nat) (h : j < k) : colsAt al k v j = al j := by unfold colsAt; simp [h]
theorem TB.le0 {f : Nat → Int} {N E : Nat} {b e : Bool} {nc : Nat} {al hy s : Nat → Nat} {Z : Nat} (h : TB f N E b e nc al hy s Z) : E + 1 + b.toNat ≤ Z := by
  have := h.le 0 (by have := h.nc2; omega)
  unfold rEnd at this
  rw [h.s0] at this
  omega
/-- One column of the second line. -/
structure Col (f : Nat → Int) (nc Z : Nat) (s al : Nat → Nat) (k p a1 d a2 : Nat) : Prop where
  start : s k = p
  als : al k = a1 + 2 * a2
  a1le : a1 ≤ 1
  a2le : a2 ≤ 1
  d1 : 1 ≤ d
  d3 : 3 ≤ a1 + d + a2
  le : p + a1 + d + a2 ≤ Z
  c1 : a1 = 1 → f p = 58
  c0 : a1 = 0 → f p = 45
  dash : ∀ j, j < d → f (p + a1 + j) = 45
  c2 : a2 = 1 → f (p + a1 + d) = 58
  stop : (f (p + a1 + d + a2) = 32 ∧ Stop f nc Z s k (p + a1 + d + a2 + 1) ∧ p + a1 + d + a2 + 1 ≤ Z) ∨ (Stop f nc Z s k (p + a1 + d + a2))
theorem TB.col {f : Nat → Int} {N E : Nat} {b e : Bool} {nc : Nat} {al hy s : Nat → Nat} {Z : Nat} (h : TB f N E b e nc al hy s Z) (k : Nat) (hk : k < nc) : ∃ p a1 d a2, Col f nc Z s al k p a1 d a2 := by
  have h3 := h.al3 k hk
  have hl := h.le k hk
  have hh := h.hy1 k hk
  have hat := h.atIn (k + 1) (by omega)
  refine ⟨s k, al k % 2, hy k, al k / 2, ⟨rfl, by omega, by omega, by omega, hh.1, by omega, hl, h.colon1 k hk, fun h0 => ?_, fun j hj => h.dash k j hk hj, fun h1 => h.colon2 k hk (by omega), ?_⟩⟩
  · have := h.dash k 0 hk hh.1
    rw [h0] at this; exact this
  · rcases h.bars2 k hk with ⟨g, g1, g2⟩ | ⟨h1, g, h2⟩
    · have g1' : f (s k + al k % 2 + hy k + al k / 2 + 1) = 124 := g1
      exact .inl ⟨g, .inl ⟨g1, g2⟩, by have : at_ s nc Z (k + 1) = s k + al k % 2 + hy k + al k / 2 + 2 := g2; omega⟩
    · exact .inr (.inr ⟨h1, g, h2⟩)
theorem Stop.ne {f : Nat → Int} {nc Z : Nat} {s : Nat → Nat} {k q : Nat} (h : Stop f nc Z s k q) : f q = 124 ∨ f q = 10 := h.imp (·.1) (·.2.1)
set_option maxRecDepth 100000 in
set_option maxHeartbeats 16000000 in
theorem tableHeader_any (w : World) (B pb : Nat) (nb : Nat → Nat) (n : Nat) (L : Lk) (ty : Nat → Int) (k0 : Nat) (hS : SP w B pb nb n L ty k0) (h0 : ty k0 = 0) (hB : B ≤ w.heap.size)
    (A : Option Addr) (N c : Nat) (f : Nat → Int) (hD : DT w A N c f) (hr : ∀ j, 0 ≤ f j ∧ f j ≤ 255) (hN : N ≤ 100000) (E : Nat) (b e : Bool) (nc : Nat) (al hy s : Nat → Nat) (Z : Nat) (hT : TB f N E b e nc al hy s Z) :
    Calls Tryz.prog 26 #[.pointer (some ⟨pb, 0, none⟩), .slice A N c] w fun r w' =>
      ∃ cb, r = .returned (.tuple #[.int .i64 ((Z + 1 : Nat) : Int), .slice (some ⟨cb, 0, none⟩) nc nc]) ∧ CR w' B cb nc (fun j => al j) ∧ But kindC B w w' := by
  have rb0 := hD.rb hr
  have hZN := hT.ZN
  have hE3 := hT.E3
  have hEZ := hT.le0
  have hnc := hT.nc2
  obtain ⟨db, off, rfl, -, -⟩ := rb0.2.2.2 (by omega)
  have hcap := rb0.cap
  obtain ⟨i0, hi, hz0, hz1, hz2⟩ := info_parts Tryz.infoC
  have HD := Lib.hid hD
  have HR := Lib.hid hr
  have HT := Lib.hid hT
  have HS := Lib.hid hS
  have HT0 := Lib.hid h0
  clear hD hr hT hS h0 rb0
  have HRB : Hid (∀ W : World, But kindA B w W → RB W W.heap.size (some ⟨db, off, none⟩) N c f) := Lib.hid fun W hW => (HD.out.butC (hW.mono (fun e he => .inr he) (Nat.le_refl _))).rb HR.out
  have HCC : Hid (∀ W : World, But kindA B w W → ∀ j, j < N → W.cell? ⟨db, off + j, none⟩ = some (.int .u8 (f j))) := Lib.hid fun W hW j hj => by
    obtain ⟨b', off', e, _, hc⟩ := (HRB.out W hW).2.2.2 (by omega)
    injection e with e; injection e with e1 e2; subst e1 e2
    exact hc j hj
  have HB0 := Lib.hid (But.refl kindA B w)
  go_enter Tryz.func26, Tryz.ntmps26
  go_upto_block 0 with fail
  go_cut [6, 7] (fun iv cv wx => iv = .int .i64 (E : Int) ∧ cv = .int .i64 ((1 + bars f E : Nat) : Int) ∧ w = wx)
  case first =>
    as_aux_lemma =>
     go_wp2_with fail
     go_loop [6, 7] (fun iv cv => ∃ i : Nat, i ≤ E ∧ iv = .int .i64 (i : Int) ∧ cv = .int .i64 ((1 + bars f i : Nat) : Int)) (fun iv _ => E - (intOf iv).toNat)
     case atStart => exact ⟨0, by omega, rfl, rfl⟩
     case round =>
       obtain ⟨i, hi1, rfl, rfl⟩ := hrel
       have ci := HCC.out w HB0.out i (by omega)
       have hin : (i : Int) < N := by omega
       have hbl := bars_le f i
       rcases Nat.lt_or_ge i E with hlt | hge
       · have e1 := (lnb (HT.out.line1 i hlt)).1
         by_cases h124 : f i = 124
         · have e2 := (leb h124).2
           have eb : bars f (i + 1) = bars f i + 1 := by rw [bars, if_pos h124]
           go_wp2_with fail
           refine (noEsc_any w w.heap.size _ N c f (HRB.out w HB0.out) (by omega) i (by omega) (fun j hj => HT.out.esc j (by omega))).mono ?_
           rintro r w' ⟨rfl, rfl⟩
           go_wp2
           go_round
           case rel => exact ⟨i + 1, by omega, by go_num, by rw [eb]; go_num⟩
           case measure => simp [intOf]; omega
         · have e2 := (lnb h124).2
           have eb : bars f (i + 1) = bars f i := by rw [bars, if_neg h124]; rfl
           go_wp2
           go_round
           case rel => exact ⟨i + 1, by omega, by go_num, by rw [eb]⟩
           case measure => simp [intOf]; omega
       · obtain rfl : i = E := by omega
         have e1 := (leb HT.out.nl1).1
         go_wp2
         go_meet
         exact ⟨rfl, rfl, rfl⟩
  case rest =>
    obtain ⟨rfl, rfl, rfl⟩ := hcut
    have hbar := HT.out.bar
    have cE := HCC.out w HB0.out E (by omega)
    have eE := (leb HT.out.nl1).2
    have hEN : (E : Int) < N := by omega
    have c0 := HCC.out w HB0.out 0 (by omega)
    rw [Nat.add_zero] at c0
    have hne1 : ¬ (1 + bars f E = 1) := by omega
    have hne2 : ¬ ((bars f E : Int) = 0) := by omega
    go_upto_if 60 with fail
    go_cut [7] (fun cv wx => cv = .int .i64 ((nc + e.toNat : Nat) : Int) ∧ w = wx)
    case first =>
      as_aux_lemma =>
       have key : bars f E = nc + b.toNat + e.toNat - 1 := by omega
       have he1 : e.toNat ≤ 1 := by cases e <;> decide
       cases b with
       | true =>
         have e1 := (leb (HT.out.fst.2 rfl)).2
         go_wp2_with fail
         go_meet
         exact ⟨by simp only [Bool.toNat_true] at hbar; go_num, rfl⟩
       | false =>
         have e1 := (lnb (fun h => by have := HT.out.fst.1 h; simp at this : f 0 ≠ 124)).2
         go_wp2_with fail
         go_meet
         exact ⟨by simp only [Bool.toNat_false] at hbar; go_num, rfl⟩
    case rest =>
      obtain ⟨rfl, rfl⟩ := hcut
      obtain ⟨E', rfl⟩ : ∃ x, E = x + 1 := ⟨E - 1, by omega⟩
      have cE' := HCC.out w HB0.out E' (by omega)
      have h2 : (2 : Int) < (E' : Int) + 1 := by omega
      go_upto_region 15 with fail
      go_cut [79] (fun tv wx => tv = .bool e ∧ w = wx)
      case first =>
        as_aux_lemma =>
         cases e with
         | true =>
           have e1 := (leb ((HT.out.lst E' rfl).2 rfl)).2
           go_wp2_with fail
           refine (noEsc_any w w.heap.size _ N c f (HRB.out w HB0.out) (by omega) E' (by omega) (fun j hj => HT.out.esc j (by omega))).mono ?_
           rintro r w' ⟨rfl, rfl⟩
           go_wp2
           go_meet
           exact ⟨rfl, rfl⟩
         | false =>
           have e1 := (lnb (fun h => by have := (HT.out.lst E' rfl).1 h; simp at this : f E' ≠ 124)).2
           go_wp2
           go_meet
           exact ⟨rfl, rfl⟩
      case rest =>
        obtain ⟨rfl, rfl⟩ := hcut
        go_upto_if 79 with fail
        go_cut [7] (fun cv wx => cv = .int .i64 (nc : Int) ∧ w = wx)
        case first =>
          as_aux_lemma =>
           cases e with
           | true =>
             go_wp2
             go_meet
             exact ⟨by go_num, rfl⟩
           | false =>
             go_wp2
             go_meet
             exact ⟨by go_num, rfl⟩
        case rest =>
          obtain ⟨rfl, rfl⟩ := hcut
          have hge : ¬ ((N : Int) ≤ (E' : Int) + 1 + 1) := by omega
          have hle : (E' : Int) + 1 + 1 ≤ c := by omega
          go_upto_region 20 with (at_make; refine wpList_make_full _ rfl _ _ 46 rfl w.heap.size 51 i0 (.int .i64 0) 1 Tryz.underlying46 hi hz0 hz1 _ _ _ _ nc rfl rfl rfl rfl (by rw [hz2]; omega) (by unfold maxLen; omega) (Nat.le_refl _) ?_; intro w0 hown0 hg0)
          have hmade := CR.made (by omega) hown0 (by simp [madeCells, Value.cells, Nat.mod_one]) hg0 hB
          have HCR0 : Hid (CR w0 B w.heap.size nc (colsAt al 0 0)) := Lib.hid (by rw [colsAt_0]; exact hmade.1)
          have HB1 := Lib.hid hmade.2
          have cE1 := HCC.out w0 HB1.out (E' + 1 + 1) (by omega)
          clear hmade hown0 hg0
          go_cut [100] (fun tv wx => tv = .bool b ∧ w0 = wx)
          case first =>
            as_aux_lemma =>
             cases b with
             | true =>
               have e1 := (leb (HT.out.beg rfl)).2
               go_wp2_with fail
               refine (noEsc_any w0 w0.heap.size _ N c f (HRB.out w0 HB1.out) (by omega) (E' + 1 + 1) (by omega) (fun j hj => HT.out.esc j (by omega))).mono ?_
               rintro r w' ⟨rfl, rfl⟩
               go_wp2
               go_meet
               exact ⟨rfl, rfl⟩
             | false =>
               have h1 : f (E' + 1 + 1) = 58 ∨ f (E' + 1 + 1) = 45 := by
                 have h1 := HT.out.first 0 (by omega)
                 have h2 := HT.out.s0
                 simp only [Bool.toNat_false, Nat.add_zero] at h2
                 rwa [h2] at h1
               have e1 := (lnb (show f (E' + 1 + 1) ≠ 124 by omega)).2
               go_wp2
               go_meet
               exact ⟨rfl, rfl⟩
          case rest =>
            as_aux_lemma =>
             obtain ⟨rfl, rfl⟩ := hcut
             go_upto_if 100 with fail
             go_cut [6] (fun iv wx => iv = .int .i64 ((s 0 : Nat) : Int) ∧ w0 = wx)
             case first =>
               as_aux_lemma =>
                have hs0 := HT.out.s0
                cases b with
                | true =>
                  go_wp2
                  go_meet
                  exact ⟨by rw [hs0]; go_num, rfl⟩
                | false =>
                  go_wp2
                  go_meet
                  exact ⟨by rw [hs0]; go_num, rfl⟩
             case rest =>
               obtain ⟨rfl, rfl⟩ := hcut
               have hs0Z : s 0 ≤ Z := by rw [HT.out.s0]; omega
               have hf0 := HT.out.first 0 (by omega)
               have hat0 : at_ s nc Z 0 = s 0 := by unfold at_; rw [if_pos (by omega)]
               go_wp2_with fail
               refine (skip_here w0 w0.heap.size _ N c f (HRB.out w0 HB1.out) (by omega) (s 0) (by omega) (by omega)).mono ?_
               rintro r w' ⟨rfl, rfl⟩
               go_upto_block 2 with fail
               go_cut [6, 10] (fun iv cv wx => iv = .int .i64 ((Z : Nat) : Int) ∧ cv = .int .i64 (nc : Int) ∧ Hid (CR wx B w.heap.size nc (fun j => al j)) ∧ Hid (But kindA B w wx))
               case first =>
                 go_wp2_with fail
                 go_loopw [6, 10] (fun iv cv wr => ∃ k : Nat, k ≤ nc ∧ iv = .int .i64 ((at_ s nc Z k : Nat) : Int) ∧ cv = .int .i64 (k : Int) ∧ Hid (CR wr B w.heap.size nc (colsAt al k 0)) ∧ Hid (But kindA B w wr)) (fun _ cv _ => nc - (intOf cv).toNat)
                 case atStart => exact ⟨0, by omega, by rw [hat0], rfl, HCR0, HB1⟩
                 case round =>
                   obtain ⟨k, hk, rfl, rfl, HCR, HB⟩ := hrel
                   rcases Nat.lt_or_ge k nc with hkn | hkn
                   · have hat : at_ s nc Z k = s k := by unfold at_; rw [if_pos hkn]
                     rw [hat]
                     obtain ⟨p, a1, d, a2, hcol⟩ := HT.out.col k hkn
                     rw [hcol.start]
                     have HCol := Lib.hid hcol
                     have hle2 := hcol.le
                     have hd3' := hcol.d3
                     have hf1 : f p = 58 ∨ f p = 45 := by rcases (show a1 = 1 ∨ a1 = 0 by have := hcol.a1le; omega) with h | h; exact .inl (hcol.c1 h); exact .inr (hcol.c0 h)
                     clear hcol
                     have cs := HCC.out wr HB.out p (by omega)
                     have hsN : (p : Int) < N := by omega
                     have e1 := (lnb (show f p ≠ 10 by omega)).1
                     obtain ⟨o1, o2, o3⟩ := bits_or
                     go_upto_if 121 with fail
                     go_cut [6, 11] (fun iv dv wx => iv = .int .i64 ((p + a1 : Nat) : Int) ∧ dv = .int .i64 (a1 : Int) ∧ Hid (CR wx B w.heap.size nc (colsAt al k a1)) ∧ Hid (But kindA B w wx))
                     case first =>
                       as_aux_lemma =>
                        have hC := HCol.out
                        have ha1 := hC.a1le
                        rcases (show a1 = 1 ∨ a1 = 0 by omega) with rfl | rfl
                        · have e2 := (leb (hC.c1 rfl)).2
                          have hst := HCR.out.set k 1
                          have hc1 := (HCR.out.at hkn)
                          rw [colsAt_same] at hc1
                          obtain ⟨hc1, hc2⟩ := hc1
                          have hcr : CR (wr.setCell ⟨w.heap.size, k, none⟩ (.int .i64 1)) B w.heap.size nc (colsAt al k 1) := by
                            rw [← colsAt_set al k 0 1]; exact hst.1
                          have HCR2 := Lib.hid hcr
                          have HB2 := Lib.hid (HB.out.trans hst.2)
                          clear hst hcr hC
                          go_wp2
                          go_meet
                          exact ⟨by go_num, by go_num, HCR2, HB2⟩
                        · have e2 := (lnb (show f p ≠ 58 by have := hC.c0 rfl; omega)).2
                          clear hC
                          go_wp2
                          go_meet
                          exact ⟨by go_num, by go_num, HCR, HB⟩
                     case rest =>
                       as_aux_lemma =>
                        clear HCR HB cs
                        obtain ⟨rfl, rfl, HCR, HB⟩ := hcut
                        rename World => wp
                        go_upto_block 4 with fail
                        go_cut [6, 11] (fun iv dv wx => iv = .int .i64 ((p + a1 + d : Nat) : Int) ∧ dv = .int .i64 ((a1 + d : Nat) : Int) ∧ wp = wx)
                        case first =>
                          as_aux_lemma =>
                           go_wp2_with fail
                           go_loop [6, 11] (fun iv dv => ∃ j : Nat, j ≤ d ∧ iv = .int .i64 ((p + a1 + j : Nat) : Int) ∧ dv = .int .i64 ((a1 + j : Nat) : Int)) (fun _ dv => a1 + d - (intOf dv).toNat)
                           case atStart => exact ⟨0, by omega, rfl, rfl⟩
                           case round =>
                             obtain ⟨j, hj, rfl, rfl⟩ := hrel
                             have hjN : (p : Int) + a1 + j < N := by omega
                             have ci := HCC.out wp HB.out (p + a1 + j) (by omega)
                             rcases Nat.lt_or_ge j d with hlt | hge
                             · have e1 := (leb (HCol.out.dash j hlt)).2
                               go_wp2
                               go_round
                               case rel => exact ⟨j + 1, by omega, by go_num, by go_num⟩
                               case measure => simp [intOf]; omega
                             · obtain rfl : j = d := by omega
                               have e1 := (lnb (show f (p + a1 + j) ≠ 45 by
                                 have hC := HCol.out
                                 have h2 := hC.a2le
                                 rcases (show a2 = 1 ∨ a2 = 0 by omega) with h2 | h2
                                 · have := hC.c2 h2; omega
                                 · have := hC.stop
                                   rw [h2] at this
                                   rcases this with ⟨g, _⟩ | g
                                   · rw [Nat.add_zero] at g; omega
                                   · have := g.ne; rw [Nat.add_zero] at this; omega)).2
                               go_wp2
                               go_meet
                               exact ⟨by go_num, by go_num, rfl⟩
                        case rest =>
                          obtain ⟨rfl, rfl, rfl⟩ := hcut
                          have ci := HCC.out wp HB.out (p + a1 + d) (by omega)
                          have hjN : (p : Int) + a1 + d < N := by omega
                          go_upto_region 33 with fail
                          go_cut [157] (fun tv wx => tv = .bool (decide (a2 = 1)) ∧ wp = wx)
                          case first =>
                            as_aux_lemma =>
                             have ha2 := HCol.out.a2le
                             rcases (show a2 = 1 ∨ a2 = 0 by omega) with rfl | rfl
                             · have e1 := (leb (HCol.out.c2 rfl)).2
                               go_wp2
                               go_meet
                               exact ⟨rfl, rfl⟩
                             · have e1 := (lnb (show f (p + a1 + d) ≠ 58 by
                                 rcases HCol.out.stop with ⟨g, _⟩ | g
                                 · rw [Nat.add_zero] at g; omega
                                 · have := g.ne; rw [Nat.add_zero] at this; omega)).2
                               go_wp2
                               go_meet
                               exact ⟨rfl, rfl⟩
                          case rest =>
                           obtain ⟨rfl, rfl⟩ := hcut
                           go_upto_if 157 with fail
                           go_cut [6, 11] (fun iv dv wx => iv = .int .i64 ((p + a1 + d + a2 : Nat) : Int) ∧ dv = .int .i64 ((a1 + d + a2 : Nat) : Int) ∧ Hid (CR wx B w.heap.size nc (colsAt al k (al k))) ∧ Hid (But kindA B w wx))
                           case first =>
                            as_aux_lemma =>
                             have ha2 := HCol.out.a2le
                             have ha1 := HCol.out.a1le
                             have hal := HCol.out.als
                             rcases (show a2 = 0 ∨ (a2 = 1 ∧ a1 = 0) ∨ (a2 = 1 ∧ a1 = 1) by omega) with rfl | ⟨rfl, rfl⟩ | ⟨rfl, rfl⟩
                             · have HCR2 : Hid (CR wp B w.heap.size nc (colsAt al k (al k))) := Lib.hid (by rw [hal]; exact HCR.out)
                               go_wp2
                               go_meet
                               exact ⟨by go_num, by go_num, HCR2, HB⟩
                             · have hst := HCR.out.set k 2
                               obtain ⟨hc1, hc2⟩ := (HCR.out.at hkn)
                               rw [colsAt_same] at hc1
                               have hcr : CR (wp.setCell ⟨w.heap.size, k, none⟩ (.int .i64 2)) B w.heap.size nc (colsAt al k (al k)) := by
                                 rw [hal, ← colsAt_set al k 0 2]; exact hst.1
                               have HCR2 := Lib.hid hcr
                               have HB2 := Lib.hid (HB.out.trans hst.2)
                               clear hst hcr
                               go_wp2
                               go_meet
                               exact ⟨by go_num, by go_num, HCR2, HB2⟩
                             · have hst := HCR.out.set k 3
                               obtain ⟨hc1, hc2⟩ := (HCR.out.at hkn)
                               rw [colsAt_same] at hc1
                               have hcr : CR (wp.setCell ⟨w.heap.size, k, none⟩ (.int .i64 3)) B w.heap.size nc (colsAt al k (al k)) := by
                                 rw [hal, ← colsAt_set al k 1 3]; exact hst.1
                               have HCR2 := Lib.hid hcr
                               have HB2 := Lib.hid (HB.out.trans hst.2)
                               clear hst hcr
                               go_wp2
                               go_meet
                               exact ⟨by go_num, by go_num, HCR2, HB2⟩
                           case rest =>
                            as_aux_lemma =>
                             clear HCR HB ci
                             obtain ⟨rfl, rfl, HCR, HB⟩ := hcut
                             rename World => wq
                             go_upto_block 6 with fail
                             go_cut [6] (fun iv wx => ∃ q : Nat, Hid (Stop f nc Z s k q) ∧ q ≤ Z ∧ iv = .int .i64 (q : Int) ∧ wq = wx)
                             case first =>
                               as_aux_lemma =>
                                go_wp2_with fail
                                go_loop [6] (fun iv => ∃ j : Nat, (j = p + a1 + d + a2 ∨ Stop f nc Z s k j) ∧ j ≤ Z ∧ iv = .int .i64 (j : Int)) (fun iv => Z + 1 - (intOf iv).toNat)
                                case atStart => exact ⟨p + a1 + d + a2, .inl rfl, hle2, by go_num⟩
                                case round =>
                                  obtain ⟨j, hj, hjZ, rfl⟩ := hrel
                                  have hjN : (j : Int) < N := by omega
                                  have ci := HCC.out wq HB.out j (by omega)
                                  by_cases h32 : f j = 32
                                  · have e1 := (leb h32).2
                                    have hst : Stop f nc Z s k (j + 1) ∧ j + 1 ≤ Z := by
                                      rcases hj with rfl | hj
                                      · rcases HCol.out.stop with ⟨_, g, g2⟩ | g
                                        · exact ⟨g, g2⟩
                                        · have := g.ne; omega
                                      · have := hj.ne; omega
                                    have HST := Lib.hid hst
                                    clear hst hj
                                    go_wp2
                                    go_round
                                    case rel => exact ⟨j + 1, .inr HST.out.1, HST.out.2, by go_num⟩
                                    case measure => simp [intOf]; omega
                                  · have e1 := (lnb h32).2
                                    have hst : Stop f nc Z s k j := by
                                      rcases hj with rfl | hj
                                      · rcases HCol.out.stop with ⟨g, _⟩ | g
                                        · exact absurd g h32
                                        · exact g
                                      · exact hj
                                    have HST := Lib.hid hst
                                    clear hst hj
                                    go_wp2
                                    go_meet
                                    exact ⟨j, HST, hjZ, rfl, rfl⟩
                             case rest =>
                               obtain ⟨q, HST, hqZ, rfl, rfl⟩ := hcut
                               have hd3 : ¬ ((a1 : Int) + d + a2 < 3) := by omega
                               have hqn : ¬ ((q : Int) = (N : Int)) := by omega
                               have cq := HCC.out wq HB.out q (by omega)
                               have HCR3 : Hid (CR wq B w.heap.size nc (colsAt al (k + 1) 0)) := Lib.hid (by rw [← colsAt_next]; exact HCR.out)
                               go_upto_region 41 with fail
                               go_cut [188] (fun tv wx => tv = .bool (decide (f q = 124)) ∧ wq = wx)
                               case first =>
                                 as_aux_lemma =>
                                  by_cases h124 : f q = 124
                                  · have e1 := (leb h124).2
                                    go_wp2_with fail
                                    refine (noEsc_any wq wq.heap.size _ N c f (HRB.out wq HB.out) (by omega) q (by omega) (fun j hj => HT.out.esc j (by omega))).mono ?_
                                    rintro r w' ⟨rfl, rfl⟩
                                    go_wp2
                                    go_meet
                                    exact ⟨by simp [h124], rfl⟩
                                  · have e1 := (lnb h124).2
                                    go_wp2
                                    go_meet
                                    exact ⟨by simp [h124], rfl⟩
                               case rest =>
                                 as_aux_lemma =>
                                  obtain ⟨rfl, rfl⟩ := hcut
                                  rcases HST.out with ⟨h124, hat⟩ | ⟨hk1, h10, hZq⟩
                                  · as_aux_lemma =>
                                      have e1 := decide_eq_true h124
                                      have hq1 : q + 1 ≤ Z := by rw [← hat]; exact HT.out.atIn (k + 1) (by omega)
                                      have ci := HCC.out wq HB.out (q + 1) (by omega)
                                      have hqN : ((q + 1 : Nat) : Int) < N := by omega
                                      have hne : f (q + 1) ≠ 32 := by
                                        rw [← hat]; unfold at_
                                        split
                                        · rename_i hh
                                          have := HT.out.first (k + 1) hh
                                          omega
                                        · have := HT.out.nl2; omega
                                      have e2 := (lnb hne).2
                                      go_upto_block 9 with fail
                                      go_cut [6, 11, 188] (fun iv dv tv wx => iv = .int .i64 ((q + 1 : Nat) : Int) ∧ wq = wx)
                                      case first =>
                                        go_wp2_with fail
                                        go_loop [6] (fun iv => iv = .int .i64 ((q + 1 : Nat) : Int)) (fun _ => 0)
                                        case atStart => rfl
                                        case round =>
                                          obtain rfl := hrel
                                          go_wp2
                                          go_meet
                                          exact ⟨by go_num, rfl⟩
                                      case rest =>
                                        obtain ⟨rfl, rfl⟩ := hcut
                                        rcases Nat.lt_or_ge (k + 1) nc with hlt | hge
                                        · have hlt' : ¬ ((nc : Int) ≤ (k : Int) + 1) := by omega
                                          go_wp2
                                          go_roundw
                                          case rel => exact ⟨k + 1, by omega, by rw [hat] <;> go_num, by go_num, HCR3, HB⟩
                                          case measure => simp [intOf]; omega
                                        · have hge' : (nc : Int) ≤ (k : Int) + 1 := by omega
                                          have hz : at_ s nc Z (k + 1) = Z := by unfold at_; rw [if_neg (by omega)]
                                          have e3 := (leb (show f (q + 1) = 10 by rw [← hat, hz]; exact HT.out.nl2)).1
                                          go_wp2
                                          go_roundw
                                          case rel => exact ⟨k + 1, by omega, by rw [hat] <;> go_num, by go_num, HCR3, HB⟩
                                          case measure => simp [intOf]; omega
                                  · as_aux_lemma =>
                                      have e1 := decide_eq_false (show ¬ f q = 124 by omega)
                                      have e2 := (lnb (show f q ≠ 124 by omega)).1
                                      have e3 := (leb h10).2
                                      have hz : at_ s nc Z (k + 1) = q := by unfold at_; rw [if_neg (by omega), hZq]
                                      have hlt' : ¬ ((k : Int) + 1 < nc) := by omega
                                      go_wp2
                                      go_roundw
                                      case rel => exact ⟨k + 1, by omega, by rw [hz], by go_num, HCR3, HB⟩
                                      case measure => simp [intOf]; omega
                   · obtain rfl : k = nc := by omega
                     have hat : at_ s k Z k = Z := by unfold at_; rw [if_neg (by omega)]
                     rw [hat]
                     have cs := HCC.out wr HB.out Z (by omega)
                     have hsN : ((Z : Nat) : Int) < N := by omega
                     have e1 := (leb HT.out.nl2).1
                     have HCR3 : Hid (CR wr B w.heap.size k (fun j => al j)) := Lib.hid (HCR.out.same fun j hj => colsAt_end al k 0 j hj)
                     go_wp2
                     go_meet
                     exact ⟨rfl, rfl, HCR3, HB⟩
               case rest =>
                 as_aux_lemma =>
                  clear HCR0 HB1 cE1
                  obtain ⟨rfl, rfl, HCR, HB⟩ := hcut
                  rename World => w1
                  have hB1 : B ≤ w1.heap.size := Nat.le_trans hB HB.out.size
                  go_wp2_with fail
                  refine (addBlock_any w1 B pb nb n L ty k0 k0 21 none 0 0 (HS.out.but HB.out (by unfold kindA kindM; intro e he; subst he; decide)) hB1 (.inl ⟨rfl, .inl ⟨HT0.out, rfl⟩⟩)).mono ?_
                  rintro r w2 ⟨b1, nb1, L1, ty1, rfl, hb1n, hs1, t1, t2, t3, t4, hbut1⟩
                  have hB2 : B ≤ w2.heap.size := Nat.le_trans hB1 hbut1.size
                  have hbC2 : But kindC B w w2 := (HB.out.mono (fun e he => .inr he) (Nat.le_refl _)).trans (hbut1.mono (fun e he => .inl he) (Nat.le_refl _))
                  have HS1 := Lib.hid hs1
                  have HT1 := Lib.hid t1
                  have HU := Lib.hid hbut1
                  have HC2 := Lib.hid hbC2
                  clear hs1 t1 t2 t3 t4 hbut1 hbC2 hb1n
                  go_wp2_with fail
                  refine (tableRow_any w2 B pb nb1 (n + 1) L1 ty1 n HS1.out HT1.out hB2 (some ⟨db, off, none⟩) N c f (HD.out.butC HC2.out) HR.out (E' + 1) (by omega) hN (fun j hj => HT.out.esc j (by omega)) HT.out.nl1 w.heap.size nc nc (fun j => al j) ⟨B, row_kept HCR.out HU.out (by unfold kindM; decide)⟩ (by omega)).mono ?_
                  rintro r w3 ⟨rfl, hbut3⟩
                  have hbC3 : But kindC B w w3 := HC2.out.trans (hbut3.mono (fun e he => .inl he) (Nat.le_refl _))
                  have cz : w3.cell? ⟨db, off + Z, none⟩ = some (.int .u8 (f Z)) := by
                    obtain ⟨b', off', e, _, hc⟩ := (((HD.out.butC hbC3).rb HR.out)).2.2.2 (by omega)
                    injection e with e; injection e with e1 e2; subst e1 e2
                    exact hc Z hZN
                  have hZ' : (Z : Int) < N := by omega
                  have ez := (leb HT.out.nl2).2
                  have HR3 : Hid (CR w3 B w.heap.size nc (fun j => al j)) := Lib.hid (row_kept HCR.out (HU.out.trans hbut3) (by unfold kindM; decide))
                  have HC3 := Lib.hid hbC3
                  clear hbut3 hbC3 HC2
                  go_wp2
                  go_ret2
                  exact ⟨_, by go_num, HR3.out, HC3.out⟩
end Go.Proofs.YtaljhebalgipjaaGreatDoor
