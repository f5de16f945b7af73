/- Tables: the statement's walk. -/
import Derived.Test.YtaljhebalgipjaaGreatDoorH13
import Derived.Test.YtaljhebalgipjaaGreatDoorH11
namespace Go.Proofs.YtaljhebalgipjaaGreatDoor
open Go.RowKit
set_option linter.unusedVariables false
theorem range_bt (l : List UInt8) : (List.range l.length).map (bt l) = l.map (fun b => (b.toNat : Int)) := by
  apply List.ext_getElem
  · simp
  · intro i h1 h2
    have hi : i < l.length := by simpa using h2
    simp [bt, hi]
theorem copied_row {w w' : World} {A A' : Option Addr} {l : List UInt8} {c' : Nat} (h : Copied w w' A l.length (bt l) A' c') : BRow w' w.heap.size A' c' l := by
  have := h.1
  rw [range_bt, List.map_map] at this
  exact this
theorem BRow.app1 {w : World} {B : Nat} {A : Option Addr} {c : Nat} {l : List UInt8} (h : w.ownsRow B 5 1 (.slice A (l.length + 1) c) (l.length + 1) ((l.map fun b => Value.int .u8 (b.toNat : Int)) ++ [.int .u8 10])) : BRow w B A c (l ++ [10]) := by
  unfold BRow
  rw [List.length_append, List.map_append]
  exact h
theorem BRow.ints {w : World} {B : Nat} {A : Option Addr} {c : Nat} {l : List UInt8} (h : BRow w B A c l) : w.ownsRow B 5 1 (.slice A l.length c) l.length ((l.map fun b => (b.toNat : Int)).map (Value.int .u8)) := by
  rw [List.map_map]; exact h
theorem BRow.appB {w : World} {B : Nat} {A : Option Addr} {c : Nat} {l m : List UInt8} (h : w.ownsRow B 5 1 (.slice A (l.length + m.length) c) (l.length + m.length) (((l.map fun b => (b.toNat : Int)) ++ (List.range m.length).map (bt m)).map (Value.int .u8))) : BRow w B A c (l ++ m) := by
  unfold BRow
  rw [range_bt] at h
  rw [List.length_append, List.map_append]
  rw [List.map_append, List.map_map, List.map_map] at h
  exact h
theorem rb_list {w : World} {B : Nat} {A : Option Addr} {n c : Nat} {f : Nat → Int} (h : RB w B A n c f) : ∃ l : List UInt8, l.length = n ∧ RB w B A l.length c (bt l) := by
  refine ⟨(List.range n).map fun j => UInt8.ofNat (f j).toNat, by simp, ?_⟩
  have hl : ((List.range n).map fun j => UInt8.ofNat (f j).toNat).length = n := by simp
  rw [hl]
  refine h.same (fun j hj => ?_) (fun j => ⟨bt_lo _ _, bt_hi _ _⟩)
  have hr := h.rng j
  unfold bt
  rw [List.getElem?_map, List.getElem?_range hj]
  simp
  omega
theorem tb_text {n1 : Nat} {g : Nat → ByteArray} {fa fh : Nat → Int} (hp : TabP n1 g n1 fa n1 fh) {al hy : Nat → Nat} (hal : ∀ j, fa j = al j) (hhy : ∀ j, fh j = hy j) (b e : Bool) (mL : List UInt8) :
    TB (bt ((headL (fun j => (g j).data.toList) al hy b e n1 ++ mL) ++ [10])) ((headL (fun j => (g j).data.toList) al hy b e n1 ++ mL) ++ [10]).length (Eof (fun j => (g j).data.toList) b e n1) b e n1 al hy (sof (fun j => (g j).data.toList) al hy b e n1) (Zof (fun j => (g j).data.toList) al hy b e n1) := by
  obtain ⟨⟨k1, k2, -, -⟩, hq⟩ := hp
  rw [List.append_assoc]
  refine tb_of _ al hy b e n1 (mL ++ [10]) ⟨k1, k2⟩ (fun j hj => ?_) (fun j hj => ?_) (fun j hj => ?_)
  · obtain ⟨h1, h2, h3⟩ := (hq j hj).1
    exact ⟨h1, by rw [str_len]; exact h2⟩
  · have := (hq j hj).2; rw [hal j, hhy j] at this; omega
  · have := (hq j hj).2; rw [hal j, hhy j] at this; omega
theorem head_len (g : Nat → List UInt8) (al hy : Nat → Nat) (b e : Bool) (nc : Nat) : (headL g al hy b e nc).length = Zof g al hy b e nc + 1 := by
  unfold headL Zof Eof
  simp only [List.length_append, List.length_cons, List.length_nil]
  omega
theorem head_le {n1 : Nat} {g : Nat → ByteArray} {fa fh : Nat → Int} (hp : TabP n1 g n1 fa n1 fh) {al hy : Nat → Nat} (hal : ∀ j, fa j = al j) (hhy : ∀ j, fh j = hy j) (b e : Bool) : (headL (fun j => (g j).data.toList) al hy b e n1).length ≤ 800 := by
  obtain ⟨⟨k1, k2, -, -⟩, hq⟩ := hp
  have h1 := joinL_lens (fun j => (g j).data.toList) n1 (fun j hj => by have := (hq j hj).1.2.2; rw [str_len]; exact this)
  have h2 := colsL_len al hy e n1 n1 (fun j hj => by have := (hq j hj).2; rw [hal j, hhy j] at this; omega)
  unfold headL overL belowL
  have hb := pre_len b
  have he := pre_len e
  have hb1 : b.toNat ≤ 1 := by cases b <;> decide
  have he1 : e.toNat ≤ 1 := by cases e <;> decide
  simp only [List.length_append, List.length_cons, List.length_nil]
  omega
/-- The head, in its block. -/
structure TAt (w : World) (k : Nat) (An : Option Addr) (n1 c1 : Nat) (Aa : Option Addr) (n2 c2 : Nat) (Ah : Option Addr) (n3 c3 : Nat) (b e : Bool) : Prop where
  c0 : w.cell? ⟨k, 0, none⟩ = some (.slice An n1 c1)
  c1 : w.cell? ⟨k, 1, none⟩ = some (.slice Aa n2 c2)
  c2 : w.cell? ⟨k, 2, none⟩ = some (.slice Ah n3 c3)
  c3 : w.cell? ⟨k, 3, none⟩ = some (.bool b)
  c4 : w.cell? ⟨k, 4, none⟩ = some (.bool e)
theorem TAt.below {w w' : World} {B k : Nat} {An : Option Addr} {n1 c1 : Nat} {Aa : Option Addr} {n2 c2 : Nat} {Ah : Option Addr} {n3 c3 : Nat} {b e : Bool} (h : TAt w k An n1 c1 Aa n2 c2 Ah n3 c3 b e) (hb : Below B w w') (hB : k < B) : TAt w' k An n1 c1 Aa n2 c2 Ah n3 c3 b e :=
  ⟨(hb.cell (p := ⟨k, 0, none⟩) hB).trans h.c0, (hb.cell (p := ⟨k, 1, none⟩) hB).trans h.c1, (hb.cell (p := ⟨k, 2, none⟩) hB).trans h.c2, (hb.cell (p := ⟨k, 3, none⟩) hB).trans h.c3, (hb.cell (p := ⟨k, 4, none⟩) hB).trans h.c4⟩
set_option maxHeartbeats 8000000 in
set_option maxRecDepth 100000 in
theorem lawTable (w : World) (An : Option Addr) (n1 c1 : Nat) (g : Nat → ByteArray) (Aa : Option Addr) (n2 c2 : Nat) (fa : Nat → Int) (Ah : Option Addr) (n3 c3 : Nat) (fh : Nat → Int) (b e : Bool) (h : TL w An n1 c1 g Aa n2 c2 fa Ah n3 c3 fh)
    (Am : Option Addr) (nm cm : Nat) (fm : Nat → Int) (hm : RB w w.heap.size Am nm cm fm) (hnc : Am = none → cm = 0) :
    Calls Tryz.prog 3 #[.agg #[.slice An n1 c1, .slice Aa n2 c2, .slice Ah n3 c3, .bool b, .bool e], .slice Am nm cm] w fun r w' => r = .returned (.bool true) ∧ Below w.heap.size w w' := by
  obtain ⟨i0, hi, hz0, hz1, hz2⟩ := info_parts Tryz.infoB
  obtain ⟨mL, hml, hmB⟩ := rb_list hm
  subst hml
  obtain ⟨w0, hw0⟩ : ∃ w0, w0 = w.alloc (.cells #[.slice An n1 c1, .slice Aa n2 c2, .slice Ah n3 c3, .bool b, .bool e] 25) := ⟨_, rfl⟩
  have HST : Hid (TAt w0 w.heap.size An n1 c1 Aa n2 c2 Ah n3 c3 b e) := Lib.hid (by rw [hw0]; exact ⟨by simp [go_sem], by simp [go_sem], by simp [go_sem], by simp [go_sem], by simp [go_sem]⟩)
  have HB : Hid (Below w.heap.size w w0) := Lib.hid (by rw [hw0]; exact (Below.refl w.heap.size w).alloc (Nat.le_refl _) _)
  have hlt : w.heap.size < w0.heap.size := by rw [hw0]; simp
  have HL := Lib.hid h
  have HM := Lib.hid hmB
  have HNC := Lib.hid hnc
  have hmc := hm.cap
  have hmm := hm.2.1
  clear h hm hmB hnc
  go_enter Tryz.func3, Tryz.ntmps3
  go_upto_region 1 with fail
  rw [← hw0]
  clear hw0
  obtain ⟨x0, x1, x2, x3, x4⟩ := HST.out
  go_wp2_with fail
  refine (fits31_of w0 An n1 c1 g Aa n2 c2 fa Ah n3 c3 fh b e (HL.out.below HB.out)).mono ?_
  rintro r w1 ⟨⟨b1, rfl, hp1⟩, hb1⟩
  have HP1 := Lib.hid hp1
  have HST1 := Lib.hid (HST.out.below hb1 hlt)
  have HB1 := Lib.hid (below_trans2 HB.out hb1 (by omega))
  have hlt1 : w.heap.size < w1.heap.size := Nat.lt_of_lt_of_le hlt hb1.size
  clear hp1 hb1 x0 x1 x2 x3 x4 hlt HB HST
  obtain ⟨x0, x1, x2, x3, x4⟩ := HST1.out
  cases b1 with
  | false =>
    go_wp2
    go_ret
    exact ⟨rfl, HB1.out⟩
  | true =>
    by_cases hm1 : 2147483647 < mL.length
    · go_wp2
      go_ret
      exact ⟨rfl, HB1.out⟩
    have hL1 := HL.out.below HB1.out
    obtain ⟨hn1, hgs⟩ := HP1.out (by trivial)
    have HGS := Lib.hid hgs
    clear HP1 hgs
    go_wp2_with fail
    refine (isTable_of w1 An n1 c1 g Aa n2 c2 fa Ah n3 c3 fh b e hL1 HGS.out).mono ?_
    rintro r w2 ⟨⟨b2, rfl, hp2⟩, hb2⟩
    have HP2 := Lib.hid hp2
    have HST2 := Lib.hid (HST1.out.below hb2 hlt1)
    have HB2 := Lib.hid (below_trans2 HB1.out hb2 (by omega))
    have hlt2 : w.heap.size < w2.heap.size := Nat.lt_of_lt_of_le hlt1 hb2.size
    clear hp2 hb2 x0 x1 x2 x3 x4 hlt1 HB1 HST1 hL1
    obtain ⟨x0, x1, x2, x3, x4⟩ := HST2.out
    cases b2 with
    | false =>
      go_wp2
      go_ret
      exact ⟨rfl, HB2.out⟩
    | true =>
      by_cases hm2 : 200 < mL.length
      · go_wp2
        go_ret
        exact ⟨rfl, HB2.out⟩
      have hp := HP2.out (by trivial)
      obtain ⟨⟨k1, k2, q1, q2⟩, -⟩ := hp
      have q1 := q1.symm
      have q2 := q2.symm
      subst q1 q2
      have HTP := Lib.hid (HP2.out (by trivial))
      obtain ⟨al, hal⟩ : ∃ al : Nat → Nat, ∀ j, fa j = al j := ⟨fun j => (fa j).toNat, fun j => by have := HL.out.als.rng j; show fa j = ((fa j).toNat : Int); omega⟩
      obtain ⟨hy, hhy⟩ : ∃ hy : Nat → Nat, ∀ j, fh j = hy j := ⟨fun j => (fh j).toNat, fun j => by have := HL.out.hys.rng j; show fh j = ((fh j).toNat : Int); omega⟩
      have HAL := Lib.hid hal
      have HHY := Lib.hid hhy
      clear hal hhy
      have hL2 := HL.out.below HB2.out
      go_wp2_with fail
      refine (headText_any w2 An n1 c1 g Aa c2 fa Ah c3 fh b e hL2 HTP.out al hy HAL.out HHY.out).mono ?_
      rintro r w3 ⟨A3, cp3, rfl, hrow3, hb3⟩
      have HST3 := Lib.hid (HST2.out.below hb3 hlt2)
      have HB3 := Lib.hid (below_trans2 HB2.out hb3 (by omega))
      have hlt3 : w.heap.size < w3.heap.size := Nat.lt_of_lt_of_le hlt2 hb3.size
      have HROW3 := Lib.hid hrow3
      have hdl := head_le HTP.out HAL.out HHY.out b e
      have hdl2 := Lib.hid <| head_len (fun j => (g j).data.toList) al hy b e n1
      have HTB := Lib.hid (tb_text HTP.out HAL.out HHY.out b e mL)
      obtain ⟨E, hE⟩ : ∃ E, E = Eof (fun j => (g j).data.toList) b e n1 := ⟨_, rfl⟩
      obtain ⟨Z, hZ⟩ : ∃ Z, Z = Zof (fun j => (g j).data.toList) al hy b e n1 := ⟨_, rfl⟩
      obtain ⟨so, hso⟩ : ∃ so, so = sof (fun j => (g j).data.toList) al hy b e n1 := ⟨_, rfl⟩
      obtain ⟨dL, hdL⟩ : ∃ l, l = headL (fun j => (g j).data.toList) al hy b e n1 := ⟨_, rfl⟩
      rw [← hE, ← hZ, ← hso, ← hdL] at HTB
      rw [← hdL, ← hZ] at hdl2
      rw [← hdL] at hdl HROW3 ⊢
      clear hE hZ hso hdL hrow3 hb3 x0 x1 x2 x3 x4 hlt2 HB2 HST2 hL2
      obtain ⟨x0, x1, x2, x3, x4⟩ := HST3.out
      go_upto_region 6 with fail
      go_cut [6, 7] (fun zv cv wx => zv = .int .i64 (dL.length : Int) ∧ ∃ (B' : Nat) (A' : Option Addr) (c' : Nat), cv = .slice A' n1 c' ∧ Hid (wx.ownsRow B' 2 1 (.slice A' n1 c') n1 ((List.range n1).map fun j => .int .i64 (al j))) ∧ Hid (Below w.heap.size w wx) ∧ Hid (TAt wx w.heap.size An n1 c1 Aa n1 c2 Ah n1 c3 b e))
      case first =>
        go_wp2_with fail
        refine (clone_any A3 dL.length cp3 (bt dL) w3 (BRow.rb HROW3.out) (by omega)).mono ?_
        rintro r w4 ⟨A4, cp4, rfl, HC4, hb4⟩
        have HROW4 : Hid (BRow w4 w3.heap.size A4 cp4 dL) := Lib.hid (copied_row HC4.out)
        have HB4 := Lib.hid (below_trans2 HB3.out hb4 (by omega))
        have HST4 := Lib.hid (HST3.out.below hb4 hlt3)
        have hsz4 : w3.heap.size ≤ w4.heap.size := hb4.size
        clear HC4
        have HTail : Hid (∀ (A5 : Option Addr) (cp5 : Nat) (w5 : World), BRow w5 w3.heap.size A5 cp5 (dL ++ mL ++ [10]) → Calls Tryz.prog 8 #[.slice A5 (dL.length + mL.length + 1) cp5] w5 fun r w' =>
            ∃ A' c', r = .returned (.tuple #[.int .i64 (dL.length : Int), .slice A' n1 c']) ∧ w'.ownsRow w5.heap.size 2 1 (.slice A' n1 c') n1 ((List.range n1).map fun j => .int .i64 (al j)) ∧ Below w5.heap.size w5 w') := Lib.hid fun A5 cp5 w5 hr => by
          have hl : dL.length + mL.length + 1 = (dL ++ mL ++ [10]).length := by simp only [List.length_append, List.length_cons, List.length_nil]
          rw [hl, hdl2.out]
          exact tableHead_any w5 A5 _ cp5 _ (BRow.rb hr) (by rw [← hl]; omega) E b e n1 al hy so Z HTB.out
        clear HTB hdl2
        have HM4 := Lib.hid ((HM.out.below HB4.out).more HB4.out.size)
        have HINTS := Lib.hid (BRow.ints HROW4.out)
        have H5 : Hid (∀ (A5 : Option Addr) (cp5 : Nat) (w5 : World), BRow w5 w3.heap.size A5 cp5 (dL ++ mL ++ [10]) → Below w3.heap.size w3 w5 → True) := Lib.hid fun _ _ _ _ _ => trivial
        cases Am with
        | none =>
          have hz := nil_len HM4.out
          have hm0 : mL = [] := List.eq_nil_of_length_eq_zero hz
          subst hm0
          have hcm : cm = 0 := by
            have := HNC.out rfl; omega
          subst hcm
          have HROW4' : Hid (w4.ownsRow w3.heap.size 5 1 (.slice A4 dL.length cp4) dL.length (dL.map fun b => Value.int .u8 (b.toNat : Int))) := HROW4
          go_wp2_with (first
            | (at_builtin; refine wpList_append_own_none rfl (.tmp 30) (.tmp 31) 23 rfl w3.heap.size 5 i0 1 Tryz.underlying23 hi _ _ _ rfl HROW4'.out rfl ?_)
            | (at_builtin; refine wpList_app1 (.tmp 32) (.tmp 33) _ w3.heap.size 5 i0 (.int .u8 0) (.int .u8 10) 1 w4 _ _ _ _ HROW4'.out rfl rfl Tryz.underlying23 hi hz0 hz1 hz2 rfl rfl rfl rfl (by omega) (by omega) hsz4 ?_; intro A6 c6 w6 hown6 hg6))
          have hb6 := below_app hb4 HROW4'.out (Nat.le_refl _) hsz4 hg6
          have hrow6 : BRow w6 w3.heap.size A6 c6 (dL ++ [] ++ [10]) := by rw [List.append_nil]; exact BRow.app1 hown6
          have HB6 := Lib.hid (below_trans2 HB3.out hb6 (by omega))
          have HC := Lib.hid (HTail.out A6 c6 w6 hrow6)
          have hsz6 : w.heap.size ≤ w6.heap.size := HB6.out.size
          have hlt6 : w.heap.size < w6.heap.size := Nat.lt_of_lt_of_le hlt3 hb6.size
          have HST6 := Lib.hid (HST3.out.below hb6 hlt3)
          clear hb4 hown6 hg6 hrow6 hb6
          refine HC.out.mono ?_
          rintro r w7 ⟨A', c', rfl, hown7, hb7⟩
          have HO7 := Lib.hid hown7
          have HB7 := Lib.hid (below_trans2 HB6.out hb7 (by omega))
          have HST7 := Lib.hid (HST6.out.below hb7 hlt6)
          clear hown7 hb7
          go_wp2
          go_meet
          exact ⟨rfl, _, A', c', rfl, HO7, HB7, HST7⟩
        | some ad =>
          go_wp2_with (first
            | (at_builtin; refine wpList_appB (.tmp 30) (.tmp 31) 23 w3.heap.size 5 i0 (.int .u8 0) _ _ _ _ _ HINTS.out _ _ _ _ _ HM4.out rfl rfl rfl Tryz.underlying23 hi hz0 hz1 hz2 rfl rfl rfl (by omega) hsz4 ?_; intro A5 c5 w5 hown5 hg5 hs5; have hb5 := below_app hb4 HINTS.out (Nat.le_refl _) hsz4 hg5; have hsz5 : w3.heap.size ≤ w5.heap.size := hb5.size)
            | (at_builtin; refine wpList_app1 (.tmp 32) (.tmp 33) _ w3.heap.size 5 i0 (.int .u8 0) (.int .u8 10) 1 w5 _ _ _ _ hown5 rfl rfl Tryz.underlying23 hi hz0 hz1 hz2 rfl rfl rfl rfl (by omega) (by omega) hsz5 ?_; intro A6 c6 w6 hown6 hg6))
          have hb6 := below_app hb5 hown5 (Nat.le_refl _) hsz5 hg6
          have hrow6 : BRow w6 w3.heap.size A6 c6 (dL ++ mL ++ [10]) := BRow.app1 (by rw [List.length_append]; rw [range_bt, ← List.map_append, List.map_map] at hown6; exact hown6)
          have HB6 := Lib.hid (below_trans2 HB3.out hb6 (by omega))
          have HC := Lib.hid (HTail.out A6 c6 w6 hrow6)
          have hsz6 : w.heap.size ≤ w6.heap.size := HB6.out.size
          have hlt6 : w.heap.size < w6.heap.size := Nat.lt_of_lt_of_le hlt3 hb6.size
          have HST6 := Lib.hid (HST3.out.below hb6 hlt3)
          clear hb4 hb5 hown5 hg5 hs5 hown6 hg6 hrow6 hb6
          refine HC.out.mono ?_
          rintro r w7 ⟨A', c', rfl, hown7, hb7⟩
          have HO7 := Lib.hid hown7
          have HB7 := Lib.hid (below_trans2 HB6.out hb7 (by omega))
          have HST7 := Lib.hid (HST6.out.below hb7 hlt6)
          clear hown7 hb7
          go_wp2
          go_meet
          exact ⟨rfl, _, A', c', rfl, HO7, HB7, HST7⟩
      case rest =>
        obtain ⟨rfl, B', A', c', rfl, HO, HBx, HTx⟩ := hcut
        rename World => wx
        clear x0 x1 x2 x3 x4
        obtain ⟨x0, x1, x2, x3, x4⟩ := HTx.out
        obtain ⟨rb, hA, hrc⟩ : ∃ rb, A' = some ⟨rb, 0, none⟩ ∧ n1 ≤ c' := by
          rcases HO.out.2 with ⟨_, h0⟩ | ⟨g, cap, cur, hv, hb, hg, hnc, _⟩
          · omega
          · injection hv with hv1 hv2 hv3
            exact ⟨g, hv1, by omega⟩
        subst hA
        have HCell : Hid (∀ j, j < n1 → wx.cell? ⟨rb, j, none⟩ = some (.int .i64 (al j))) := Lib.hid fun j hj => by
          have := World.ownsRow.cells HO.out (g := rb) rfl j (.int .i64 (al j)) (by simp [hj])
          rw [add_lit, Nat.zero_add] at this; exact this
        have hLx := HL.out.below HBx.out
        obtain ⟨ba, oa, rfl, hBa, hca⟩ := hLx.als.2.2.2 (by omega)
        have HCA := Lib.hid hca
        have hac := hLx.als.cap
        clear hca hLx HM HROW3 HTB HTP HP2
        go_upto_region 10 with fail
        have HBa := Lib.hid hBa
        clear x0 x1 x2 x3 x4 hBa
        go_loop [53, 4] (fun iv rv => ∃ i : Nat, i ≤ n1 ∧ iv = .int .i64 i ∧ rv = .bool false) (fun iv _ => n1 - (intOf iv).toNat)
        case atStart => exact ⟨0, by omega, rfl, rfl⟩
        case round =>
          obtain ⟨i, hi, rfl, rfl⟩ := hrel
          by_cases hin : i < n1
          · have ca := HCA.out i hin
            have cr := HCell.out i hin
            rw [HAL.out i] at ca
            have hin' : (i : Int) < n1 := by omega
            have hr0 : al i ≤ 255 := by
              have := HL.out.als.rng i
              have := HAL.out i
              omega
            have hw := w64 (al i : Int) (by omega) (by omega)
            generalize al i = x at *
            go_wp2
            go_round
            case rel => exact ⟨i + 1, by omega, by go_num, rfl⟩
            case measure => simp [intOf]; omega
          · obtain rfl : i = n1 := by omega
            go_wp2
            go_ret
            exact ⟨rfl, HBx.out⟩
end Go.Proofs.YtaljhebalgipjaaGreatDoor
