/- Reference definitions: the statement's walk. -/
import Derived.Test.YtaljhebalgipjaaGreatDoorD11
namespace Go.Proofs.YtaljhebalgipjaaGreatDoor
open Go.RowKit
set_option linter.unusedVariables false

/-- The struct of the definition, in its block. -/
structure StAt (w : World) (b : Nat) (bl q : Int) (id path title : ByteArray) (nx : Bool) : Prop where
  c0 : w.cell? ⟨b, 0, none⟩ = some (.int .u8 bl)
  c1 : w.cell? ⟨b, 1, none⟩ = some (.string id)
  c2 : w.cell? ⟨b, 2, none⟩ = some (.string path)
  c3 : w.cell? ⟨b, 3, none⟩ = some (.string title)
  c4 : w.cell? ⟨b, 4, none⟩ = some (.int .u8 q)
  c5 : w.cell? ⟨b, 5, none⟩ = some (.bool nx)
theorem StAt.below {w w' : World} {B b : Nat} {bl q : Int} {id path title : ByteArray} {nx : Bool} (h : StAt w b bl q id path title nx) (hb : Below B w w') (hB : b < B) : StAt w' b bl q id path title nx :=
  ⟨(hb.cell (p := ⟨b, 0, none⟩) hB).trans h.c0, (hb.cell (p := ⟨b, 1, none⟩) hB).trans h.c1, (hb.cell (p := ⟨b, 2, none⟩) hB).trans h.c2, (hb.cell (p := ⟨b, 3, none⟩) hB).trans h.c3, (hb.cell (p := ⟨b, 4, none⟩) hB).trans h.c4, (hb.cell (p := ⟨b, 5, none⟩) hB).trans h.c5⟩
theorem copied_row {w w' : World} {A A' : Option Addr} {l : List UInt8} {c' : Nat} (h : Copied w w' A l.length (bt l) A' c') : BRow w' w.heap.size A' c' l := by
  have := h.1
  rw [range_bt, List.map_map] at this
  exact this
theorem BRow.kept {w w' : World} {B : Nat} {A : Option Addr} {c : Nat} {l : List UInt8} (h : BRow w B A c l) (hb : Below w.heap.size w w') : BRow w' B A c l :=
  World.ownsRow.kept h (row := none) ⟨hb.os, hb.tape, hb.output, hb.size, fun k hk _ => hb.block k hk⟩ (by cases A <;> simp [Value.ownBlock])
theorem BRow.app1 {w : World} {B : Nat} {A : Option Addr} {c : Nat} {l : List UInt8} (h : w.ownsRow B 5 1 (.slice A (l.length + 1) c) (l.length + 1) ((l.map fun b => Value.int .u8 (b.toNat : Int)) ++ [.int .u8 10])) : BRow w B A c (l ++ [10]) := by
  unfold BRow
  rw [List.length_append, List.map_append]
  exact h
theorem BRow.ints {w : World} {B : Nat} {A : Option Addr} {c : Nat} {l : List UInt8} (h : BRow w B A c l) : w.ownsRow B 5 1 (.slice A l.length c) l.length ((l.map fun b => (b.toNat : Int)).map (Value.int .u8)) := by
  rw [List.map_map]; exact h
theorem BRow.appB {w : World} {B : Nat} {A : Option Addr} {c : Nat} {l m : List UInt8} (h : w.ownsRow B 5 1 (.slice A (l.length + m.length) c) (l.length + m.length) (((l.map fun b => (b.toNat : Int)) ++ (List.range m.length).map (bt m)).map (Value.int .u8))) : BRow w B A c (l ++ m) := by
  unfold BRow
  rw [range_bt] at h
  rw [List.length_append, List.map_append]
  rw [List.map_append, List.map_map, List.map_map] at h
  exact h
theorem str_ex (s : ByteArray) : ∃ l, s = strL l := ⟨s.data.toList, (strL_list s).symm⟩

set_option maxHeartbeats 8000000 in
set_option maxRecDepth 100000 in
theorem lawDef (w : World) (x : Int) (bl q : Int) (id path title : List UInt8) (nx : Bool) (A : Option Addr) (n c : Nat) (g : Nat → ByteArray) (hR : RS w w.heap.size A n c g)
    (hbl0 : 0 ≤ bl) (hq0 : 0 ≤ q) (h1 : id.length ≤ 9223372036854775807) (h2 : path.length ≤ 9223372036854775807) (h3 : title.length ≤ 9223372036854775807) (hn : n ≤ 9223372036854775807) (hs : ∀ j, j < n → (g j).size ≤ 9223372036854775807) :
    Calls Tryz.prog 4 #[.int .i64 x, .agg #[.int .u8 bl, .string (strL id), .string (strL path), .string (strL title), .int .u8 q, .bool nx], .slice A n c] w fun e w' => e = .returned (.bool true) ∧ Below w.heap.size w w' := by
  obtain ⟨i0, hi, hz0, hz1, hz2⟩ := info_parts Tryz.infoB
  have HR := Lib.hid hR
  have HS := Lib.hid hs
  clear hR hs
  have hst : StAt (w.alloc (.cells #[.int .u8 bl, .string (strL id), .string (strL path), .string (strL title), .int .u8 q, .bool nx] 34)) w.heap.size bl q (strL id) (strL path) (strL title) nx := ⟨by simp [go_sem], by simp [go_sem], by simp [go_sem], by simp [go_sem], by simp [go_sem], by simp [go_sem]⟩
  have hb0 := (Below.refl w.heap.size w).alloc (Nat.le_refl _) (.cells #[.int .u8 bl, .string (strL id), .string (strL path), .string (strL title), .int .u8 q, .bool nx] 34)
  have hlt : w.heap.size < (w.alloc (.cells #[.int .u8 bl, .string (strL id), .string (strL path), .string (strL title), .int .u8 q, .bool nx] 34)).heap.size := by simp
  have HST := Lib.hid hst
  have HB := Lib.hid hb0
  go_enter Tryz.func4, Tryz.ntmps4
  go_wp2_with fail
  generalize w.alloc (.cells #[.int .u8 bl, .string (strL id), .string (strL path), .string (strL title), .int .u8 q, .bool nx] 34) = w0 at *
  clear hst hb0
  obtain ⟨c0, c1, c2, c3, c4, c5⟩ := HST.out
  refine (fits32_of w0 bl q (strL id) (strL path) (strL title) nx (by rw [strL_size]; exact h1) (by rw [strL_size]; exact h2) (by rw [strL_size]; exact h3)).mono ?_
  rintro e w1 ⟨⟨b1, rfl, hp1⟩, hb1⟩
  have HP1 := Lib.hid hp1
  have HST1 := Lib.hid (HST.out.below hb1 hlt)
  have HB1 := Lib.hid (HB.out.trans (hb1.mono (by omega)))
  have hlt1 : w.heap.size < w1.heap.size := Nat.lt_of_lt_of_le hlt hb1.size
  clear hp1 hb1 c0 c1 c2 c3 c4 c5 hlt
  obtain ⟨c0, c1, c2, c3, c4, c5⟩ := HST1.out
  cases b1 with
  | false =>
    go_wp2
    go_ret
    exact ⟨rfl, HB1.out⟩
  | true =>
    have hR1 := (HR.out.below HB1.out).more HB1.out.size
    go_wp2_with fail
    refine (fits5_of w1 _ A n c g hR1 hn HS.out).mono ?_
    rintro e w' ⟨⟨b2, rfl, hp2⟩, hww⟩; subst w'
    have HP2 := Lib.hid hp2
    have HR1 := Lib.hid hR1
    clear hp2 hR1
    cases b2 with
    | false =>
      go_wp2
      go_ret
      exact ⟨rfl, HB1.out⟩
    | true =>
      obtain ⟨s1, s2, s3⟩ := HP1.out (by trivial)
      obtain ⟨hn2, hgs⟩ := HP2.out (by trivial)
      rw [strL_size] at s1 s2 s3
      have HGS := Lib.hid hgs
      clear hgs HP1 HP2
      go_upto_region 3 with fail
      go_cut [39] (fun tv wx => ∃ T : Bool, tv = .bool T ∧ Hid (T = false → (0 ≤ x ∧ x ≤ 131070) ∧ DefP bl q (strL id) (strL path) (strL title) ∧ n ≤ 8 ∧ ∀ j, j < n → LineP (g j)) ∧ Hid (Below w.heap.size w wx) ∧ Hid (StAt wx w.heap.size bl q (strL id) (strL path) (strL title) nx) ∧ w.heap.size < wx.heap.size)
      case first =>
        as_aux_lemma =>
          go_wp2_with fail
          refine (isExt_of x w1).mono ?_
          rintro e w' ⟨⟨b3, rfl, hp3⟩, hww⟩; subst w'
          have HP3 := Lib.hid hp3
          clear hp3
          cases b3 with
          | false =>
            go_wp2_with fail
            go_meet
            exact ⟨true, rfl, Lib.hid (fun h => by cases h), HB1, HST1, hlt1⟩
          | true =>
            go_wp2_with fail
            refine (isDef_of w1 bl q (strL id) (strL path) (strL title) nx (by rw [strL_size]; exact s1) (by rw [strL_size]; exact s2) (by rw [strL_size]; exact s3)).mono ?_
            rintro e w2 ⟨⟨b4, rfl, hp4⟩, hb2⟩
            have HP4 := Lib.hid hp4
            have HST2 := Lib.hid (HST1.out.below hb2 hlt1)
            have HB2 := Lib.hid (HB1.out.trans (hb2.mono (by omega)))
            have hlt2 : w.heap.size < w2.heap.size := Nat.lt_of_lt_of_le hlt1 hb2.size
            have HR2 := Lib.hid ((HR1.out.below hb2).more hb2.size)
            clear hp4 hb2 c0 c1 c2 c3 c4 c5
            cases b4 with
            | false =>
              go_wp2_with fail
              go_meet
              exact ⟨true, rfl, Lib.hid (fun h => by cases h), HB2, HST2, hlt2⟩
            | true =>
              by_cases h0 : n = 0
              · have HF : Hid ((0 ≤ x ∧ x ≤ 131070) ∧ DefP bl q (strL id) (strL path) (strL title) ∧ n ≤ 8 ∧ ∀ j, j < n → LineP (g j)) := Lib.hid ⟨HP3.out (by trivial), HP4.out (by trivial), by omega, fun j hj => by omega⟩
                have h0' : ¬ 0 < n := by omega
                have h0i : ¬ (0 : Int) < n := by omega
                clear h0
                go_wp2_with fail
                go_meet
                exact ⟨false, rfl, Lib.hid (fun _ => HF.out), HB2, HST2, hlt2⟩
              · have h0' : 0 < n := by omega
                have h0i : (0 : Int) < n := by omega
                clear h0
                go_wp2_with fail
                refine (areLines_of w2 _ A n c g HR2.out hn2 HGS.out).mono ?_
                rintro e w' ⟨⟨b5, rfl, hp5⟩, hww⟩; subst w'
                have HP5 := Lib.hid hp5
                clear hp5
                cases b5 with
                | false =>
                  go_wp2_with fail
                  go_meet
                  exact ⟨true, rfl, Lib.hid (fun h => by cases h), HB2, HST2, hlt2⟩
                | true =>
                  have HF : Hid ((0 ≤ x ∧ x ≤ 131070) ∧ DefP bl q (strL id) (strL path) (strL title) ∧ n ≤ 8 ∧ ∀ j, j < n → LineP (g j)) := Lib.hid ⟨HP3.out (by trivial), HP4.out (by trivial), HP5.out (by trivial)⟩
                  go_wp2_with fail
                  go_meet
                  exact ⟨false, rfl, Lib.hid (fun _ => HF.out), HB2, HST2, hlt2⟩
      case rest =>
        clear c0 c1 c2 c3 c4 c5
        obtain ⟨T, rfl, HF, HB2, HST2, hlt2⟩ := hcut
        cases T with
        | true =>
          go_wp2
          go_ret
          exact ⟨rfl, HB2.out⟩
        | false =>
          obtain ⟨⟨hx0, hx1⟩, ⟨hb3, hid, hpa, htt, hq2⟩, hn8, hln⟩ := HF.out (by trivial)
          rw [list_strL] at hid hpa
          obtain ⟨hid1, hid2, hid3⟩ := idB_of hid
          obtain ⟨hpa1, hpa2, hpa3⟩ := idB_of hpa
          have htw : Words title ∧ title.length ≤ 60 := by
            rcases htt with h | ⟨h1, h2, h3⟩
            · rw [strL_size] at h
              have : title = [] := List.eq_nil_of_length_eq_zero h
              subst this
              exact ⟨fun x hx => (by cases hx), by simp⟩
            · rw [list_strL] at h1
              rw [strL_size] at h3
              exact ⟨h1, h3⟩
          obtain ⟨htw1, htw2⟩ := htw
          have hg60 : ∀ j, j < n → (g j).size ≤ 60 := fun j hj => (hln j hj).2.2
          have HG := Lib.hid hg60
          obtain ⟨blN, rfl⟩ : ∃ k : Nat, bl = k := ⟨bl.toNat, by omega⟩
          obtain ⟨qN, rfl⟩ : ∃ k : Nat, q = k := ⟨q.toNat, by omega⟩
          have HID := Lib.hid hid1; have HPA := Lib.hid hpa1; have HTW := Lib.hid htw1
          have HR2 := Lib.hid ((HR.out.below HB2.out).more HB2.out.size)
          clear HF hid hpa htt hln hid1 hpa1 htw1 hg60
          obtain ⟨c0, c1, c2, c3, c4, c5⟩ := HST2.out
          go_wp2_with fail
          refine (defText_all wc blN qN id path title nx (by omega) (by omega) hid3 hpa3 htw2).mono ?_
          rintro e w3 ⟨A3, cp3, rfl, hrb3, hb3'⟩
          have HRB3 := Lib.hid hrb3
          have HST3 := Lib.hid (HST2.out.below hb3' hlt2)
          have HB3 := Lib.hid (HB2.out.trans (hb3'.mono (by omega)))
          have hlt3 : w.heap.size < w3.heap.size := Nat.lt_of_lt_of_le hlt2 hb3'.size
          have HR3 := Lib.hid ((HR2.out.below hb3').more hb3'.size)
          clear hrb3 hb3' c0 c1 c2 c3 c4 c5
          have hdl : (defL blN id path title (openQ qN) (shutQ qN) nx).length ≤ 200 := by
            by_cases ht : title = []
            · subst ht; rw [len_defL0]; omega
            · rw [len_defL1 _ _ _ _ _ _ _ ht]; split <;> omega
          have hdl1 : 1 ≤ (defL blN id path title (openQ qN) (shutQ qN) nx).length := by
            by_cases ht : title = []
            · subst ht; rw [len_defL0]; omega
            · rw [len_defL1 _ _ _ _ _ _ _ ht]; split <;> omega
          obtain ⟨dL, hdL⟩ : ∃ l, l = defL blN id path title (openQ qN) (shutQ qN) nx := ⟨_, rfl⟩
          rw [← hdL] at hdl hdl1 HRB3 ⊢
          have HDL := Lib.hid hdL
          clear hdL
          go_wp2_with fail
          refine (clone_any A3 dL.length cp3 (bt dL) w3 HRB3.out (by omega)).mono ?_
          rintro e w4 ⟨A4, cp4, rfl, HC4, hb4⟩
          have hrow4 : w4.ownsRow w3.heap.size 5 1 (.slice A4 dL.length cp4) dL.length (dL.map fun b => Value.int .u8 (b.toNat : Int)) := copied_row HC4.out
          have hsz4 : w3.heap.size ≤ w4.heap.size := hb4.size
          go_wp2_with (at_builtin; refine wpList_app1 (.tmp 43) (.tmp 44) _ w3.heap.size 5 i0 (.int .u8 0) (.int .u8 10) 1 w4 _ _ _ _ hrow4 rfl rfl Tryz.underlying23 hi hz0 hz1 hz2 rfl rfl rfl rfl (by omega) (by omega) hsz4 ?_; intro A5 cp5 w5 hown5 hg5)
          have hb5 := below_app hb4 hrow4 (Nat.le_refl _) hsz4 hg5
          have HROW5 := Lib.hid (BRow.app1 hown5)
          have HB5 := Lib.hid hb5
          have hsz5 : w3.heap.size ≤ w5.heap.size := hb5.size
          have HR5 := Lib.hid ((HR3.out.below hb5).more hb5.size)
          have hTail : ∀ (A7 : Option Addr) (c7 : Nat) (w7 : World), BRow w7 w3.heap.size A7 c7 ((dL ++ [10]) ++ docL g n) → Calls Tryz.prog 16 #[.int .i64 x, .slice A7 (dL.length + 1 + (docL g n).length) c7] w7 fun e w' => AnsP e (dL.length - 1) id path title ∧ Below w7.heap.size w7 w' := fun A7 c7 w7 hr => by
            have hall : (dL ++ [10]) ++ docL g n = allL blN id path title (openQ qN) (shutQ qN) nx (docL g n) := by
              rw [HDL.out]; unfold allL; rw [List.append_assoc]
            have hlen : dL.length + 1 + (docL g n).length = (allL blN id path title (openQ qN) (shutQ qN) nx (docL g n)).length := by
              rw [← hall]; simp; omega
            have hrb := BRow.rb hr
            rw [hall] at hrb
            have hdoc := (docL_len g n HG.out).1
            rw [hlen, HDL.out]
            exact answer x A7 c7 blN qN id path title (docL g n) nx w7 hrb hx0 hx1 (by omega) HID.out hid2 hid3 HPA.out hpa3 HTW.out htw2 (by omega)
          have HTL := Lib.hid hTail
          have hdoc := (docL_len g n HG.out).1
          clear hTail hb4 hrow4 hown5 hg5 hb5
          refine (docText_any w5 A n c g HR5.out hn8 HG.out).mono ?_
          rintro e w6 ⟨A6, c6, rfl, h6, hb6⟩
          have HROW6 := Lib.hid (HROW5.out.kept hb6)
          have HB6 := Lib.hid (HB5.out.trans (hb6.mono hsz5))
          have hsz6 : w3.heap.size ≤ w6.heap.size := Nat.le_trans hsz5 hb6.size
          have H6 := Lib.hid h6
          clear h6 hb6
          have e47 : ByteArray.mk #[47] ++ strL path = strL (47 :: path) := strL_app [47] path
          have z47 : ¬ 9223372036854775807 < (ByteArray.mk #[47]).size + (strL path).size := by rw [strL_size]; simp [ByteArray.size]; omega
          have hzd : ((dL.length - 1 : Nat) : Int) = (dL.length : Int) - 1 := by omega
          cases A6 with
          | none =>
            have hz := nil_len H6.out.rb
            have hc6 : c6 = 0 := by
              rcases H6.out.2 with ⟨hv, _⟩ | ⟨gg, cap, cur, hv, _⟩
              · injection hv
              · injection hv with hv; cases hv
            subst hc6
            have hd0 : docL g n = [] := List.eq_nil_of_length_eq_zero hz
            have hc := HTL.out A5 cp5 w6 (by rw [hd0, List.append_nil]; exact HROW6.out)
            rw [hz, Nat.add_zero] at hc
            have HC := Lib.hid hc
            clear hc hd0
            have hrow6 : w6.ownsRow w3.heap.size 5 1 (.slice A5 (dL.length + 1) cp5) (dL.length + 1) ((dL ++ [10]).map fun b : UInt8 => Value.int .u8 (b.toNat : Int)) := by
              have := HROW6.out; unfold BRow at this; simpa using this
            have HROWx := Lib.hid hrow6
            clear hrow6
            rw [hz]
            go_wp2_with (at_builtin; refine wpList_append_own_none rfl (.tmp 48) (.tmp 50) 23 rfl w3.heap.size 5 i0 1 Tryz.underlying23 hi _ _ _ rfl HROWx.out rfl ?_)
            refine HC.out.mono ?_
            rintro e w8 ⟨he, hb8⟩
            unfold AnsP at he
            subst he
            have HST8 := Lib.hid ((HST3.out.below HB6.out hlt3).below hb8 (Nat.lt_of_lt_of_le hlt3 hsz6))
            have HB8 := Lib.hid ((HB3.out.trans (HB6.out.mono (by omega))).trans (hb8.mono (by omega)))
            clear hb8
            obtain ⟨c0, c1, c2, c3, c4, c5⟩ := HST8.out
            go_wp2
            go_ret
            exact ⟨rfl, HB8.out⟩
          | some ad =>
            have hrow6 : w6.ownsRow w3.heap.size 5 1 (.slice A5 (dL.length + 1) cp5) (dL.length + 1) (((dL ++ [10]).map fun b : UInt8 => (b.toNat : Int)).map (Value.int .u8)) := by
              have := HROW6.out.ints
              simpa using this
            have HROWx := Lib.hid hrow6
            clear hrow6
            have hrb6 := Lib.hid H6.out.rb
            go_wp2_with (at_builtin; refine wpList_appB (.tmp 48) (.tmp 50) 23 w3.heap.size 5 i0 (.int .u8 0) _ _ _ _ _ HROWx.out _ _ _ _ _ hrb6.out rfl rfl rfl Tryz.underlying23 hi hz0 hz1 hz2 rfl rfl rfl (by omega) hsz6 ?_; intro A7 c7 w7 hown7 hg7 hs7)
            have hb7 := below_app HB6.out HROWx.out (Nat.le_refl _) hsz6 hg7
            have HB7 := Lib.hid hb7
            have hsz7 : w3.heap.size ≤ w7.heap.size := hb7.size
            have hrow7 : BRow w7 w3.heap.size A7 c7 ((dL ++ [10]) ++ docL g n) := BRow.appB (by simpa using hown7)
            have HC := Lib.hid (HTL.out A7 c7 w7 hrow7)
            clear hb7 hrow7 hown7 hg7 hs7
            go_wp2_with fail
            refine HC.out.mono ?_
            rintro e w8 ⟨he, hb8⟩
            unfold AnsP at he
            subst he
            have HST8 := Lib.hid ((HST3.out.below HB7.out hlt3).below hb8 (Nat.lt_of_lt_of_le hlt3 hsz7))
            have HB8 := Lib.hid ((HB3.out.trans (HB7.out.mono (by omega))).trans (hb8.mono (by omega)))
            clear hb8
            obtain ⟨c0, c1, c2, c3, c4, c5⟩ := HST8.out
            go_wp2
            go_ret
            exact ⟨rfl, HB8.out⟩
end Go.Proofs.YtaljhebalgipjaaGreatDoor
