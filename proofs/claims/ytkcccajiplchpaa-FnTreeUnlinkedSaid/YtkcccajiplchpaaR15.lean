/- Forests: the law of steps. -/
import Derived.Test.YtkcccajiplchpaaR14
namespace Go.Proofs.Ytkcccajiplchpaa
open Go.RowKit
set_option linter.unusedVariables false

theorem Try.infoSLs : (Try.prog.info? 34).map (fun i => (i.zero, i.size, i.bytes)) = some (some (.slice none 0 0), 1, 24) := by kernel_rfl
/-- A row of neighbours as the reference makes it. -/
def SRow (w : World) (B : Nat) (v : Value) (n : Nat) (L : Lk) : Prop := ∃ A c, v = .slice A n c ∧ w.ownsRow B 46 5 (.slice A n c) n (flat L n)
theorem SS.below {w w' : World} {B : Nat} {A : Option Addr} {n c : Nat} {o a b : Nat → Int} (h : SS w B A n c o a b) (hb : Below B w w') : SS w' B A n c o a b :=
  ⟨h.1, fun h0 => by
    obtain ⟨blk, off, e, hB, hc⟩ := h.2 h0
    refine ⟨blk, off, e, hB, fun j hj => ?_⟩
    obtain ⟨h1, h2, h3⟩ := hc j hj
    exact ⟨(hb.cell (p := ⟨blk, off + j * 3, none⟩) hB).trans h1, (hb.cell (p := ⟨blk, off + j * 3 + 1, none⟩) hB).trans h2, (hb.cell (p := ⟨blk, off + j * 3 + 2, none⟩) hB).trans h3⟩⟩
theorem SS.more {w : World} {B B' : Nat} {A : Option Addr} {n c : Nat} {o a b : Nat → Int} (h : SS w B A n c o a b) (hB : B ≤ B') : SS w B' A n c o a b :=
  ⟨h.1, fun h0 => by obtain ⟨blk, off, e, hB', hc⟩ := h.2 h0; exact ⟨blk, off, e, by omega, hc⟩⟩
/-- The forest behind the first i steps. -/
def FI (w : World) (B fb i : Nat) (o a b : Nat → Int) : Prop :=
  ∃ U D, Inv (st o a b i).1 i U D (st o a b i).2 ∧ ∃ AU cU AD cD DA Dc, FR w B fb (st o a b i).1 U D AU cU AD cD DA Dc
theorem FI.but {T : TypeId → Prop} {C : Nat} {w w' : World} {B fb i : Nat} {o a b : Nat → Int} (h : FI w B fb i o a b) (hb : But T C w w') (hT : ∀ e, T e → ¬ kindF e) : FI w' B fb i o a b := by
  obtain ⟨U, D, h1, AU, cU, AD, cD, DA, Dc, h2⟩ := h
  exact ⟨U, D, h1, AU, cU, AD, cD, DA, Dc, h2.but hb hT⟩
theorem FI.below {w w' : World} {B fb i : Nat} {o a b : Nat → Int} (h : FI w B fb i o a b) (hb : Below w.heap.size w w') : FI w' B fb i o a b := by
  obtain ⟨U, D, h1, AU, cU, AD, cD, DA, Dc, h2⟩ := h
  exact ⟨U, D, h1, AU, cU, AD, cD, DA, Dc, h2.below hb⟩
/-- A step of the reference, in these words. -/
theorem fstep_fi (w : World) (B fb i : Nat) (o a b : Nat → Int) (h : FI w B fb i o a b) (hB : B ≤ w.heap.size) (hi : i ≤ 1000) :
    Calls Try.prog 6 #[.pointer (some ⟨fb, 0, none⟩), .agg #[.int .i64 (o i), .int .i64 (a i), .int .i64 (b i)]] w fun e w' =>
      BoolT (okS (st o a b i) (o i) (a i) (b i) ∧ FI w' B fb (i + 1) o a b) e ∧ But kindF B w w' := by
  obtain ⟨U, D, h1, AU, cU, AD, cD, DA, Dc, h2⟩ := h
  have hle := st_le o a b i
  refine (fstep_any w B fb _ i U D (st o a b i).2 AU cU AD cD DA Dc h2 h1 hB (by omega) hi (o i) (a i) (b i)).mono ?_
  rintro e w' ⟨⟨ok, rfl, hk⟩, hb⟩
  exact ⟨⟨ok, rfl, fun e => by obtain ⟨k1, U', D', k2, k3⟩ := hk e; exact ⟨k1, U', D', k2, k3⟩⟩, hb⟩
theorem links_fi (w : World) (B fb i : Nat) (o a b : Nat → Int) (h : FI w B fb i o a b) (hi : i ≤ 1000) :
    Calls Try.prog 7 #[.pointer (some ⟨fb, 0, none⟩)] w fun e w' => (∃ A c, e = .returned (.slice A (st o a b i).1 c) ∧ w'.ownsRow w.heap.size 46 5 (.slice A (st o a b i).1 c) (st o a b i).1 (flat (st o a b i).2 (st o a b i).1)) ∧ Below w.heap.size w w' := by
  obtain ⟨U, D, h1, AU, cU, AD, cD, DA, Dc, h2⟩ := h
  have hle := st_le o a b i
  refine (links_any w B fb _ U D AU cU AD cD DA Dc h2 (fun i j k hi hj => (h1.fo.up i j k hi hj).1) (fun i' hi' => Nat.le_trans (h1.ln i' hi') hi) (by omega)).mono ?_
  rintro e w' ⟨⟨A, c, rfl, ho⟩, hb⟩
  rw [flat_same (fun k x h1' h5 hx => allM_eq h1.fo h1.ag k x h1' h5 hx)] at ho
  exact ⟨⟨A, c, rfl, ho⟩, hb⟩
theorem LR.drewN {w : World} {A : Option Addr} {n c : Nat} {L : Lk} (h : LR w A n c L) (k : Nat) : LR (w.drewN k) A n c L := h
theorem below_dnN {w w' : World} {m : Nat} (h : Below (w.drewN m).heap.size (w.drewN m) w') : Below w.heap.size w w' := ⟨h.os, h.tape, h.output, h.size, h.block⟩
theorem own_lower {w : World} {B C : Nat} {e : TypeId} {size n : Nat} {v : Value} {xs : List Value} (h : w.ownsRow B e size v n xs) (hC : C ≤ B) : w.ownsRow C e size v n xs :=
  ⟨h.1, h.2.imp id (fun ⟨g, cap, cur, hv, hb, rest⟩ => ⟨g, cap, cur, hv, Nat.le_trans hC hb, rest⟩)⟩

set_option maxRecDepth 100000 in
set_option maxHeartbeats 8000000 in
theorem lawSteps (w : World) (SA : Option Addr) (n c : Nat) (o a b : Nat → Int) (h : SS w w.heap.size SA n c o a b) (hn : n ≤ 9223372036854775807) :
    Calls Try.prog 3 #[.slice SA n c] w fun e w' => e = .returned (.bool true) ∧ Below w.heap.size w w' := by
  have HS := Lib.hid h
  clear h
  by_cases k1 : 2147483647 < n
  · go_enter Try.func3, Try.ntmps3
    go_wp2
    go_ret
    exact ⟨rfl, Below.refl _ _⟩
  by_cases k2 : 100 < n
  · go_enter Try.func3, Try.ntmps3
    go_wp2_with fail
    refine (awake_any w).mono ?_
    rintro e w' ⟨rfl, hb⟩
    have HB := Lib.hid hb
    clear hb
    go_wp2
    go_ret
    exact ⟨rfl, HB.out⟩
  obtain ⟨i1, hi1, hy0, hy1, hy2⟩ := info_parts Try.infoSLs
  go_enter Try.func3, Try.ntmps3
  go_wp2_with fail
  have hFI0 : FI (w.alloc (.cells #[.slice none 0 0, .slice none 0 0] 28)) w.heap.size w.heap.size 0 o a b :=
    ⟨_, _, Inv.start, none, 0, none, 0, fun _ => none, fun _ => 0, ⟨heap_alloc_new w _, World.ownsRow_nil _ _ _ _, World.ownsRow_nil _ _ _ _, fun i hi => absurd hi (Nat.not_lt_zero _), fun i _ hi => absurd hi (Nat.not_lt_zero _), fun i _ _ hi => absurd hi (Nat.not_lt_zero _), Nat.le_refl _⟩⟩
  have HFI0 := Lib.hid hFI0
  have HB0 := Lib.hid ((Below.refl w.heap.size w).alloc (Nat.le_refl _) (.cells #[.slice none 0 0, .slice none 0 0] 28))
  clear hFI0
  generalize w.alloc (.cells #[.slice none 0 0, .slice none 0 0] 28) = w0 at *
  go_loopw [20, 4, 2] (fun iv wv rv wr => ∃ (i : Nat) (A : Option Addr) (cw : Nat) (vs : List Value), i ≤ n ∧ iv = .int .i64 i ∧ wv = .slice A i cw ∧ rv = .bool false ∧ Hid (FI wr w.heap.size w.heap.size i o a b) ∧ Hid (∀ r, r < i → okS (st o a b r) (o r) (a r) (b r)) ∧
      Hid (wr.ownsRow w.heap.size 34 1 (.slice A i cw) i vs) ∧ Hid (∀ r, r < i → ∃ v, vs[r]? = some v ∧ SRow wr w.heap.size v (st o a b (r + 1)).1 (st o a b (r + 1)).2) ∧ Hid (Below w.heap.size w wr)) (fun iv _ _ _ => n - (intOf iv).toNat)
  case atStart => exact ⟨0, none, 0, [], by omega, rfl, rfl, rfl, HFI0, Lib.hid (fun r hr => by omega), Lib.hid (World.ownsRow_nil _ _ _ _), Lib.hid (fun r hr => by omega), HB0⟩
  case round =>
    obtain ⟨i, A, cw, vs, hi, rfl, rfl, rfl, HFI, HOK, HO, HR, HB⟩ := hrel
    by_cases hin : i < n
    · obtain ⟨blk, off, rfl, hblk, hcell⟩ := HS.out.2 (by omega)
      obtain ⟨q0, q1, q2⟩ := hcell i hin
      have r0 := (HB.out.cell (p := ⟨blk, off + i * 3, none⟩) hblk).trans q0
      have r1 := (HB.out.cell (p := ⟨blk, off + i * 3 + 1, none⟩) hblk).trans q1
      have r2 := (HB.out.cell (p := ⟨blk, off + i * 3 + 2, none⟩) hblk).trans q2
      have hsz : w.heap.size ≤ wr.heap.size := HB.out.size
      clear hcell q0 q1 q2
      go_wp2_with fail
      have hA0 := But.alloc (fun _ => False) 0 wr (.cells #[.int .i64 (o i), .int .i64 (a i), .int .i64 (b i)] 31)
      have hA1 := HB.out.alloc hsz (.cells #[.int .i64 (o i), .int .i64 (a i), .int .i64 (b i)] 31)
      have hsA : wr.heap.size ≤ (wr.alloc (.cells #[.int .i64 (o i), .int .i64 (a i), .int .i64 (b i)] 31)).heap.size := by simp
      have HFI1 := Lib.hid (HFI.out.but hA0 (fun _ h => h.elim))
      have HO1 := Lib.hid (row_kept HO.out hA0 (fun h => h))
      have HR1 : Hid (∀ r, r < i → ∃ v, vs[r]? = some v ∧ SRow (wr.alloc (.cells #[.int .i64 (o i), .int .i64 (a i), .int .i64 (b i)] 31)) w.heap.size v (st o a b (r + 1)).1 (st o a b (r + 1)).2) := Lib.hid fun r hr => by
        obtain ⟨v, h1, A', c', h2, h3⟩ := HR.out r hr
        exact ⟨v, h1, A', c', h2, row_kept h3 hA0 (fun h => h)⟩
      have HB1 := Lib.hid hA1
      clear hA0 hA1 r0 r1 r2
      generalize wr.alloc (.cells #[.int .i64 (o i), .int .i64 (a i), .int .i64 (b i)] 31) = w1 at *
      refine (fstep_fi w1 w.heap.size w.heap.size i o a b HFI1.out (Nat.le_trans hsz hsA) (by omega)).mono ?_
      rintro e w2 ⟨⟨ok, rfl, hk⟩, hb2⟩
      have hsz2 : w.heap.size ≤ w2.heap.size := Nat.le_trans (Nat.le_trans hsz hsA) hb2.size
      have HB2 := Lib.hid (HB1.out.trans (hb2.below (Nat.le_trans hsz hsA)))
      cases ok with
      | false =>
        clear hk hb2
        go_wp2_with fail
        refine (awake_any w2).mono ?_
        rintro e w3 ⟨rfl, hb3⟩
        have HB3 := Lib.hid (HB2.out.trans (hb3.mono hsz2))
        clear hb3
        go_wp2
        go_ret
        exact ⟨rfl, HB3.out⟩
      | true =>
        obtain ⟨k1', k2'⟩ := hk rfl
        have HK := Lib.hid k1'
        have HFI2 := Lib.hid k2'
        have HO2 := Lib.hid (row_kept HO1.out hb2 (by unfold kindF; decide))
        have HR2 : Hid (∀ r, r < i → ∃ v, vs[r]? = some v ∧ SRow w2 w.heap.size v (st o a b (r + 1)).1 (st o a b (r + 1)).2) := Lib.hid fun r hr => by
          obtain ⟨v, h1, A', c', h2, h3⟩ := HR1.out r hr
          exact ⟨v, h1, A', c', h2, row_kept h3 hb2 (by unfold kindF; decide)⟩
        clear hk hb2 k1' k2'
        go_wp2_with fail
        refine (links_fi w2 w.heap.size w.heap.size (i + 1) o a b HFI2.out (by omega)).mono ?_
        rintro e w3 ⟨⟨AL, cL, rfl, hL⟩, hb3⟩
        have hsz3 : w.heap.size ≤ w3.heap.size := Nat.le_trans hsz2 hb3.size
        have HFI3 := Lib.hid (HFI2.out.below hb3)
        have HO3 := Lib.hid (row_below HO2.out hb3)
        have HR3 : Hid (∀ r, r < i → ∃ v, vs[r]? = some v ∧ SRow w3 w.heap.size v (st o a b (r + 1)).1 (st o a b (r + 1)).2) := Lib.hid fun r hr => by
          obtain ⟨v, h1, A', c', h2, h3⟩ := HR2.out r hr
          exact ⟨v, h1, A', c', h2, row_below h3 hb3⟩
        have HL := Lib.hid (own_lower hL hsz2)
        have HB3 := Lib.hid (HB2.out.trans (hb3.mono hsz2))
        clear hL hb3
        generalize hnL : (st o a b (i + 1)).1 = nL at *
        go_wp2_with (at_builtin; refine wpList_app1 (.tmp 29) (.tmp 32) _ w.heap.size 34 i1 (.slice none 0 0) _ 24 w3 _ _ _ _ HO3.out rfl rfl Try.underlying29 hi1 hy0 hy1 hy2 rfl rfl rfl rfl (by omega) (by omega) hsz3 ?_; intro A4 c4 w4 hown4 hg4)
        have hb4 := row_but (T := (· = 34)) (B := w.heap.size) HO3.out hg4 rfl (Nat.le_refl _)
        have HFI4 := Lib.hid (HFI3.out.but hb4 (by intro e he; subst he; unfold kindF; decide))
        have HO4 := Lib.hid hown4
        have HB4 := Lib.hid (HB3.out.trans (hb4.below hsz3))
        have HR4 : Hid (∀ r, r < i + 1 → ∃ v, (vs ++ [Value.slice AL nL cL])[r]? = some v ∧ SRow w4 w.heap.size v (st o a b (r + 1)).1 (st o a b (r + 1)).2) := Lib.hid fun r hr => by
          by_cases e : r < i
          · obtain ⟨v, h1, A', c', h2, h3⟩ := HR3.out r e
            exact ⟨v, by rw [List.getElem?_append_left (List.getElem?_eq_some_iff.1 h1).1]; exact h1, A', c', h2, row_kept h3 hb4 (by decide)⟩
          · obtain rfl : r = i := by omega
            refine ⟨_, ?_, AL, cL, by rw [hnL], ?_⟩
            · have hlen := HO3.out.1
              rw [List.getElem?_append_right (by omega), hlen]
              simp
            · rw [hnL]; exact row_kept HL.out hb4 (by decide)
        have HOK4 : Hid (∀ r, r < i + 1 → okS (st o a b r) (o r) (a r) (b r)) := Lib.hid fun r hr => by
          by_cases e : r < i
          · exact HOK.out r e
          · obtain rfl : r = i := by omega
            exact HK.out
        clear hown4 hg4 hb4
        go_wp2
        go_roundw
        case rel => exact ⟨i + 1, A4, c4, _, by omega, by go_num, rfl, rfl, HFI4, HOK4, HO4, HR4, HB4⟩
        case measure => simp [intOf]; omega
    · obtain rfl : n = i := by omega
      have HSr := Lib.hid ((HS.out.below HB.out).more HB.out.size)
      go_wp2_with fail
      refine (treeRun_any wr SA n c o a b HSr.out (by omega) HOK.out).mono ?_
      rintro e w2 ⟨OA, Oc, vs2, rfl, hown2, hrow2, hb2⟩
      have hbl2 := hb2.below (Nat.le_refl _)
      have HO2 := Lib.hid (row_below HO.out hbl2)
      have HR2 : Hid (∀ r, r < n → ∃ v, vs[r]? = some v ∧ SRow w2 w.heap.size v (st o a b (r + 1)).1 (st o a b (r + 1)).2) := Lib.hid fun r hr => by
        obtain ⟨v, h1, A', c', h2, h3⟩ := HR.out r hr
        exact ⟨v, h1, A', c', h2, row_below h3 hbl2⟩
      have HV := Lib.hid hown2
      have HVR := Lib.hid hrow2
      have HB2 := Lib.hid (HB.out.trans (hbl2.mono HB.out.size))
      have hsz2 : w.heap.size ≤ w2.heap.size := HB2.out.size
      clear hown2 hrow2 hb2 hbl2
      go_wp2_with fail
      go_loopw [44, 2] (fun iv rv wr => ∃ (i m : Nat), i ≤ n ∧ iv = .int .i64 i ∧ rv = .bool false ∧ wr = w2.drewN m) (fun iv _ _ => n - (intOf iv).toNat)
      case atStart => exact ⟨0, 0, by omega, rfl, rfl, rfl⟩
      case round =>
        obtain ⟨i, m, hi, rfl, rfl, rfl⟩ := hrel
        by_cases hin : i < n
        · obtain ⟨g, rfl, -, -, hc1, hcell1, -⟩ := row_at HV.out hin
          obtain ⟨g', rfl, -, -, hc2, hcell2, -⟩ := row_at HO2.out hin
          obtain ⟨v1, hv1, A1, c1, rfl, hl1⟩ := HVR.out i hin
          obtain ⟨v2, hv2, A2, c2, rfl, hl2⟩ := HR2.out i hin
          have k1' : w2.cell? ⟨g, i, none⟩ = some (.slice A1 (st o a b (i + 1)).1 c1) := by rw [hcell1 i hin]; exact hv1
          have k2' : w2.cell? ⟨g', i, none⟩ = some (.slice A2 (st o a b (i + 1)).1 c2) := by rw [hcell2 i hin]; exact hv2
          have HL1 := Lib.hid (LR.of hl1)
          have HL2 := Lib.hid (LR.of hl2)
          have hin' : (i : Int) < n := by omega
          have hle := st_le o a b (i + 1)
          clear hcell1 hcell2 hv1 hv2 hl1 hl2
          go_wp2_with fail
          go_quiet (first | (go_at_call 9; refine (same_any _ A1 _ c1 A2 c2 _ (HL1.out.drewN _) (HL2.out.drewN _) (by omega)).mono ?_; rintro e w'' ⟨rfl, k, rfl⟩; exact ⟨rfl, _, by rw [World.drewN_drewN, Nat.add_assoc]⟩))
          go_wp2
          go_roundw
          case rel => exact ⟨i + 1, _, by omega, by go_num, rfl, rfl⟩
          case measure => simp [intOf]; omega
        · go_wp2_with fail
          refine (awake_any _).mono ?_
          rintro e w3 ⟨rfl, hb3⟩
          have HB3 : Hid (Below w.heap.size w w3) := Lib.hid (HB2.out.trans ((below_dnN hb3).mono hsz2))
          clear hb3
          go_wp2
          go_ret
          exact ⟨rfl, HB3.out⟩
end Go.Proofs.Ytkcccajiplchpaa
