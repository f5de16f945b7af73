/- Tables: the reference's tests of a head. -/
import Derived.Test.YtaljhebalgipjaaGreatDoorH9
import Derived.Test.YtaljhebalgipjaaGreatDoorRH
import Derived.BigQuiet
import Derived.BigRegion
namespace Go.Proofs.YtaljhebalgipjaaGreatDoor
open Go.RowKit
set_option linter.unusedVariables false

/-- A head as the statement gets it. -/
structure TL (w : World) (An : Option Addr) (n1 c1 : Nat) (g : Nat → ByteArray) (Aa : Option Addr) (n2 c2 : Nat) (fa : Nat → Int) (Ah : Option Addr) (n3 c3 : Nat) (fh : Nat → Int) : Prop where
  names : RS w w.heap.size An n1 c1 g
  als : RB w w.heap.size Aa n2 c2 fa
  hys : RB w w.heap.size Ah n3 c3 fh
  cnt : n1 ≤ 9223372036854775807
  szs : ∀ j, j < n1 → (g j).size ≤ 9223372036854775807
theorem TL.below {w w' : World} {An : Option Addr} {n1 c1 : Nat} {g : Nat → ByteArray} {Aa : Option Addr} {n2 c2 : Nat} {fa : Nat → Int} {Ah : Option Addr} {n3 c3 : Nat} {fh : Nat → Int} (h : TL w An n1 c1 g Aa n2 c2 fa Ah n3 c3 fh) (hb : Below w.heap.size w w') : TL w' An n1 c1 g Aa n2 c2 fa Ah n3 c3 fh :=
  ⟨(h.names.below hb).more hb.size, (h.als.below hb).more hb.size, (h.hys.below hb).more hb.size, h.cnt, h.szs⟩
abbrev tlV (An : Option Addr) (n1 c1 : Nat) (Aa : Option Addr) (n2 c2 : Nat) (Ah : Option Addr) (n3 c3 : Nat) (b e : Bool) : Value := .agg #[.slice An n1 c1, .slice Aa n2 c2, .slice Ah n3 c3, .bool b, .bool e]
set_option maxHeartbeats 1600000 in
theorem fits31_of (w : World) (An : Option Addr) (n1 c1 : Nat) (g : Nat → ByteArray) (Aa : Option Addr) (n2 c2 : Nat) (fa : Nat → Int) (Ah : Option Addr) (n3 c3 : Nat) (fh : Nat → Int) (b e : Bool) (h : TL w An n1 c1 g Aa n2 c2 fa Ah n3 c3 fh) :
    Calls Tryz.prog 5 #[.agg #[.slice An n1 c1, .slice Aa n2 c2, .slice Ah n3 c3, .bool b, .bool e]] w fun r w' => BoolP (n1 ≤ 2147483647 ∧ ∀ j, j < n1 → (g j).size ≤ 2147483647) r ∧ Below w.heap.size w w' := by
  have HB := Lib.hid ((Below.refl w.heap.size w).alloc (Nat.le_refl _) (.cells #[.slice An n1 c1, .slice Aa n2 c2, .slice Ah n3 c3, .bool b, .bool e] 25))
  have HN := Lib.hid (h.names.below HB.out)
  have H1 := Lib.hid h.cnt
  have H2 := Lib.hid h.szs
  clear h
  go_enter Tryz.func5, Tryz.ntmps5
  go_wp2_with fail
  refine (fits5_of _ _ An n1 c1 g HN.out H1.out H2.out).mono ?_
  rintro r w' ⟨⟨bo, rfl, hbo⟩, rfl⟩
  cases bo with
  | false =>
    clear hbo
    go_wp2
    go_ret
    exact ⟨⟨false, rfl, fun h => by cases h⟩, HB.out⟩
  | true =>
    have HP := Lib.hid (hbo rfl)
    clear hbo
    by_cases k2 : 2147483647 < n2
    · go_wp2
      go_ret
      exact ⟨⟨false, rfl, fun h => by cases h⟩, HB.out⟩
    · by_cases k3 : 2147483647 < n3
      · go_wp2
        go_ret
        exact ⟨⟨false, rfl, fun h => by cases h⟩, HB.out⟩
      · go_wp2
        go_ret
        exact ⟨⟨true, rfl, fun _ => HP.out⟩, HB.out⟩
/-- What a valid head is. -/
def TabP (n1 : Nat) (g : Nat → ByteArray) (n2 : Nat) (fa : Nat → Int) (n3 : Nat) (fh : Nat → Int) : Prop :=
  (2 ≤ n1 ∧ n1 ≤ 8 ∧ n2 = n1 ∧ n3 = n1) ∧ ∀ j, j < n1 → LineP (g j) ∧ fa j ≤ 3 ∧ 1 ≤ fh j ∧ fh j ≤ 20 ∧ 3 ≤ fh j + fa j % 2 + fa j / 2
theorem small (x : Int) (h0 : 0 ≤ x) (h3 : x ≤ 3) : x.tmod 2 = x % 2 ∧ x.tdiv 2 = x / 2 := ⟨Int.tmod_eq_emod_of_nonneg h0, Int.tdiv_eq_ediv_of_nonneg h0⟩
theorem w64 (n : Int) (h0 : 0 ≤ n) (h1 : n ≤ 100000) : IntKind.i64.wrap n = n := by simp [IntKind.wrap, IntKind.bits, IntKind.signed]; omega
theorem w8 (n : Int) (h0 : 0 ≤ n) (h1 : n ≤ 255) : IntKind.u8.wrap n = n := by simp [IntKind.wrap, IntKind.bits, IntKind.signed]; omega
theorem colons {x : Int} (h0 : 0 ≤ x) (h1 : x ≤ 255) : IntKind.i64.wrap (IntKind.i64.wrap (x % 2) + x / 2) = x % 2 + x / 2 ∧ IntKind.i64.wrap (IntKind.i64.wrap (x % 2) + IntKind.i64.wrap (IntKind.u8.wrap (x / 2))) = x % 2 + x / 2 ∧ IntKind.i64.wrap (IntKind.i64.wrap (x % 2) + IntKind.i64.wrap (x / 2)) = x % 2 + x / 2 := by
  have e1 := w64 (x % 2) (by omega) (by omega)
  have e2 := w64 (x / 2) (by omega) (by omega)
  have e3 := w8 (x / 2) (by omega) (by omega)
  have e4 := w64 (x % 2 + x / 2) (by omega) (by omega)
  rw [e3, e2, e1, e4]; exact ⟨rfl, rfl, rfl⟩
set_option maxRecDepth 100000 in
set_option maxHeartbeats 4000000 in
theorem isTable_of (w : World) (An : Option Addr) (n1 c1 : Nat) (g : Nat → ByteArray) (Aa : Option Addr) (n2 c2 : Nat) (fa : Nat → Int) (Ah : Option Addr) (n3 c3 : Nat) (fh : Nat → Int) (b e : Bool) (h : TL w An n1 c1 g Aa n2 c2 fa Ah n3 c3 fh) (hs : ∀ j, j < n1 → (g j).size ≤ 2147483647) :
    Calls Tryz.prog 6 #[.agg #[.slice An n1 c1, .slice Aa n2 c2, .slice Ah n3 c3, .bool b, .bool e]] w fun r w' => BoolP (TabP n1 g n2 fa n3 fh) r ∧ Below w.heap.size w w' := by
  obtain ⟨W, hW⟩ : ∃ W, W = w.alloc (.cells #[.slice An n1 c1, .slice Aa n2 c2, .slice Ah n3 c3, .bool b, .bool e] 25) := ⟨_, rfl⟩
  have HB : Hid (Below w.heap.size w W) := Lib.hid (by rw [hW]; exact (Below.refl w.heap.size w).alloc (Nat.le_refl _) _)
  have HL := Lib.hid (h.below HB.out)
  have HS := Lib.hid hs
  have hcell : ∀ k v, (#[Value.slice An n1 c1, .slice Aa n2 c2, .slice Ah n3 c3, .bool b, .bool e] : Array Value)[k]? = some v → W.cell? ⟨w.heap.size, k, none⟩ = some v := fun k v hk => by
    rw [cell_of_row W _ k _ _ _ (by rw [hW]; exact heap_alloc_new w _)]; exact hk
  have x0 := hcell 0 _ rfl
  have x1 := hcell 1 _ rfl
  have x2 := hcell 2 _ rfl
  clear h hs hcell
  by_cases k1 : (2 ≤ n1 ∧ n1 ≤ 8) ∧ n1 = n2 ∧ n1 = n3
  · obtain ⟨⟨k1, k2⟩, rfl, rfl⟩ := k1
    have m1 : ¬ (n1 : Int) < 2 := by omega
    have m2 : ¬ (8 : Int) < n1 := by omega
    go_enter Tryz.func6, Tryz.ntmps6
    go_upto_region 1 with fail
    rw [← hW]
    have HW : Hid (w.heap.size < W.heap.size) := Lib.hid (by rw [hW]; simp)
    have HX0 := Lib.hid x0
    have HX1 := Lib.hid x1
    have HX2 := Lib.hid x2
    clear hW
    go_wp2_with fail
    clear x0 x1 x2
    go_loopw [37, 2] (fun iv rv wr => ∃ i : Nat, i ≤ n1 ∧ iv = .int .i64 i ∧ rv = .bool false ∧ Hid (∀ j, j < i → LineP (g j) ∧ fa j ≤ 3 ∧ 1 ≤ fh j ∧ fh j ≤ 20 ∧ 3 ≤ fh j + fa j % 2 + fa j / 2) ∧ Hid (Below W.heap.size W wr)) (fun iv _ _ => n1 - (intOf iv).toNat)
    case atStart => exact ⟨0, by omega, rfl, rfl, Lib.hid (fun j hj => by omega), Lib.hid (Below.refl _ _)⟩
    case round =>
      obtain ⟨i, hi, rfl, rfl, HP, HBR⟩ := hrel
      have HBw : Hid (Below w.heap.size w wr) := Lib.hid ⟨HBR.out.os.trans HB.out.os, HBR.out.tape.trans HB.out.tape, HBR.out.output.trans HB.out.output, Nat.le_trans HB.out.size HBR.out.size, fun k hk => (HBR.out.block k (by have := HW.out; omega)).trans (HB.out.block k hk)⟩
      by_cases hin : i < n1
      · have hL := HL.out.below HBR.out
        obtain ⟨bn, on, rfl, hBn, hcn⟩ := hL.names.2 (by omega)
        obtain ⟨ba, oa, rfl, hBa, hca⟩ := hL.als.2.2.2 (by omega)
        obtain ⟨bh, oh, rfl, hBh, hch⟩ := hL.hys.2.2.2 (by omega)
        have cn := hcn i hin
        have ca := hca i hin
        have ch := hch i hin
        have hin' : (i : Int) < n1 := by omega
        have ra := hL.als.rng i
        have rh := hL.hys.rng i
        have x1 := (HBR.out.cell (p := ⟨w.heap.size, 1, none⟩) HW.out).trans HX1.out
        have x2 := (HBR.out.cell (p := ⟨w.heap.size, 2, none⟩) HW.out).trans HX2.out
        have hsz := HS.out i hin
        obtain ⟨x, hx⟩ : ∃ x, x = fa i := ⟨_, rfl⟩
        obtain ⟨y, hy⟩ : ∃ y, y = fh i := ⟨_, rfl⟩
        rw [← hx] at ca ra
        rw [← hy] at ch rh
        have hT1 := Int.tmod_eq_emod_of_nonneg (b := 2) ra.1
        have hT2 := Int.tdiv_eq_ediv_of_nonneg (b := 2) ra.1
        have hv := colons ra.1 ra.2
        have HX := Lib.hid hx
        have HY := Lib.hid hy
        clear hcn hca hch hx hy hL
        go_upto_region 6 with fail
        go_cut [5] (fun sv wx => sv = .int .i64 (x % 2 + x / 2) ∧ wx = wr.drew)
        case first =>
          refine wp_region_heads (a' := ?Af) (S := fun w' => w'.cell? ⟨w.heap.size, 1, none⟩ = some (.slice (some ⟨ba, oa, none⟩) n1 c2) ∧ w'.cell? ⟨ba, oa + i, none⟩ = some (.int .u8 x))
            (late := fun _ => false) [(0, false), (1, true), (2, false), (3, false), (4, true), (5, false), (6, false), (7, false), (8, true), (9, false), (10, false), (11, true), (12, false), (13, false), (14, false), (15, false)] 0 (by kernel_rfl) (fun _ _ _ _ h => h) (by kernel_rfl) ⟨x1, ca⟩ ?hh ?tl
          case hh =>
            refine Heads.cons _ _ _ _ ?_ _ _ (at_zero) (Or.inl ⟨by rfl, ?_⟩) ?_
            rotate_left 1
            · intro w _
              go_simp
              try with_reducible rfl
            simp only [Act.put, List.setIfInBounds_toArray, List.set_cons_zero, List.set_cons_succ]
            refine Heads.cons _ _ _ _ ?_ _ _ (at_succ at_zero) (Or.inl ⟨by rfl, ?_⟩) ?_
            rotate_left 1
            · intro w hS; obtain ⟨hS0, hS1⟩ := hS rfl
              go_simp
              try with_reducible rfl
            simp only [Act.put, List.setIfInBounds_toArray, List.set_cons_zero, List.set_cons_succ]
            refine Heads.cons _ _ _ _ ?_ _ _ (at_succ (at_succ at_zero)) (Or.inl ⟨by rfl, ?_⟩) ?_
            rotate_left 1
            · intro w _
              go_simp
              try with_reducible rfl
            simp only [Act.put, List.setIfInBounds_toArray, List.set_cons_zero, List.set_cons_succ]
            refine Heads.cons _ _ _ _ ?_ _ _ (at_succ (at_succ (at_succ at_zero))) (Or.inl ⟨by rfl, ?_⟩) ?_
            rotate_left 1
            · intro w _
              go_simp
              try with_reducible rfl
            simp only [Act.put, List.setIfInBounds_toArray, List.set_cons_zero, List.set_cons_succ]
            refine Heads.cons _ _ _ _ ?_ _ _ (at_succ (at_succ (at_succ (at_succ at_zero)))) (Or.inl ⟨by rfl, ?_⟩) ?_
            rotate_left 1
            · intro w hS; obtain ⟨hS0, hS1⟩ := hS rfl
              go_simp
              try with_reducible rfl
            simp only [Act.put, List.setIfInBounds_toArray, List.set_cons_zero, List.set_cons_succ]
            refine Heads.cons _ _ _ _ ?_ _ _ (at_succ (at_succ (at_succ (at_succ (at_succ at_zero))))) (Or.inl ⟨by rfl, ?_⟩) ?_
            rotate_left 1
            · intro w _
              go_simp
              try with_reducible rfl
            simp only [Act.put, List.setIfInBounds_toArray, List.set_cons_zero, List.set_cons_succ]
            refine Heads.cons _ _ _ _ ?_ _ _ (at_succ (at_succ (at_succ (at_succ (at_succ (at_succ at_zero)))))) (Or.inl ⟨by rfl, ?_⟩) ?_
            rotate_left 1
            · intro w _
              go_simp
              try with_reducible rfl
            simp only [Act.put, List.setIfInBounds_toArray, List.set_cons_zero, List.set_cons_succ]
            refine Heads.cons _ _ _ _ ?_ _ _ (at_succ (at_succ (at_succ (at_succ (at_succ (at_succ (at_succ at_zero))))))) (Or.inl ⟨by rfl, ?_⟩) ?_
            rotate_left 1
            · intro w _
              go_simp
              try with_reducible rfl
            simp only [Act.put, List.setIfInBounds_toArray, List.set_cons_zero, List.set_cons_succ]
            refine Heads.cons _ _ _ _ ?_ _ _ (at_succ (at_succ (at_succ (at_succ (at_succ (at_succ (at_succ (at_succ at_zero)))))))) (Or.inl ⟨by rfl, ?_⟩) ?_
            rotate_left 1
            · intro w hS; obtain ⟨hS0, hS1⟩ := hS rfl
              go_simp
              try with_reducible rfl
            simp only [Act.put, List.setIfInBounds_toArray, List.set_cons_zero, List.set_cons_succ]
            refine Heads.cons _ _ _ _ ?_ _ _ (at_succ (at_succ (at_succ (at_succ (at_succ (at_succ (at_succ (at_succ (at_succ at_zero))))))))) (Or.inl ⟨by rfl, ?_⟩) ?_
            rotate_left 1
            · intro w _
              go_simp
              try with_reducible rfl
            simp only [Act.put, List.setIfInBounds_toArray, List.set_cons_zero, List.set_cons_succ]
            refine Heads.cons _ _ _ _ ?_ _ _ (at_succ (at_succ (at_succ (at_succ (at_succ (at_succ (at_succ (at_succ (at_succ (at_succ at_zero)))))))))) (Or.inl ⟨by rfl, ?_⟩) ?_
            rotate_left 1
            · intro w _
              go_simp
              try with_reducible rfl
            simp only [Act.put, List.setIfInBounds_toArray, List.set_cons_zero, List.set_cons_succ]
            refine Heads.cons _ _ _ _ ?_ _ _ (at_succ (at_succ (at_succ (at_succ (at_succ (at_succ (at_succ (at_succ (at_succ (at_succ (at_succ at_zero))))))))))) (Or.inl ⟨by rfl, ?_⟩) ?_
            rotate_left 1
            · intro w hS; obtain ⟨hS0, hS1⟩ := hS rfl
              go_simp
              try with_reducible rfl
            simp only [Act.put, List.setIfInBounds_toArray, List.set_cons_zero, List.set_cons_succ]
            refine Heads.cons _ _ _ _ ?_ _ _ (at_succ (at_succ (at_succ (at_succ (at_succ (at_succ (at_succ (at_succ (at_succ (at_succ (at_succ (at_succ at_zero)))))))))))) (Or.inl ⟨by rfl, ?_⟩) ?_
            rotate_left 1
            · intro w _
              go_simp
              try with_reducible rfl
            simp only [Act.put, List.setIfInBounds_toArray, List.set_cons_zero, List.set_cons_succ]
            refine Heads.cons _ _ _ _ ?_ _ _ (at_succ (at_succ (at_succ (at_succ (at_succ (at_succ (at_succ (at_succ (at_succ (at_succ (at_succ (at_succ (at_succ at_zero))))))))))))) (Or.inl ⟨by rfl, ?_⟩) ?_
            rotate_left 1
            · intro w _
              go_simp
              try with_reducible rfl
            simp only [Act.put, List.setIfInBounds_toArray, List.set_cons_zero, List.set_cons_succ]
            refine Heads.cons _ _ _ _ ?_ _ _ (at_succ (at_succ (at_succ (at_succ (at_succ (at_succ (at_succ (at_succ (at_succ (at_succ (at_succ (at_succ (at_succ (at_succ at_zero)))))))))))))) (Or.inl ⟨by rfl, ?_⟩) ?_
            rotate_left 1
            · intro w _
              go_simp
              try with_reducible rfl
            simp only [Act.put, List.setIfInBounds_toArray, List.set_cons_zero, List.set_cons_succ]
            refine Heads.cons _ _ _ _ ?_ _ _ (at_succ (at_succ (at_succ (at_succ (at_succ (at_succ (at_succ (at_succ (at_succ (at_succ (at_succ (at_succ (at_succ (at_succ (at_succ at_zero))))))))))))))) (Or.inl ⟨by rfl, ?_⟩) ?_
            rotate_left 1
            · intro w _
              go_simp
              try with_reducible rfl
            simp only [Act.put, List.setIfInBounds_toArray, List.set_cons_zero, List.set_cons_succ]
            exact Heads.nil _
          case tl =>
            refine ⟨by kernel_rfl, ?_⟩
            go_wp2
            go_meet
            exact ⟨by first | rfl | rw [hv.1] | rw [hv.2.1] | rw [hv.2.2] , rfl⟩
        case rest =>
          obtain ⟨rfl, rfl⟩ := hcut
          have hdr : ∀ p, wr.drew.cell? p = wr.cell? p := fun _ => rfl
          rw [← hdr] at cn ca ch x1 x2
          have HBd : Hid (Below W.heap.size W wr.drew) := Lib.hid HBR.out.drew
          have HBw2 : Hid (Below w.heap.size w wr.drew) := Lib.hid HBw.out.drew
          clear hdr HBR HBw
          generalize wr.drew = wd at *
          go_wp2_with fail
          refine (isLine_of (g i) wd hsz).mono ?_
          rintro r w' ⟨⟨bo, rfl, hbo⟩, rfl⟩
          cases bo with
          | false =>
            clear hbo
            go_wp2
            go_ret
            exact ⟨⟨false, rfl, fun h => by cases h⟩, HBw2.out⟩
          | true =>
            have HLP := Lib.hid (hbo rfl)
            clear hbo hT1 hT2
            have w1 := w64 y rh.1 (by omega)
            have w2 := w64 (y + (x % 2 + x / 2)) (by omega) (by omega)
            by_cases q1 : 3 < x
            · go_wp2
              go_ret
              exact ⟨⟨false, rfl, fun h => by cases h⟩, HBw2.out⟩
            by_cases q2 : y < 1
            · go_wp2
              go_ret
              exact ⟨⟨false, rfl, fun h => by cases h⟩, HBw2.out⟩
            by_cases q3 : 20 < y
            · go_wp2
              go_ret
              exact ⟨⟨false, rfl, fun h => by cases h⟩, HBw2.out⟩
            by_cases q4 : y + (x % 2 + x / 2) < 3
            · go_wp2
              go_ret
              exact ⟨⟨false, rfl, fun h => by cases h⟩, HBw2.out⟩
            have HP2 : Hid (∀ j, j < i + 1 → LineP (g j) ∧ fa j ≤ 3 ∧ 1 ≤ fh j ∧ fh j ≤ 20 ∧ 3 ≤ fh j + fa j % 2 + fa j / 2) := Lib.hid fun j hj => by
              by_cases ej : j = i
              · subst ej; rw [← HX.out, ← HY.out]; exact ⟨HLP.out, by omega, by omega, by omega, by omega⟩
              · exact HP.out j (by omega)
            go_wp2
            go_roundw
            case rel => exact ⟨i + 1, by omega, by go_num, rfl, HP2, HBd⟩
            case measure => simp [intOf]; omega
      · obtain rfl : i = n1 := by omega
        have HF : Hid (TabP i g i fa i fh) := Lib.hid ⟨⟨by omega, by omega, rfl, rfl⟩, HP.out⟩
        go_wp2
        go_ret
        exact ⟨⟨true, rfl, fun _ => HF.out⟩, HBw.out⟩
  · go_enter Tryz.func6, Tryz.ntmps6
    go_upto_region 1 with fail
    rw [← hW]
    clear hW
    by_cases p1 : n1 < 2
    · have m1 : (n1 : Int) < 2 := by omega
      go_wp2
      go_ret
      exact ⟨⟨false, rfl, fun h => by cases h⟩, HB.out⟩
    have m1 : ¬ (n1 : Int) < 2 := by omega
    by_cases p2 : 8 < n1
    · have m2 : (8 : Int) < n1 := by omega
      go_wp2
      go_ret
      exact ⟨⟨false, rfl, fun h => by cases h⟩, HB.out⟩
    have m2 : ¬ (8 : Int) < n1 := by omega
    by_cases p3 : n1 = n2
    · subst p3
      have m3 : ¬ (n3 : Int) = n1 := fun h => k1 ⟨by omega, rfl, by omega⟩
      have m4 : ¬ n3 = n1 := fun h => m3 (by omega)
      clear k1
      go_wp2
      go_ret
      exact ⟨⟨false, rfl, fun h => by cases h⟩, HB.out⟩
    · have m3 : ¬ (n2 : Int) = n1 := by omega
      have m4 : ¬ n2 = n1 := by omega
      clear k1
      go_wp2
      go_ret
      exact ⟨⟨false, rfl, fun h => by cases h⟩, HB.out⟩
end Go.Proofs.YtaljhebalgipjaaGreatDoor
