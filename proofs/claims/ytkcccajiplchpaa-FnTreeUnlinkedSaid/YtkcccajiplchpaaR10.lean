/- Forests in memory: the neighbours of all nodes as the reference reckons them. -/
import Derived.Test.YtkcccajiplchpaaR8
import Derived.OwnWalk
namespace Go.Proofs.Ytkcccajiplchpaa
open Go.RowKit
set_option linter.unusedVariables false

theorem Try.infoSL : (Try.prog.info? 46).map (fun i => (i.zero, i.size, i.bytes)) = some (some (.agg #[.int .i64 0, .int .i64 0, .int .i64 0, .int .i64 0, .int .i64 0]), 5, 40) := by kernel_rfl
theorem flat_len (M : Lk) : ∀ n, (flat M n).length = n * 5
  | 0 => rfl
  | n + 1 => by rw [flat_succ, List.length_append, flat_len M n]; simp [five]; omega
theorem flat_at (M : Lk) : ∀ (n i j : Nat), i < n → j < 5 → (flat M n)[i * 5 + j]? = (five M i)[j]?
  | 0, i, j, hi, _ => by omega
  | n + 1, i, j, hi, hj => by
    rw [flat_succ]
    have hl := flat_len M n
    by_cases e : i = n
    · subst e
      rw [List.getElem?_append_right (by omega), hl, show i * 5 + j - i * 5 = j by omega]
    · rw [List.getElem?_append_left (by omega)]
      exact flat_at M n i j (by omega) hj
theorem flat_ext {xs : List Value} {M : Lk} {n : Nat} (hl : xs.length = n * 5) (h : ∀ i j, i < n → j < 5 → xs[i * 5 + j]? = (five M i)[j]?) : xs = flat M n := by
  apply List.ext_getElem?
  intro q
  by_cases hq : q < n * 5
  · have e : q = q / 5 * 5 + q % 5 := by omega
    rw [e, h (q / 5) (q % 5) (by omega) (by omega), flat_at M n (q / 5) (q % 5) (by omega) (by omega)]
  · rw [List.getElem?_eq_none_iff.2 (by omega), List.getElem?_eq_none_iff.2 (by rw [flat_len]; omega)]
theorem five_at (M : Lk) (i j : Nat) (hj : j < 5) : (five M i)[j]? = some (.int .i64 (idx (M (j + 1) i))) := by
  have : j = 0 ∨ j = 1 ∨ j = 2 ∨ j = 3 ∨ j = 4 := by omega
  rcases this with rfl | rfl | rfl | rfl | rfl <;> rfl
theorem flat_set (M : Lk) (n i k : Nat) (v : Option Nat) (hi : i < n) (h1 : 1 ≤ k) (h5 : k ≤ 5) : (flat M n).set (i * 5 + (k - 1)) (.int .i64 (idx v)) = flat (upd M k i v) n := by
  apply flat_ext (by rw [List.length_set, flat_len])
  intro i' j' hi' hj'
  rw [List.getElem?_set, five_at _ _ _ hj']
  have hl := flat_len M n
  split
  · rename_i e
    have e1 : i = i' := by omega
    have e2 : k = j' + 1 := by omega
    subst e1 e2
    rw [if_pos (by omega)]
    simp [upd]
  · rename_i e
    rw [flat_at M n i' j' hi' hj', five_at _ _ _ hj']
    unfold upd
    rw [if_neg (fun h => e (by obtain ⟨h1, h2⟩ := h; subst h2; omega))]
theorem flat_same {M L : Lk} {n : Nat} (h : ∀ k i, 1 ≤ k → k ≤ 5 → i < n → M k i = L k i) : flat M n = flat L n :=
  flat_ext (flat_len M n) fun i j hi hj => by rw [flat_at M n i j hi hj, five_at _ _ _ hj, five_at _ _ _ hj, h (j + 1) i (by omega) (by omega) hi]

set_option maxRecDepth 100000 in
set_option maxHeartbeats 4000000 in
theorem links_any (w : World) (B fb n : Nat) (U : Nat → Option Nat) (D : Nat → List Nat) (AU : Option Addr) (cU : Nat) (AD : Option Addr) (cD : Nat) (DA : Nat → Option Addr) (Dc : Nat → Nat) (h : FR w B fb n U D AU cU AD cD DA Dc)
    (hD : ∀ (i j k : Nat), i < n → (D i)[j]? = some k → k < n) (hlen : ∀ i, i < n → (D i).length ≤ 1000) (hn : n ≤ 1000) :
    Calls Try.prog 7 #[.pointer (some ⟨fb, 0, none⟩)] w fun e w' => (∃ A c, e = .returned (.slice A n c) ∧ w'.ownsRow w.heap.size 46 5 (.slice A n c) n (flat (allM U D n) n)) ∧ Below w.heap.size w w' := by
  obtain ⟨i0, hi0, hz0, hz1, hz2⟩ := info_parts Try.infoSL
  have HF := Lib.hid h
  have HD := Lib.hid hD
  have HLEN := Lib.hid hlen
  obtain ⟨c0, c1, _, _⟩ := h.cells
  clear h hD hlen
  go_enter Try.func7, Try.ntmps7
  go_wp2_with (at_make; refine wpList_make_full _ rfl _ _ 34 rfl w.heap.size 46 i0 _ 5 Try.underlying34 hi0 hz0 hz1 _ _ _ _ n rfl rfl rfl rfl (by rw [hz2]; omega) (by unfold maxLen; omega) (Nat.le_refl _) ?_; intro w0 hown0 hg0)
  have hb0 := (Below.refl w.heap.size w).grown hg0 (Nat.le_refl _) (fun k hk => by cases hk)
  go_loopw [17] (fun iv wr => ∃ (i : Nat) (xs : List Value), i ≤ n ∧ iv = .int .i64 i ∧ Hid (wr.ownsRow w.heap.size 46 5 (.slice (some ⟨w.heap.size, 0, none⟩) n n) n xs) ∧ Hid (∀ i' j, i' < i → j < 5 → xs[i' * 5 + j]? = (five (allM U D 0) i')[j]?) ∧ Hid (Below w.heap.size w wr)) (fun iv _ => n - (intOf iv).toNat)
  case atStart => exact ⟨0, _, by omega, rfl, Lib.hid hown0, Lib.hid (fun _ _ h => by omega), Lib.hid hb0⟩
  case round =>
    obtain ⟨i, xs, hi, rfl, HO, HX, HB⟩ := hrel
    have HFr := Lib.hid (HF.out.below HB.out)
    obtain ⟨d0, d1, _, _⟩ := HFr.out.cells
    by_cases hin : i < n
    · obtain ⟨g, rfl, hnc, ci, _⟩ := HFr.out.upAt hin
      have hin' : (i : Int) < n := by omega
      have k0 := HO.out.cellAt (i * 5) (by omega)
      have k1 := HO.out.cellAt (i * 5 + 1) (by omega)
      have k2 := HO.out.cellAt (i * 5 + 2) (by omega)
      have k3 := HO.out.cellAt (i * 5 + 3) (by omega)
      have k4 := HO.out.cellAt (i * 5 + 4) (by omega)
      have hl := HO.out.1
      have f0 := HO.out.frozenAt (i * 5)
      have f1 := HO.out.frozenAt (i * 5 + 1)
      have f2 := HO.out.frozenAt (i * 5 + 2)
      have f3 := HO.out.frozenAt (i * 5 + 3)
      have f4 := HO.out.frozenAt (i * 5 + 4)
      rw [List.getElem?_eq_getElem (by omega)] at k0 k1 k2 k3 k4
      have s1 := HO.out.stored (i * 5) (.int .i64 (idx (U i)))
      have s2 := s1.1.stored (i * 5 + 1) (.int .i64 (-1))
      have s3 := s2.1.stored (i * 5 + 2) (.int .i64 (-1))
      have s4 := s3.1.stored (i * 5 + 3) (.int .i64 (-1))
      have s5 := s4.1.stored (i * 5 + 4) (.int .i64 (-1))
      have HS := Lib.hid s5.1
      have HBB := Lib.hid (((((HB.out.setCell (p := ⟨w.heap.size, i * 5, none⟩) (Nat.le_refl _) (.int .i64 (idx (U i)))).setCell (p := ⟨w.heap.size, i * 5 + 1, none⟩) (Nat.le_refl _) (.int .i64 (-1))).setCell (p := ⟨w.heap.size, i * 5 + 2, none⟩) (Nat.le_refl _) (.int .i64 (-1))).setCell (p := ⟨w.heap.size, i * 5 + 3, none⟩) (Nat.le_refl _) (.int .i64 (-1))).setCell (p := ⟨w.heap.size, i * 5 + 4, none⟩) (Nat.le_refl _) (.int .i64 (-1)))
      have HXX : Hid (∀ i' j, i' < i + 1 → j < 5 → (((((xs.set (i * 5) (.int .i64 (idx (U i)))).set (i * 5 + 1) (.int .i64 (-1))).set (i * 5 + 2) (.int .i64 (-1))).set (i * 5 + 3) (.int .i64 (-1))).set (i * 5 + 4) (.int .i64 (-1)))[i' * 5 + j]? = (five (allM U D 0) i')[j]?) := Lib.hid fun i' j hi' hj => by
        simp only [List.getElem?_set, List.length_set]
        by_cases e : i' = i
        · subst e
          have hj' : j = 0 ∨ j = 1 ∨ j = 2 ∨ j = 3 ∨ j = 4 := by omega
          rcases hj' with rfl | rfl | rfl | rfl | rfl
          · rw [if_neg (by omega), if_neg (by omega), if_neg (by omega), if_neg (by omega), if_pos (by omega), if_pos (by omega)]; rfl
          · rw [if_neg (by omega), if_neg (by omega), if_neg (by omega), if_pos (by omega), if_pos (by omega)]; rfl
          · rw [if_neg (by omega), if_neg (by omega), if_pos (by omega), if_pos (by omega)]; rfl
          · rw [if_neg (by omega), if_pos (by omega), if_pos (by omega)]; rfl
          · rw [if_pos (by omega), if_pos (by omega)]; rfl
        · rw [if_neg (by omega), if_neg (by omega), if_neg (by omega), if_neg (by omega), if_neg (by omega)]
          exact HX.out i' j (by omega) hj
      clear s1 s2 s3 s4 s5
      go_wp2
      go_roundw
      case rel => exact ⟨i + 1, _, by omega, by go_num, HS, HXX, HBB⟩
      case measure => simp [intOf]; omega
    · obtain rfl : n = i := by omega
      have HO1 : Hid (wr.ownsRow w.heap.size 46 5 (.slice (some ⟨w.heap.size, 0, none⟩) n n) n (flat (allM U D 0) n)) := Lib.hid (by
        have := flat_ext HO.out.1 (fun i' j hi' hj => HX.out i' j hi' hj)
        rw [← this]; exact HO.out)
      clear HO HX hown0 hg0 hb0
      generalize wr = w1 at *
      go_wp2_with fail
      go_loopw [37] (fun iv wr => ∃ (i : Nat), i ≤ n ∧ iv = .int .i64 i ∧ Hid (wr.ownsRow w.heap.size 46 5 (.slice (some ⟨w.heap.size, 0, none⟩) n n) n (flat (allM U D i) n)) ∧ Hid (Below w.heap.size w wr)) (fun iv _ => n - (intOf iv).toNat)
      case atStart => exact ⟨0, by omega, rfl, HO1, HB⟩
      case round =>
        obtain ⟨i, hi, rfl, HO, HB⟩ := hrel
        have HFr := Lib.hid (HF.out.below HB.out)
        obtain ⟨d0, d1, _, _⟩ := HFr.out.cells
        by_cases hin : i < n
        · obtain ⟨g, rfl, hnc, ci, _⟩ := HFr.out.dnAt hin
          have hin' : (i : Int) < n := by omega
          have hli := HLEN.out i hin
          go_wp2_with fail
          generalize wr = w2 at *
          go_loopw [44] (fun kv wr => ∃ (k : Nat), k ≤ (D i).length ∧ kv = .int .i64 k ∧ Hid (wr.ownsRow w.heap.size 46 5 (.slice (some ⟨w.heap.size, 0, none⟩) n n) n (flat (rowM (allM U D i) (D i) i k) n)) ∧ Hid (Below w.heap.size w wr)) (fun kv _ => (D i).length - (intOf kv).toNat)
          case atStart => exact ⟨0, by omega, rfl, HO, HB⟩
          case round =>
            obtain ⟨k, hk, rfl, HO, HB⟩ := hrel
            have HFr := Lib.hid (HF.out.below HB.out)
            obtain ⟨d0, d1, _, _⟩ := HFr.out.cells
            have hfl := flat_len (rowM (allM U D i) (D i) i k) n
            have kk : ∀ q, q < n * 5 → ∃ v, wr.cell? ⟨w.heap.size, q, none⟩ = some v := fun q hq => by
              rw [HO.out.cellAt q hq, List.getElem?_eq_getElem (by omega)]; exact ⟨_, rfl⟩
            have ff := HO.out.frozenAt
            by_cases hkl : k < (D i).length
            · obtain ⟨gk, ek, hkc, ck⟩ := kid_at (HFr.out.row i hin) hkl
              obtain ⟨gk2, ek2, -, glt, -, -, -⟩ := row_at (HF.out.row i hin) hkl
              rw [ek] at ek2
              injection ek2 with ek2; injection ek2 with ek2; subst ek2
              have hgk : w.heap.size ≠ gk := by omega
              have hgk' : gk ≠ w.heap.size := by omega
              clear glt
              have hx : (D i)[k]? = some (D i)[k] := List.getElem?_eq_getElem hkl
              have hxn := HD.out i k _ hin hx
              have hkl' : (k : Int) < (D i).length := by omega
              obtain ⟨x, hxe⟩ : ∃ x, x = (D i)[k] := ⟨_, rfl⟩
              rw [← hxe] at ck hx hxn
              have hxn' : (x : Int) < n := by omega
              rw [ek]
              have HEK := Lib.hid ek
              obtain ⟨v1, p1⟩ := kk (i * 5 + 1) (by omega)
              obtain ⟨v2, p2⟩ := kk (i * 5 + 2) (by omega)
              obtain ⟨v3, p3⟩ := kk (x * 5 + 3) (by omega)
              have q1 := ff (i * 5 + 1)
              have q2 := ff (i * 5 + 2)
              have q3 := ff (x * 5 + 3)
              cases k with
              | zero =>
                have s1 := HO.out.stored (i * 5 + 1) (.int .i64 x)
                have s2 := s1.1.stored (i * 5 + 2) (.int .i64 x)
                have HS : Hid (((wr.setCell ⟨w.heap.size, i * 5 + 1, none⟩ (.int .i64 x)).setCell ⟨w.heap.size, i * 5 + 2, none⟩ (.int .i64 x)).ownsRow w.heap.size 46 5 (.slice (some ⟨w.heap.size, 0, none⟩) n n) n (flat (rowM (allM U D i) (D i) i (0 + 1)) n)) := Lib.hid (by
                  have h2 := s2.1
                  have e1 := flat_set (rowM (allM U D i) (D i) i 0) n i 2 (some x) hin (by omega) (by omega)
                  have e2 := flat_set (upd (rowM (allM U D i) (D i) i 0) 2 i (some x)) n i 3 (some x) hin (by omega) (by omega)
                  have e3 : rowM (allM U D i) (D i) i (0 + 1) = upd (upd (rowM (allM U D i) (D i) i 0) 2 i (some x)) 3 i (some x) := by
                    conv => lhs; unfold rowM
                    simp only [if_true, hx]
                  rw [e3, ← e2, ← e1]
                  exact h2)
                have HBB := Lib.hid ((HB.out.setCell (p := ⟨w.heap.size, i * 5 + 1, none⟩) (Nat.le_refl _) (.int .i64 x)).setCell (p := ⟨w.heap.size, i * 5 + 2, none⟩) (Nat.le_refl _) (.int .i64 x))
                have hx0 := Lib.hid hx
                clear s1 s2 kk ff hx hxe
                go_wp2
                go_roundw
                case rel => exact ⟨0 + 1, by omega, by go_num, HS, HBB⟩
                case measure => simp [intOf]; omega
              | succ k =>
                have hkl1 : k < (D i).length := by omega
                obtain ⟨gk', ek', -, cy⟩ := kid_at (HFr.out.row i hin) hkl1
                have hy : (D i)[k]? = some (D i)[k] := List.getElem?_eq_getElem hkl1
                have hyn := HD.out i k _ hin hy
                obtain ⟨y, hye⟩ : ∃ y, y = (D i)[k] := ⟨_, rfl⟩
                rw [← hye] at cy hy hyn
                rw [ek] at ek'
                injection ek' with ek'; injection ek' with ek'; subst ek'
                have hyn' : (y : Int) < n := by omega
                have hkl1' : (k : Int) < (D i).length := by omega
                obtain ⟨v4, p4⟩ := kk (y * 5 + 4) (by omega)
                have q4 := ff (y * 5 + 4)
                have s1 := HO.out.stored (x * 5 + 3) (.int .i64 y)
                have s2 := s1.1.stored (y * 5 + 4) (.int .i64 x)
                have s3 := s2.1.stored (i * 5 + 2) (.int .i64 x)
                have HS : Hid ((((wr.setCell ⟨w.heap.size, x * 5 + 3, none⟩ (.int .i64 y)).setCell ⟨w.heap.size, y * 5 + 4, none⟩ (.int .i64 x)).setCell ⟨w.heap.size, i * 5 + 2, none⟩ (.int .i64 x)).ownsRow w.heap.size 46 5 (.slice (some ⟨w.heap.size, 0, none⟩) n n) n (flat (rowM (allM U D i) (D i) i (k + 1 + 1)) n)) := Lib.hid (by
                  have h3 := s3.1
                  have e1 := flat_set (rowM (allM U D i) (D i) i (k + 1)) n x 4 (some y) hxn (by omega) (by omega)
                  have e2 := flat_set (upd (rowM (allM U D i) (D i) i (k + 1)) 4 x (some y)) n y 5 (some x) hyn (by omega) (by omega)
                  have e3 := flat_set (upd (upd (rowM (allM U D i) (D i) i (k + 1)) 4 x (some y)) 5 y (some x)) n i 3 (some x) hin (by omega) (by omega)
                  have e4 : rowM (allM U D i) (D i) i (k + 1 + 1) = upd (upd (upd (rowM (allM U D i) (D i) i (k + 1)) 4 x (some y)) 5 y (some x)) 3 i (some x) := by
                    conv => lhs; unfold rowM
                    rw [if_neg (by omega)]
                    simp only [hx, Nat.add_sub_cancel, hy, Option.getD_some]
                  rw [e4, ← e3, ← e2, ← e1]
                  exact h3)
                have HBB := Lib.hid (((HB.out.setCell (p := ⟨w.heap.size, x * 5 + 3, none⟩) (Nat.le_refl _) (.int .i64 y)).setCell (p := ⟨w.heap.size, y * 5 + 4, none⟩) (Nat.le_refl _) (.int .i64 x)).setCell (p := ⟨w.heap.size, i * 5 + 2, none⟩) (Nat.le_refl _) (.int .i64 x))
                have z1 : x * 5 + 3 ≠ y * 5 + 4 := by omega
                have z2 : y * 5 + 4 ≠ i * 5 + 2 := by omega
                have z3 : x * 5 + 3 ≠ i * 5 + 2 := by omega
                clear s1 s2 s3 kk ff hx hxe hy hye
                go_wp2
                go_roundw
                case rel => exact ⟨k + 1 + 1, by omega, by go_num, HS, HBB⟩
                case measure => simp [intOf]; omega
            · obtain rfl : k = (D i).length := by omega
              clear kk ff
              go_wp2
              go_roundw
              case rel => exact ⟨i + 1, by omega, by go_num, HO, HB⟩
              case measure => simp [intOf]; omega
        · obtain rfl : i = n := by omega
          go_wp2
          go_ret
          exact ⟨⟨_, _, rfl, HO.out⟩, HB.out⟩
end Go.Proofs.Ytkcccajiplchpaa
