/- Tables: the reference's text of a head. -/
import Derived.Test.YtaljhebalgipjaaGreatDoorH12
import Derived.Deep.Onto
namespace Go.Proofs.YtaljhebalgipjaaGreatDoor
open Go.RowKit
set_option linter.unusedVariables false

theorem zadd {X Y : List UInt8} (h : X.length + Y.length ≤ 2000) : ¬ 9223372036854775807 < (strL X).size + (strL Y).size := by rw [strL_size, strL_size]; omega
theorem zadd1 {X : List UInt8} (c : UInt8) (h : X.length ≤ 2000) : ¬ 9223372036854775807 < (strL X).size + (ByteArray.mk #[c]).size := by rw [strL_size]; simp [ByteArray.size]; omega
theorem zadd2 {X : List UInt8} (c : UInt8) (h : X.length ≤ 2000) : ¬ 9223372036854775807 < (ByteArray.mk #[c]).size + (strL X).size := by rw [strL_size]; simp [ByteArray.size]; omega
theorem sadd1 (X : List UInt8) (c : UInt8) : strL X ++ ByteArray.mk #[c] = strL (X ++ [c]) := strL_app X [c]
theorem sadd2 (X : List UInt8) (c : UInt8) : ByteArray.mk #[c] ++ strL X = strL ([c] ++ X) := strL_app [c] X
theorem colsL_len (al hy : Nat → Nat) (e : Bool) (nc : Nat) : ∀ k, (∀ j, j < k → hy j ≤ 20) → (colsL al hy e nc k).length ≤ k * 24
  | 0, _ => by simp [colsL]
  | k + 1, h => by
    have := colsL_len al hy e nc k (fun j hj => h j (by omega))
    have h1 := h k (by omega)
    rw [colsL, List.length_append]
    unfold colL barL c1L c2L spL
    simp only [List.length_append, List.length_replicate]
    have a1 : (if k > 0 then [(124 : UInt8)] else []).length ≤ 1 := by split <;> simp
    have a2 : (if al k % 2 = 1 then [(58 : UInt8)] else []).length ≤ 1 := by split <;> simp
    have a3 : (if 2 ≤ al k then [(58 : UInt8)] else []).length ≤ 1 := by split <;> simp
    have a4 : (if k + 1 < nc ∨ e = true then [(32 : UInt8)] else []).length ≤ 1 := by split <;> simp
    omega
theorem below_trans2 {B C : Nat} {a b c : World} (h : Below B a b) (g : Below C b c) (hC : B ≤ C) : Below B a c := ⟨g.os.trans h.os, g.tape.trans h.tape, g.output.trans h.output, Nat.le_trans h.size g.size, fun k hk => (g.block k (by omega)).trans (h.block k hk)⟩
set_option maxRecDepth 100000 in
set_option maxHeartbeats 4000000 in
theorem headText_any (w : World) (An : Option Addr) (n1 c1 : Nat) (g : Nat → ByteArray) (Aa : Option Addr) (c2 : Nat) (fa : Nat → Int) (Ah : Option Addr) (c3 : Nat) (fh : Nat → Int) (b e : Bool) (h : TL w An n1 c1 g Aa n1 c2 fa Ah n1 c3 fh) (hp : TabP n1 g n1 fa n1 fh)
    (al hy : Nat → Nat) (hal : ∀ j, fa j = al j) (hhy : ∀ j, fh j = hy j) :
    Calls Tryz.prog 7 #[.agg #[.slice An n1 c1, .slice Aa n1 c2, .slice Ah n1 c3, .bool b, .bool e]] w fun r w' =>
      ∃ A' c', r = .returned (.slice A' (headL (fun j => (g j).data.toList) al hy b e n1).length c') ∧ BRow w' w.heap.size A' c' (headL (fun j => (g j).data.toList) al hy b e n1) ∧ Below w.heap.size w w' := by
  obtain ⟨W, hW⟩ : ∃ W, W = w.alloc (.cells #[.slice An n1 c1, .slice Aa n1 c2, .slice Ah n1 c3, .bool b, .bool e] 25) := ⟨_, rfl⟩
  have HB : Hid (Below w.heap.size w W) := Lib.hid (by rw [hW]; exact (Below.refl w.heap.size w).alloc (Nat.le_refl _) _)
  have hL := h.below HB.out
  have hcell : ∀ k v, (#[Value.slice An n1 c1, .slice Aa n1 c2, .slice Ah n1 c3, .bool b, .bool e] : Array Value)[k]? = some v → W.cell? ⟨w.heap.size, k, none⟩ = some v := fun k v hk => by
    rw [cell_of_row W _ k _ _ _ (by rw [hW]; exact heap_alloc_new w _)]; exact hk
  obtain ⟨⟨k1, k2, -, -⟩, hq⟩ := hp
  obtain ⟨ba, oa, rfl, hBa, hca⟩ := hL.als.2.2.2 (by omega)
  obtain ⟨bh, oh, rfl, hBh, hch⟩ := hL.hys.2.2.2 (by omega)
  have x1 : W.cell? ⟨w.heap.size, 1, none⟩ = some (.slice (some ⟨ba, oa, none⟩) n1 c2) := hcell 1 _ rfl
  have x2 : W.cell? ⟨w.heap.size, 2, none⟩ = some (.slice (some ⟨bh, oh, none⟩) n1 c3) := hcell 2 _ rfl
  have x3 : W.cell? ⟨w.heap.size, 3, none⟩ = some (.bool b) := hcell 3 _ rfl
  have x4 : W.cell? ⟨w.heap.size, 4, none⟩ = some (.bool e) := hcell 4 _ rfl
  have x0 : W.cell? ⟨w.heap.size, 0, none⟩ = some (.slice An n1 c1) := hcell 0 _ rfl
  have HCA := Lib.hid hca
  have HCH := Lib.hid hch
  have HN := Lib.hid hL.names
  have HLine : Hid (∀ j, j < n1 → (g j).size ≤ 60) := Lib.hid fun j hj => (hq j hj).1.2.2
  have HA3 : Hid (∀ j, j < n1 → al j ≤ 3 ∧ hy j ≤ 20) := Lib.hid fun j hj => by
    have := (hq j hj).2
    rw [hal j, hhy j] at this; omega
  have HAL := Lib.hid hal
  have HHY := Lib.hid hhy
  obtain ⟨C, hC⟩ : ∃ C, C = colsL al hy e n1 := ⟨_, rfl⟩
  obtain ⟨J, hJ⟩ : ∃ J, J = joinL (fun j => (g j).data.toList) n1 := ⟨_, rfl⟩
  have HCL : Hid (∀ k, k ≤ n1 → (C k).length ≤ 192) := Lib.hid fun k hk => by
    have := colsL_len al hy e n1 k (fun j hj => (HA3.out j (by omega)).2)
    rw [hC]; omega
  have hJl : J.length ≤ 504 := by
    have := joinL_lens (fun j => (g j).data.toList) n1 (fun j hj => by have := HLine.out j hj; rw [str_len]; exact this)
    rw [hJ]; omega
  have HC := Lib.hid hC
  have HJ := Lib.hid hJ
  have HC0 : Hid (strL (C 0) = ByteArray.mk #[]) := Lib.hid (by rw [hC]; rfl)
  clear h hcell hca hch hL hq hal hhy hC
  go_enter Tryz.func7, Tryz.ntmps7
  go_upto_region 1 with fail
  rw [← hW]
  have HW : Hid (w.heap.size < W.heap.size) := Lib.hid (by rw [hW]; simp)
  have HX1 := Lib.hid x1
  have HX2 := Lib.hid x2
  have HX3 := Lib.hid x3
  have HX4 := Lib.hid x4
  clear hW
  go_wp2_with fail
  refine (joined_any W _ An n1 c1 g HN.out k2 HLine.out).mono ?_
  rintro r W ⟨rfl, rfl⟩
  rw [← hJ]
  clear hJ
  go_upto_block 0 with fail
  go_cut [4] (fun sv wx => sv = .string (strL (C n1)) ∧ Hid (Below W.heap.size W wx))
  case first =>
    go_wp2_with fail
    clear x0 x1 x2 x3 x4
    go_loopw [13, 4] (fun iv sv wr => ∃ i : Nat, i ≤ n1 ∧ iv = .int .i64 i ∧ sv = .string (strL (C i)) ∧ Hid (Below W.heap.size W wr)) (fun iv _ _ => n1 - (intOf iv).toNat)
    case atStart => exact ⟨0, by omega, rfl, by rw [HC0.out], Lib.hid (Below.refl _ _)⟩
    case round =>
      obtain ⟨i, hi, rfl, rfl, HBR⟩ := hrel
      by_cases hin : i < n1
      · have ca := (HBR.out.cell (p := ⟨ba, oa + i, none⟩) hBa).trans (HCA.out i hin)
        have ch := (HBR.out.cell (p := ⟨bh, oh + i, none⟩) hBh).trans (HCH.out i hin)
        have x1 := (HBR.out.cell (p := ⟨w.heap.size, 1, none⟩) HW.out).trans HX1.out
        have x2 := (HBR.out.cell (p := ⟨w.heap.size, 2, none⟩) HW.out).trans HX2.out
        have x4 := (HBR.out.cell (p := ⟨w.heap.size, 4, none⟩) HW.out).trans HX4.out
        rw [HAL.out i] at ca
        rw [HHY.out i] at ch
        have hin' : (i : Int) < n1 := by omega
        have hb3 := HA3.out i hin
        obtain ⟨x, hx⟩ : ∃ x, x = al i := ⟨_, rfl⟩
        obtain ⟨y, hy'⟩ : ∃ y, y = hy i := ⟨_, rfl⟩
        rw [← hx] at ca hb3
        rw [← hy'] at ch hb3
        have HCl := HCL.out i (by omega)
        have Hbar : Hid ((¬ 0 < i → barL i = []) ∧ (0 < i → barL i = [124])) := Lib.hid ⟨fun h => if_neg h, fun h => if_pos h⟩
        have Hc1 : Hid ((¬ x % 2 = 1 → c1L al i = []) ∧ (x % 2 = 1 → c1L al i = [58])) := Lib.hid (by rw [hx]; exact ⟨fun h => if_neg h, fun h => if_pos h⟩)
        have Hc2 : Hid ((¬ 2 ≤ x → c2L al i = []) ∧ (2 ≤ x → c2L al i = [58])) := Lib.hid (by rw [hx]; exact ⟨fun h => if_neg h, fun h => if_pos h⟩)
        have Hsp : Hid ((¬ (i + 1 < n1 ∨ e = true) → spL e n1 i = []) ∧ (i + 1 < n1 ∨ e = true → spL e n1 i = [32])) := Lib.hid ⟨fun h => if_neg h, fun h => if_pos h⟩
        have Hsucc : Hid (C (i + 1) = ((((C i ++ barL i) ++ c1L al i) ++ List.replicate y 45) ++ c2L al i) ++ spL e n1 i) := Lib.hid (by rw [HC.out, hy', colsL, colL]; simp only [List.append_assoc])
        clear hx hy'
        go_upto_if 19 with fail
        go_cut [4] (fun sv wx => ∃ l : List UInt8, sv = .string (strL l) ∧ Hid (l = C i ++ barL i ∧ l.length ≤ 193) ∧ wr = wx)
        case first =>
          by_cases h0 : 0 < i
          · have z := zadd1 (X := C i) 124 (by omega)
            have z1 := sadd1 (C i) 124
            have h0' : (0 : Int) < i := by omega
            go_wp2
            go_meet
            exact ⟨C i ++ [124], rfl, Lib.hid ⟨by rw [Hbar.out.2 h0], by rw [List.length_append]; simp; omega⟩, rfl⟩
          · have h0' : ¬ (0 : Int) < i := by omega
            go_wp2
            go_meet
            exact ⟨C i, rfl, Lib.hid ⟨by rw [Hbar.out.1 h0, List.append_nil], by omega⟩, rfl⟩
        case rest =>
          obtain ⟨l1, rfl, Hl1, rfl⟩ := hcut
          clear HCl
          have hl1 := Hl1.out.2
          have hT : ((x : Int).tmod 2) = ((x % 2 : Nat) : Int) := by rw [Int.tmod_eq_emod_of_nonneg (by omega)]; omega
          go_upto_if 28 with fail
          go_cut [4] (fun sv wx => ∃ l : List UInt8, sv = .string (strL l) ∧ Hid (l = l1 ++ c1L al i ∧ l.length ≤ 194) ∧ wr = wx)
          case first =>
            by_cases h1 : x % 2 = 1
            · have z := zadd1 (X := l1) 58 (by omega)
              have z1 := sadd1 l1 58
              have h1' : ((x % 2 : Nat) : Int) = 1 := by omega
              go_wp2
              go_meet
              exact ⟨l1 ++ [58], rfl, Lib.hid ⟨by rw [Hc1.out.2 h1], by rw [List.length_append]; simp; omega⟩, rfl⟩
            · have h1' : ¬ ((x % 2 : Nat) : Int) = 1 := by omega
              go_wp2
              go_meet
              exact ⟨l1, rfl, Lib.hid ⟨by rw [Hc1.out.1 h1, List.append_nil], by omega⟩, rfl⟩
          case rest =>
            obtain ⟨l2, rfl, Hl2, rfl⟩ := hcut
            clear hT hl1
            have hl2 := Hl2.out.2
            have hw := w64 (y : Int) (by omega) (by omega)
            go_upto_region 10 with fail
            refine (repeated_hy y _ hb3.2).mono ?_
            rintro r wq ⟨rfl, hwq⟩
            subst hwq
            have z3 : ¬ 9223372036854775807 < (strL l2).size + (strL (List.replicate y 45)).size := by rw [strL_size, strL_size, List.length_replicate]; omega
            have hl3 : (l2 ++ List.replicate y 45).length ≤ 214 := by rw [List.length_append, List.length_replicate]; omega
            have z4 := strL_app l2 (List.replicate y 45)
            obtain ⟨l3, hl3e⟩ : ∃ l, l = l2 ++ List.replicate y 45 := ⟨_, rfl⟩
            rw [← hl3e] at z4 hl3
            have Hl3 := Lib.hid hl3e
            clear hl3e hw hl2
            go_upto_if 41 with fail
            go_cut [4] (fun sv wx => ∃ l : List UInt8, sv = .string (strL l) ∧ Hid (l = l3 ++ c2L al i ∧ l.length ≤ 215) ∧ wq = wx)
            case first =>
              by_cases h1 : 2 ≤ x
              · have z := zadd1 (X := l3) 58 (by omega)
                have z1 := sadd1 l3 58
                have h1' : (2 : Int) ≤ x := by omega
                go_wp2
                go_meet
                exact ⟨l3 ++ [58], rfl, Lib.hid ⟨by rw [Hc2.out.2 h1], by rw [List.length_append]; simp; omega⟩, rfl⟩
              · have h1' : ¬ (2 : Int) ≤ x := by omega
                go_wp2
                go_meet
                exact ⟨l3, rfl, Lib.hid ⟨by rw [Hc2.out.1 h1, List.append_nil], by omega⟩, rfl⟩
            case rest =>
              obtain ⟨l4, rfl, Hl4, rfl⟩ := hcut
              clear z3 z4 hl3
              have hl4 := Hl4.out.2
              have e3 : ((n1 : Int) - 1) = ((n1 - 1 : Nat) : Int) := by omega
              have w3 := w64 ((n1 - 1 : Nat) : Int) (by omega) (by omega)
              have HS0 : Hid (¬ (i + 1 < n1 ∨ e = true) → strL l4 = strL (C (i + 1))) := Lib.hid fun h => by
                rw [Hsucc.out, Hsp.out.1 h, List.append_nil, Hl4.out.1, Hl3.out, Hl2.out.1, Hl1.out.1]
              have HS1 : Hid (i + 1 < n1 ∨ e = true → strL (l4 ++ [32]) = strL (C (i + 1))) := Lib.hid fun h => by
                rw [Hsucc.out, Hsp.out.2 h, Hl4.out.1, Hl3.out, Hl2.out.1, Hl1.out.1]
              clear Hsucc Hsp Hl4 Hl3 Hl2 Hl1 Hbar Hc1 Hc2
              have z := zadd1 (X := l4) 32 (by omega)
              have z1 := sadd1 l4 32
              by_cases h1 : i + 1 < n1
              · have h1' : (i : Int) < ((n1 - 1 : Nat) : Int) := by omega
                have E := HS1.out (.inl h1)
                go_wp2
                go_roundw
                case rel => exact ⟨i + 1, by omega, by go_num, rfl, HBR⟩
                case measure => simp [intOf]; omega
              · have h1' : ¬ (i : Int) < ((n1 - 1 : Nat) : Int) := by omega
                cases e with
                | true =>
                  have E := HS1.out (.inr rfl)
                  go_wp2
                  go_roundw
                  case rel => exact ⟨i + 1, by omega, by go_num, rfl, HBR⟩
                  case measure => simp [intOf]; omega
                | false =>
                  have E := Lib.hid (HS0.out (by rintro (h | h); exact h1 h; cases h))
                  go_wp2
                  go_roundw
                  case rel => exact ⟨i + 1, by omega, by go_num, by rw [E.out], HBR⟩
                  case measure => simp [intOf]; omega
      · obtain rfl : i = n1 := by omega
        go_wp2
        go_meet
        exact ⟨rfl, HBR⟩
  case rest =>
    obtain ⟨rfl, HBR⟩ := hcut
    rename World => w2
    have x3 := (HBR.out.cell (p := ⟨w.heap.size, 3, none⟩) HW.out).trans HX3.out
    have x4 := (HBR.out.cell (p := ⟨w.heap.size, 4, none⟩) HW.out).trans HX4.out
    have hCl := HCL.out n1 (by omega)
    clear hBa hBh
    obtain ⟨M, hM⟩ : ∃ M, M = C n1 := ⟨_, rfl⟩
    rw [← hM]
    rw [← hM] at hCl
    have HM := Lib.hid hM
    clear hM
    go_upto_if 58 with fail
    go_cut [3, 4] (fun ov uv wx => ∃ l k : List UInt8, ov = .string (strL l) ∧ uv = .string (strL k) ∧ Hid (l = pre b ++ J ∧ k = pre b ++ M ∧ l.length ≤ 505 ∧ k.length ≤ 193) ∧ w2 = wx)
    case first =>
      cases b with
      | true =>
        have z1 := zadd2 (X := J) 124 (by omega)
        have z2 := zadd2 (X := M) 124 (by omega)
        have z3 := sadd2 J 124
        have z4 := sadd2 M 124
        go_wp2
        go_meet
        exact ⟨[124] ++ J, [124] ++ M, rfl, rfl, Lib.hid ⟨rfl, rfl, by rw [List.length_append]; simp; omega, by rw [List.length_append]; simp; omega⟩, rfl⟩
      | false =>
        go_wp2
        go_meet
        exact ⟨J, M, rfl, rfl, Lib.hid ⟨rfl, rfl, by omega, by omega⟩, rfl⟩
    case rest =>
      obtain ⟨l1, k1', rfl, rfl, H1, rfl⟩ := hcut
      have hl1 := H1.out.2.2
      clear x3 hCl hJl
      go_upto_if 64 with fail
      go_cut [3, 4] (fun ov uv wx => ∃ l k : List UInt8, ov = .string (strL l) ∧ uv = .string (strL k) ∧ Hid (l = l1 ++ pre e ∧ k = k1' ++ pre e ∧ l.length ≤ 506 ∧ k.length ≤ 194) ∧ w2 = wx)
      case first =>
        cases e with
        | true =>
          have z1 := zadd1 (X := l1) 124 (by omega)
          have z2 := zadd1 (X := k1') 124 (by omega)
          have z3 := sadd1 l1 124
          have z4 := sadd1 k1' 124
          go_wp2
          go_meet
          exact ⟨l1 ++ [124], k1' ++ [124], rfl, rfl, Lib.hid ⟨rfl, rfl, by rw [List.length_append]; simp; omega, by rw [List.length_append]; simp; omega⟩, rfl⟩
        | false =>
          go_wp2
          go_meet
          exact ⟨l1, k1', rfl, rfl, Lib.hid ⟨by simp [pre], by simp [pre], by omega, by omega⟩, rfl⟩
      case rest =>
        obtain ⟨l2, k2', rfl, rfl, H2, rfl⟩ := hcut
        have hl2 := H2.out.2.2
        go_wp2_with fail
        obtain ⟨X, hX⟩ : ∃ X, X = w2.alloc (.cells #[.string (strL l2), .string (strL k2')] 9) := ⟨_, rfl⟩
        have hxs : X.heap.size = w2.heap.size + 1 := by rw [hX]; simp
        have HBX : Hid (Below W.heap.size W X) := Lib.hid (by rw [hX]; exact HBR.out.alloc HBR.out.size _)
        have hcell : ∀ k v, (#[Value.string (strL l2), Value.string (strL k2')] : Array Value)[k]? = some v → X.cell? ⟨w2.heap.size, k, none⟩ = some v := fun k v hk => by
          rw [cell_of_row X _ k _ _ _ (by rw [hX]; exact heap_alloc_new w2 _)]; exact hk
        have HD : Hid (docL (fun j => if j = 0 then strL l2 else strL k2') 2 = headL (fun j => (g j).data.toList) al hy b e n1) := Lib.hid (by
          unfold headL overL belowL
          simp only [docL, if_pos, if_neg (by decide : ¬ (1 = 0)), list_strL, H2.out.1, H2.out.2.1, H1.out.1, H1.out.2.1, HM.out, HJ.out, HC.out, List.append_assoc, List.nil_append])
        have hR : RS X X.heap.size (some ⟨w2.heap.size, 0, none⟩) 2 2 (fun j => if j = 0 then strL l2 else strL k2') :=
          ⟨by omega, fun _ => ⟨_, _, rfl, by omega, fun j hj => by
            rcases (by omega : j = 0 ∨ j = 1) with rfl | rfl
            · exact hcell 0 _ rfl
            · exact hcell 1 _ rfl⟩⟩
        rw [← hX]
        refine (docText_any X _ 2 2 _ hR (by omega) (fun j hj => ?_)).mono ?_
        · split <;> (rw [strL_size]; omega)
        rintro r w3 ⟨A', c', rfl, HO, hB3⟩
        have HO' := Lib.hid HO
        rw [HD.out]
        rw [HD.out] at HO
        have HRES : Hid (BRow w3 w.heap.size A' c' (headL (fun j => (g j).data.toList) al hy b e n1) ∧ Below w.heap.size w w3) := Lib.hid ⟨World.ownsRow.mono HO (by have := HBR.out.size; have := HW.out; omega), below_trans2 (below_trans2 HB.out HBX.out (by have := HW.out; omega)) hB3 (by have := HBR.out.size; have := HW.out; omega)⟩
        clear hB3 HO hR hcell hX hxs
        go_wp2
        go_ret
        exact ⟨A', c', rfl, HRES.out.1, HRES.out.2⟩
end Go.Proofs.YtaljhebalgipjaaGreatDoor
