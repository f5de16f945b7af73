/- Tables: the door. -/
import Derived.Test.YtaljhebalgipjaaGreatDoorH7
import Derived.Test.YtaljhebalgipjaaGreatDoorH10
namespace Go.Proofs.YtaljhebalgipjaaGreatDoor
open Go.RowKit
set_option linter.unusedVariables false

theorem cell_lt {w : World} {b k : Nat} {v : Value} (h : w.cell? ⟨b, k, none⟩ = some v) : b < w.heap.size := by
  rcases Nat.lt_or_ge b w.heap.size with h1 | h1
  · exact h1
  · rw [World.cell?, Array.getElem?_eq_none h1] at h; simp at h
theorem Tryz.infoI : (Tryz.prog.info? 2).map (fun i => (i.zero, i.size, i.bytes)) = some (some (.int .i64 0), 1, 8) := by kernel_rfl
theorem But.ofBelow {T : TypeId → Prop} {B : Nat} {w w' : World} (h : Below w.heap.size w w') : But T B w w' :=
  ⟨h.os, h.tape, h.output, h.size, fun b o hb _ => (h.block b (Array.getElem?_eq_some_iff.1 hb).1).trans hb⟩
theorem Below.ofBut {T : TypeId → Prop} {B : Nat} {w w' : World} (h : But T B w w') (hB : B ≤ w.heap.size) : Below B w w' :=
  ⟨h.os, h.tape, h.output, h.size, fun k hk => by
    have hk' : k < w.heap.size := by omega
    rw [h.block k w.heap[k] (Array.getElem?_eq_getElem hk') (.inl hk), Array.getElem?_eq_getElem hk']⟩
theorem below_trans {B C : Nat} {a b c : World} (h : Below B a b) (g : Below C b c) (hC : B ≤ C) : Below B a c :=
  ⟨g.os.trans h.os, g.tape.trans h.tape, g.output.trans h.output, Nat.le_trans h.size g.size, fun k hk => (g.block k (by omega)).trans (h.block k hk)⟩
set_option maxHeartbeats 1600000 in
theorem door_any (w : World) (B pb : Nat) (nb : Nat → Nat) (n : Nat) (L : Lk) (ty : Nat → Int) (k0 : Nat) (hS : SP w B pb nb n L ty k0) (h0 : ty k0 = 0) (hB : B ≤ w.heap.size)
    (A : Option Addr) (N c : Nat) (f : Nat → Int) (hD : DT w A N c f) (hr : ∀ j, 0 ≤ f j ∧ f j ≤ 255) (hN : N ≤ 100000) (E : Nat) (b e : Bool) (nc : Nat) (al hy s : Nat → Nat) (Z : Nat) (hT : TB f N E b e nc al hy s Z) :
    Calls Tryz.prog 21 #[.pointer (some ⟨pb, 0, none⟩), .slice A N c] w fun r w' =>
      ∃ cb, r = .returned (.tuple #[.int .i64 ((Z + 1 : Nat) : Int), .slice (some ⟨cb, 0, none⟩) nc nc]) ∧ CR w' B cb nc (fun j => al j) ∧ But kindC B w w' := by
  have HC := Lib.hid (tableHeader_any w B pb nb n L ty k0 hS h0 hB A N c f hD hr hN E b e nc al hy s Z hT)
  clear hS h0 hD hr hT
  go_enter Tryz.func21, Tryz.ntmps21
  go_wp2_with fail
  refine HC.out.mono ?_
  rintro r w' ⟨cb, rfl, h1, h2⟩
  have H1 := Lib.hid h1
  have H2 := Lib.hid h2
  clear h1 h2
  go_wp2
  go_ret2
  exact ⟨cb, rfl, H1.out, H2.out⟩
set_option maxRecDepth 100000 in
set_option maxHeartbeats 4000000 in
theorem tableHead_any (w : World) (A : Option Addr) (N c : Nat) (f : Nat → Int) (h : RB w w.heap.size A N c f) (hN : N ≤ 100000) (E : Nat) (b e : Bool) (nc : Nat) (al hy s : Nat → Nat) (Z : Nat) (hT : TB f N E b e nc al hy s Z) :
    Calls Tryz.prog 8 #[.slice A N c] w fun r w' =>
      ∃ A' c', r = .returned (.tuple #[.int .i64 ((Z + 1 : Nat) : Int), .slice A' nc c']) ∧ w'.ownsRow w.heap.size 2 1 (.slice A' nc c') nc ((List.range nc).map fun j => .int .i64 (al j)) ∧ Below w.heap.size w w' := by
  obtain ⟨i0, hi, hz0, hz1, hz2⟩ := info_parts Tryz.infoI
  have hZN := hT.ZN
  have hnc := hT.nc2
  have HT := Lib.hid hT
  have HR := Lib.hid h
  clear hT h
  have hne : ¬ ((N : Int) = 0) := by omega
  go_enter Tryz.func8, Tryz.ntmps8
  go_wp2_with fail
  refine (parser_sp w).mono ?_
  rintro r w1 ⟨⟨pb, nb, L, ty, rfl, hsp, h0⟩, hb1⟩
  have HSP := Lib.hid hsp
  have HT0 := Lib.hid h0
  have HB1 := Lib.hid hb1
  have hsz1 := hb1.size
  clear hsp h0 hb1
  go_wp2_with fail
  refine (own_any A N c f w1 ((HR.out.below HB1.out).more hsz1) (by omega)).mono ?_
  rintro r w2 ⟨A2, c2, rfl, hcp, hb2⟩
  have hS2 : SP w2 w.heap.size pb nb 1 L ty 0 := HSP.out.but (But.ofBelow (T := fun _ => False) (B := 0) hb2) (fun _ h => h.elim)
  have HS2 := Lib.hid hS2
  have hsz2 : w.heap.size ≤ w2.heap.size := Nat.le_trans hsz1 hb2.size
  have HB2 := Lib.hid (below_trans HB1.out hb2 hsz1)
  have HD : Hid (DT w2 A2 N c2 f) := Lib.hid ⟨_, hcp.out.1⟩
  clear hS2 hb2 hcp
  go_wp2_with fail
  refine (door_any w2 w.heap.size pb nb 1 L ty 0 HS2.out HT0.out hsz2 A2 N c2 f HD.out HR.out.rng hN E b e nc al hy s Z HT.out).mono ?_
  rintro r w3 ⟨cb, rfl, hcr, hb3⟩
  have hsz3 : w.heap.size ≤ w3.heap.size := Nat.le_trans hsz2 hb3.size
  have HB3 := Lib.hid (below_trans HB2.out (Below.ofBut hb3 hsz2) (Nat.le_refl _))
  have hcb : cb < w3.heap.size := by
    have := (hcr.at (j := 0) (by omega)).1
    exact cell_lt this
  have HCell : Hid (∀ W, Below w3.heap.size w3 W → ∀ j, j < nc → W.cell? ⟨cb, j, none⟩ = some (.int .i64 (al j))) := Lib.hid fun W hW j hj => (hW.cell (p := ⟨cb, j, none⟩) hcb).trans (hcr.at hj).1
  clear hcr hb3
  go_wp2_with fail
  go_loopw [20, 3] (fun iv ov wr => ∃ (i : Nat) (A1 : Option Addr) (c1 : Nat), i ≤ nc ∧ iv = .int .i64 i ∧ ov = .slice A1 i c1 ∧ Hid (wr.ownsRow w3.heap.size 2 1 (.slice A1 i c1) i ((List.range i).map fun j => .int .i64 (al j))) ∧ Hid (Below w3.heap.size w3 wr)) (fun iv _ _ => nc - (intOf iv).toNat)
  case atStart => exact ⟨0, none, 0, by omega, rfl, rfl, Lib.hid (World.ownsRow_nil _ _ _ _), Lib.hid (Below.refl _ _)⟩
  case round =>
    obtain ⟨i, A1, c1, hi', rfl, rfl, HO, HB⟩ := hrel
    by_cases hin : i < nc
    · have ci := HCell.out wr HB.out i hin
      have hin' : (i : Int) < nc := by omega
      have hsz := HB.out.size
      go_wp2_with (at_builtin; refine wpList_app1 (.tmp 24) (.tmp 26) _ w3.heap.size 2 i0 (.int .i64 0) (.int .i64 (al i)) 8 wr _ _ _ _ HO.out rfl rfl Tryz.underlying28 hi hz0 hz1 hz2 rfl rfl rfl rfl (by omega) (by omega) hsz ?_; intro A2 c2 w4 hown2 hg2)
      have hb4 := Lib.hid (below_app HB.out HO.out (Nat.le_refl _) hsz hg2)
      have HO2 : Hid (w4.ownsRow w3.heap.size 2 1 (.slice A2 (i + 1) c2) (i + 1) ((List.range (i + 1)).map fun j => .int .i64 (al j))) := Lib.hid (by rw [List.range_succ, List.map_append]; exact hown2)
      clear hown2 hg2
      go_wp2
      go_roundw
      case rel => exact ⟨i + 1, A2, c2, by omega, by go_num, rfl, HO2, hb4⟩
      case measure => simp [intOf]; omega
    · obtain rfl : i = nc := by omega
      have HF : Hid (wr.ownsRow w.heap.size 2 1 (.slice A1 i c1) i ((List.range i).map fun j => .int .i64 (al j))) := Lib.hid ⟨HO.out.1, HO.out.2.imp id (fun ⟨g, cap, cur, hv, hb, rest⟩ => ⟨g, cap, cur, hv, Nat.le_trans hsz3 hb, rest⟩)⟩
      have HB4 := Lib.hid (below_trans HB3.out HB.out hsz3)
      go_wp2
      go_ret2
      exact ⟨A1, c1, rfl, HF.out, HB4.out⟩
end Go.Proofs.YtaljhebalgipjaaGreatDoor
