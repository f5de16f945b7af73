/- Lines: LineOf. -/
import Derived.Test.YtcelfpgkknfnhaaGreatDoorL15
import Derived.Test.YtcelfpgkknfnhaaGreatDoorB1
namespace Go.Proofs.YtcelfpgkknfnhaaGreatDoor
open Go.RowKit
set_option linter.unusedVariables false

theorem bcell {W w1 : World} {B : Nat} (hb : Below B W w1) : (∀ b o, b < B → w1.cell? ⟨b, o, none⟩ = W.cell? ⟨b, o, none⟩) ∧ (∀ b o, b < B → w1.frozen? ⟨b, o, none⟩ = W.frozen? ⟨b, o, none⟩) :=
  ⟨fun b o h => hb.cell (p := ⟨b, o, none⟩) h, fun b o h => hb.frozen (p := ⟨b, o, none⟩) h⟩
theorem cell_lt {w : World} {b o : Nat} {v : Value} (h : w.cell? ⟨b, o, none⟩ = some v) : b < w.heap.size := by
  rcases Nat.lt_or_ge b w.heap.size with e | e
  · exact e
  · simp [World.cell?, e] at h
def LineV (n le : Nat) (f : Nat → Int) (hb : Bool) : Value := .agg #[.int .i64 (emptyF n f), .bool (ruleF le f), .bool hb, .int .i64 (unF n f), .int .i64 (quoF n f), .int .i64 (codeF n f), .int .i64 (uliF n f), .int .i64 (numF n f), .int .i64 (dliF n f)]
def LineRet (x : Int) (n le : Nat) (f : Nat → Int) (e : Ending) : Prop := ∃ hb, e = .returned (LineV n le f hb) ∧ HeadOK x f hb
set_option maxHeartbeats 4000000 in
theorem lineOf_any (x : Int) (A : Option Addr) (n cap : Nat) (f : Nat → Int) (le : Nat) (w : World) (h : RB w w.heap.size A n cap f) (he : LEnd n f le) (h10 : f (n - 1) = 10) (hx0 : 0 ≤ x) (hx1 : x ≤ 131070) (hn0 : 0 < n) (hn : n ≤ 100000) :
    Calls Tryz.prog 9 #[.int .i64 x, .slice A n cap] w fun e w' => LineRet x n le f e ∧ Below w.heap.size w w' := by
  have HH := Lib.hid h
  have HE := Lib.hid he
  obtain ⟨b, off, rfl, hB, hcell⟩ := h.2.2.2 hn0
  have k0 := hcell (n - 1) (by omega)
  have a1 := (leb h10).1
  have e0 : ((n : Int) == 0) = false := by simp; omega
  clear h hcell he h10
  go_enter Tryz.func9, Tryz.ntmps9
  go_wp2_with fail
  refine (parser_e x _ hx0 hx1).mono ?_
  rintro e w1 ⟨⟨b0, rfl, hb0, hp⟩, hb1⟩
  go_wp2_with fail
  have hz1 : w.heap.size + 1 ≤ w1.heap.size := by have := hb1.size; simpa using this
  have R1 : RB w1 w1.heap.size (some ⟨b, off, none⟩) n cap f := ((HH.out.below ((Below.refl _ w).alloc (Nat.le_refl _) _)).below (hb1.mono (by simp))).more (by omega)
  have HR1 := Lib.hid R1
  clear R1
  refine (own_any _ n cap f w1 HR1.out (by omega)).mono ?_
  rintro e w2 ⟨A2, c2, rfl, HC2, hb2⟩
  have HR2 := Lib.hid HC2.out.2.1
  have hz2 := hb2.size
  have hp2 : w2.cell? ⟨b0, 259, none⟩ = some (.int .i64 x) := (hb2.cell (p := ⟨b0, 259, none⟩) (cell_lt hp)).trans hp
  have hlt : w.heap.size < w1.heap.size := by omega
  have q0 : w2.cell? ⟨w.heap.size, 0, none⟩ = some (.int .i64 0) := (hb2.cell (p := ⟨w.heap.size, 0, none⟩) hlt).trans ((hb1.cell (p := ⟨w.heap.size, 0, none⟩) (by simp)).trans (by simp [go_sem]))
  have g0 : w2.frozen? ⟨w.heap.size, 0, none⟩ = false := (hb2.frozen (p := ⟨w.heap.size, 0, none⟩) hlt).trans ((hb1.frozen (p := ⟨w.heap.size, 0, none⟩) (by simp)).trans (by simp [go_sem]))
  have q1 : w2.cell? ⟨w.heap.size, 1, none⟩ = some (.bool false) := (hb2.cell (p := ⟨w.heap.size, 1, none⟩) hlt).trans ((hb1.cell (p := ⟨w.heap.size, 1, none⟩) (by simp)).trans (by simp [go_sem]))
  have g1 : w2.frozen? ⟨w.heap.size, 1, none⟩ = false := (hb2.frozen (p := ⟨w.heap.size, 1, none⟩) hlt).trans ((hb1.frozen (p := ⟨w.heap.size, 1, none⟩) (by simp)).trans (by simp [go_sem]))
  have q2 : w2.cell? ⟨w.heap.size, 2, none⟩ = some (.bool false) := (hb2.cell (p := ⟨w.heap.size, 2, none⟩) hlt).trans ((hb1.cell (p := ⟨w.heap.size, 2, none⟩) (by simp)).trans (by simp [go_sem]))
  have g2 : w2.frozen? ⟨w.heap.size, 2, none⟩ = false := (hb2.frozen (p := ⟨w.heap.size, 2, none⟩) hlt).trans ((hb1.frozen (p := ⟨w.heap.size, 2, none⟩) (by simp)).trans (by simp [go_sem]))
  have q3 : w2.cell? ⟨w.heap.size, 3, none⟩ = some (.int .i64 0) := (hb2.cell (p := ⟨w.heap.size, 3, none⟩) hlt).trans ((hb1.cell (p := ⟨w.heap.size, 3, none⟩) (by simp)).trans (by simp [go_sem]))
  have g3 : w2.frozen? ⟨w.heap.size, 3, none⟩ = false := (hb2.frozen (p := ⟨w.heap.size, 3, none⟩) hlt).trans ((hb1.frozen (p := ⟨w.heap.size, 3, none⟩) (by simp)).trans (by simp [go_sem]))
  have q4 : w2.cell? ⟨w.heap.size, 4, none⟩ = some (.int .i64 0) := (hb2.cell (p := ⟨w.heap.size, 4, none⟩) hlt).trans ((hb1.cell (p := ⟨w.heap.size, 4, none⟩) (by simp)).trans (by simp [go_sem]))
  have g4 : w2.frozen? ⟨w.heap.size, 4, none⟩ = false := (hb2.frozen (p := ⟨w.heap.size, 4, none⟩) hlt).trans ((hb1.frozen (p := ⟨w.heap.size, 4, none⟩) (by simp)).trans (by simp [go_sem]))
  have q5 : w2.cell? ⟨w.heap.size, 5, none⟩ = some (.int .i64 0) := (hb2.cell (p := ⟨w.heap.size, 5, none⟩) hlt).trans ((hb1.cell (p := ⟨w.heap.size, 5, none⟩) (by simp)).trans (by simp [go_sem]))
  have g5 : w2.frozen? ⟨w.heap.size, 5, none⟩ = false := (hb2.frozen (p := ⟨w.heap.size, 5, none⟩) hlt).trans ((hb1.frozen (p := ⟨w.heap.size, 5, none⟩) (by simp)).trans (by simp [go_sem]))
  have q6 : w2.cell? ⟨w.heap.size, 6, none⟩ = some (.int .i64 0) := (hb2.cell (p := ⟨w.heap.size, 6, none⟩) hlt).trans ((hb1.cell (p := ⟨w.heap.size, 6, none⟩) (by simp)).trans (by simp [go_sem]))
  have g6 : w2.frozen? ⟨w.heap.size, 6, none⟩ = false := (hb2.frozen (p := ⟨w.heap.size, 6, none⟩) hlt).trans ((hb1.frozen (p := ⟨w.heap.size, 6, none⟩) (by simp)).trans (by simp [go_sem]))
  have q7 : w2.cell? ⟨w.heap.size, 7, none⟩ = some (.int .i64 0) := (hb2.cell (p := ⟨w.heap.size, 7, none⟩) hlt).trans ((hb1.cell (p := ⟨w.heap.size, 7, none⟩) (by simp)).trans (by simp [go_sem]))
  have g7 : w2.frozen? ⟨w.heap.size, 7, none⟩ = false := (hb2.frozen (p := ⟨w.heap.size, 7, none⟩) hlt).trans ((hb1.frozen (p := ⟨w.heap.size, 7, none⟩) (by simp)).trans (by simp [go_sem]))
  have q8 : w2.cell? ⟨w.heap.size, 8, none⟩ = some (.int .i64 0) := (hb2.cell (p := ⟨w.heap.size, 8, none⟩) hlt).trans ((hb1.cell (p := ⟨w.heap.size, 8, none⟩) (by simp)).trans (by simp [go_sem]))
  have g8 : w2.frozen? ⟨w.heap.size, 8, none⟩ = false := (hb2.frozen (p := ⟨w.heap.size, 8, none⟩) hlt).trans ((hb1.frozen (p := ⟨w.heap.size, 8, none⟩) (by simp)).trans (by simp [go_sem]))
  have HB1 := Lib.hid hb1; have HB2 := Lib.hid hb2
  clear hb1 hb2
  clear hp
  have D1 := Lib.hid (doorIsEmpty b0 A2 n c2 f w2 _ HR2.out hn0 hn)
  have D2 := Lib.hid (doorIsRule b0 A2 n c2 f w2 _ HR2.out hn0 hn le HE.out)
  have D3 := Lib.hid (doorIsPrefixHeading b0 A2 n c2 f w2 _ HR2.out hn0 hn x hp2)
  have D4 := Lib.hid (doorIsUnderlinedHeading b0 A2 n c2 f w2 _ HR2.out hn0 hn)
  have D5 := Lib.hid (doorQuotePrefix b0 A2 n c2 f w2 _ HR2.out hn0 hn)
  have D6 := Lib.hid (doorCodePrefix b0 A2 n c2 f w2 _ HR2.out hn0 hn)
  have D7 := Lib.hid (doorBulletPrefix b0 A2 n c2 f w2 _ HR2.out hn0 hn)
  have D8 := Lib.hid (doorOrderedPrefix b0 A2 n c2 f w2 _ HR2.out hn0 hn)
  have D9 := Lib.hid (doorDefinitionPrefix b0 A2 n c2 f w2 _ HR2.out hn0 hn)
  clear hp2
  go_wp2_with fail
  refine D1.out.mono ?_
  rintro e w' ⟨rfl, rfl⟩
  go_wp2_with fail
  refine D2.out.mono ?_
  rintro e w' ⟨rfl, rfl⟩
  go_wp2_with fail
  refine D3.out.mono ?_
  rintro e w' ⟨⟨hb, rfl, hh⟩, rfl⟩
  have HOK := Lib.hid hh
  clear hh
  go_wp2_with fail
  refine D4.out.mono ?_
  rintro e w' ⟨rfl, rfl⟩
  go_wp2_with fail
  refine D5.out.mono ?_
  rintro e w' ⟨rfl, rfl⟩
  go_wp2_with fail
  refine D6.out.mono ?_
  rintro e w' ⟨rfl, rfl⟩
  go_wp2_with fail
  refine D7.out.mono ?_
  rintro e w' ⟨rfl, rfl⟩
  go_wp2_with fail
  refine D8.out.mono ?_
  rintro e w' ⟨rfl, rfl⟩
  go_wp2_with fail
  refine D9.out.mono ?_
  rintro e w' ⟨rfl, rfl⟩
  go_wp2_with fail
  refine bodyPost_ret (v := LineV n le f hb) (by unfold LineV; simp [results, Tryz.results9, go_sem, *]) rfl ⟨⟨hb, rfl, HOK.out⟩, ?_⟩
  have hbb := (((Below.refl w.heap.size w).alloc (Nat.le_refl _) _).trans (HB1.out.mono (by simp))).trans (HB2.out.mono (by omega))
  exact ((((((((hbb.setCell (Nat.le_refl _) _).setCell (Nat.le_refl _) _).setCell (Nat.le_refl _) _).setCell (Nat.le_refl _) _).setCell (Nat.le_refl _) _).setCell (Nat.le_refl _) _).setCell (Nat.le_refl _) _).setCell (Nat.le_refl _) _).setCell (Nat.le_refl _) _
end Go.Proofs.YtcelfpgkknfnhaaGreatDoor
