/- Punctuation: three dots. -/
import Derived.Test.YtghmbpogniopoaaDoorQ3
namespace Go.Proofs.YtghmbpogniopoaaDoor
open Go.RowKit
set_option linter.unusedVariables false

/-- The sign of three dots. -/
def dotsL : List Int := [38, 104, 101, 108, 108, 105, 112, 59]
def dotsF (j : Nat) : Int := dotsL.getD j 0
def dotsV : List Value := ((List.range 8).map dotsF).map (Value.int .u8)
theorem dots_rng : ∀ j, 0 ≤ dotsF j ∧ dotsF j ≤ 255 := fun j => by
  rcases Nat.lt_or_ge j 8 with h | h
  · have : j = 0 ∨ j = 1 ∨ j = 2 ∨ j = 3 ∨ j = 4 ∨ j = 5 ∨ j = 6 ∨ j = 7 := by omega
    rcases this with rfl | rfl | rfl | rfl | rfl | rfl | rfl | rfl <;> decide
  · unfold dotsF; rw [List.getD_eq_getElem?_getD, List.getElem?_eq_none (by simpa [dotsL] using h)]; decide
theorem dots_cells : Lib.byteCells (⟨#[38, 104, 101, 108, 108, 105, 112, 59]⟩ : ByteArray).data.toList = dotsV := rfl
theorem neqFun_w (q : Nat) (w : World) : (binOp .neq 41 (.func (.func 22) #[.pointer (some ⟨q, 0, none⟩)] #[]) .nilFunc).run Tryd.prog w = .ok (.bool true) w := by kernel_rfl
set_option maxHeartbeats 2000000 in
theorem period3 (q tb : Nat) (p : Int) (b off c : Nat) (w : World) (h3 : 3 ≤ c) (hc : ∀ j, j < 3 → w.cell? ⟨b, off + j, none⟩ = some (.int .u8 46)) (hf : Lib.IsBuffer 33 5 tb tb [] w) :
    Calls Tryd.prog 22 #[.pointer (some ⟨q, 0, none⟩), .pointer (some ⟨tb, 0, none⟩), .int .u8 p, .slice (some ⟨b, off, none⟩) 3 c] w fun e w' => e = .returned (.int .i64 2) ∧ Hid (Lib.IsBuffer 33 5 tb tb dotsV w') ∧ Below tb w w' := by
  have k0 := hc 0 (by omega)
  have k1 := hc 1 (by omega)
  have k2 := hc 2 (by omega)
  have HF := Lib.hid hf
  clear hc hf
  go_enter Tryd.func22, Tryd.ntmps22
  go_wp2_with fail
  refine (Tryd.Buffer_WriteString_k tb tb [] _ w HF.out (Nat.le_of_lt HF.out.lt) (by simp) (by decide)).mono ?_
  rintro e w1 ⟨rfl, hf1, hb1, -⟩
  go_wp2_with fail
  go_ret
  exact ⟨rfl, Lib.hid hf1, hb1⟩
theorem bytes8 (B : Nat) (w1 : World) (h : Lib.IsBuffer 33 5 B B dotsV w1) (k : Nat) :
    Calls Tryd.prog 14 #[.pointer (some ⟨B, 0, none⟩)] (w1.drewN k) fun e w' => ∃ g c, e = .returned (.slice (some ⟨g, 0, none⟩) 8 c) ∧ B ≤ g ∧ (∀ j v, dotsV[j]? = some v → w1.cell? (Addr.add ⟨g, 0, none⟩ j) = some v) ∧ ∃ n, w' = (w1.drewN k).drewN n := by
  refine (Tryd.Buffer_Bytes B B _ (w1.drewN k) (h.drewN k)).mono ?_
  rintro e w2 ⟨v, rfl, hown, n, rfl⟩
  rcases hown.2 with ⟨_, h0⟩ | ⟨g, cap, cur, rfl, hb, hg, _⟩
  · exact absurd h0 (by decide)
  · exact ⟨g, cap, rfl, hb, fun j v hj => (hown.cells (g := g) rfl j v hj : _), n, rfl⟩
theorem write8 (B ob : Nat) (w1 : World) (hoB : ob < B) (h : Lib.IsBuffer 33 5 ob ob [] w1) (k g c : Nat) (hg : B ≤ g) (hc : ∀ j v, dotsV[j]? = some v → w1.cell? (Addr.add ⟨g, 0, none⟩ j) = some v) :
    Calls Tryd.prog 36 #[.pointer (some ⟨ob, 0, none⟩), .slice (some ⟨g, 0, none⟩) 8 c] (w1.drewN k) fun e w' => e = .returned (.tuple #[.int .i64 8, .nilIface]) ∧ Hid (Lib.IsBuffer 33 5 ob ob dotsV w') ∧ Below ob (w1.drewN k) w' := by
  refine (Tryd.Buffer_Write_any ob ob [] dotsV ⟨g, 0, none⟩ 8 c (w1.drewN k) (h.drewN k) (Nat.le_of_lt h.lt) (by simp) (by simp [dotsV]) (by show g ≠ ob; omega) hc (by simp [dotsV, Value.oneCell']) (by simp)).mono ?_
  rintro e w2 ⟨rfl, h1, h2, -⟩
  exact ⟨rfl, Lib.hid h1, h2⟩
set_option maxHeartbeats 4000000 in
set_option maxRecDepth 100000 in
theorem dots_wrote (x : Int) : Wrote x 3 (fun _ => 46) 8 dotsF := by
  intro q ob am A cap w hT hA hR hb hne hoq
  have HH := Lib.hid hR; have HT := Lib.hid hT; have HB := Lib.hid hb
  obtain ⟨b, off, rfl, hbB, hcell⟩ := hR.2.2.2 (by omega)
  have hcap := hR.cap
  have hbo : ob < b := hne _ rfl
  have hmx := hR.2.1
  have kt : w.cell? ⟨q, 48, none⟩ = some (.func (.func 22) #[.pointer (some ⟨q, 0, none⟩)] #[]) := hT.cell 46 (by omega)
  have c0 : w.cell? ⟨b, off, none⟩ = some (.int .u8 46) := hcell 0 (by omega)
  have HC := Lib.hid hcell
  have hoL : ob < w.heap.size := hb.lt
  clear hR hT hb hne hA hcell
  have hna := nilAhead_w; have hme := method_w; have hnn := neqFun_w
  have hmf : ∀ (fn : Fn) (first cap : Array Value) (w : World), (Instr.makeFunc fn first cap).run Tryd.prog w = .ok (.func fn first cap) w := fun _ _ _ _ => rfl
  go_enter Tryd.func12, Tryd.ntmps12
  go_wp2_with fail
  go_loopw [6, 7] (fun mv iv wr => (mv = .int .i64 0 ∧ iv = .int .i64 0 ∧ wr = w) ∨ (mv = .int .i64 3 ∧ iv = .int .i64 3 ∧ Hid (Lib.IsBuffer 33 5 ob ob dotsV wr) ∧ Hid (Below ob w wr))) (fun _ iv _ => 3 - (intOf iv).toNat)
  case atStart => exact Or.inl ⟨rfl, rfl, rfl⟩
  case round =>
    rcases hrel with ⟨rfl, rfl, rfl⟩ | ⟨rfl, rfl, HO, HW⟩
    · go_wp2_with fail
      go_quiet (fail)
      have hfb := Lib.hid (Lib.fresh_isBuffer 33 5 (wr.drewN nq))
      go_wp2_with fail
      refine (period3 q wr.heap.size 0 b off cap _ hcap (fun j hj => ?_) hfb.out).mono ?_
      · have := HC.out j hj
        have hb2 : b < (wr.drewN nq).heap.size := hbB
        rw [show ((wr.drewN nq).alloc (Obj.cells #[Value.slice none 0 0, Value.int IntKind.i64 0, Value.int IntKind.i8 0] 33)).cell? ⟨b, off + j, none⟩ = (wr.drewN nq).cell? ⟨b, off + j, none⟩ from ((Below.refl _ (wr.drewN nq)).alloc (Nat.le_refl _) _).cell (p := ⟨b, off + j, none⟩) hb2]
        exact this
      rintro e w1 ⟨rfl, hf1, hb1⟩
      have HBW : Hid (Below wr.heap.size wr w1) := Lib.hid (((below_drewN wr.heap.size nq wr).alloc (Nat.le_refl _) _).trans hb1)
      have HOB := Lib.hid (HB.out.old HBW.out)
      have hs1 : wr.heap.size < w1.heap.size := by have := hb1.size; simp at this; omega
      have HBy := bytes8 wr.heap.size w1 hf1.out
      have HWr := write8 wr.heap.size ob w1 hoL HOB.out
      clear hb1
      go_wp2_with fail
      go_region_with (first
        | (go_at_call 14; refine (HBy _).mono ?_; rintro e w2 ⟨g, c8, rfl, hg8, hc8, k2, rfl⟩)
        | (go_at_call 36; refine (HWr _ _ _ hg8 hc8).mono ?_; rintro e w3 ⟨rfl, hf3, hb3⟩))
      all_goals
        go_wp2_with fail
        go_roundw
        case rel => exact Or.inr ⟨by go_num, by go_num, hf3, Lib.hid ((HBW.out.mono (Nat.le_of_lt hoL)).trans ((below_drewN _ _ _).trans hb3))⟩
        case measure => simp [intOf]
    · go_wp2_with fail
      go_end0
      exact ⟨rfl, HO, HW.out⟩
end Go.Proofs.YtghmbpogniopoaaDoor
