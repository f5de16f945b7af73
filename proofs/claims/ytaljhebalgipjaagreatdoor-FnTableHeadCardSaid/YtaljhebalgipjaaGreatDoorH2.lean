/- Tables: a block put behind the tip. -/
import Derived.Test.YtaljhebalgipjaaGreatDoorH1
import Derived.BigQuiet
import Derived.BigRegion
namespace Go.Proofs.YtaljhebalgipjaaGreatDoor
open Go.RowKit
set_option linter.unusedVariables false

theorem can_0_21 (b : Nat) (w : World) (h : w.cell? ⟨b, 0, none⟩ = some (.int .i64 0)) :
    Calls Tryz.prog 100 #[.pointer (some ⟨b, 0, none⟩), .int .i64 21] w fun e w' => e = .returned (.bool true) ∧ w' = w := by
  go_enter Tryz.func100, Tryz.ntmps100
  go_wp2
  go_ret
  exact ⟨rfl, rfl⟩
theorem can_21_23 (b : Nat) (w : World) (h : w.cell? ⟨b, 0, none⟩ = some (.int .i64 21)) :
    Calls Tryz.prog 100 #[.pointer (some ⟨b, 0, none⟩), .int .i64 23] w fun e w' => e = .returned (.bool true) ∧ w' = w := by
  go_enter Tryz.func100, Tryz.ntmps100
  go_wp2
  go_ret
  exact ⟨rfl, rfl⟩
theorem can_23_20 (b : Nat) (w : World) (h : w.cell? ⟨b, 0, none⟩ = some (.int .i64 23)) :
    Calls Tryz.prog 100 #[.pointer (some ⟨b, 0, none⟩), .int .i64 20] w fun e w' => e = .returned (.bool true) ∧ w' = w := by
  go_enter Tryz.func100, Tryz.ntmps100
  go_wp2
  go_ret
  exact ⟨rfl, rfl⟩
theorem can_20_20 (b : Nat) (w : World) (h : w.cell? ⟨b, 0, none⟩ = some (.int .i64 20)) :
    Calls Tryz.prog 100 #[.pointer (some ⟨b, 0, none⟩), .int .i64 20] w fun e w' => e = .returned (.bool false) ∧ w' = w := by
  go_enter Tryz.func100, Tryz.ntmps100
  go_wp2
  go_ret
  exact ⟨rfl, rfl⟩
/-- Which type may stand under which. -/
def under (y t : Int) : Prop := (y = 0 ∧ t = 21) ∨ (y = 21 ∧ t = 23) ∨ (y = 23 ∧ t = 20)
theorem can_under {y t : Int} (hu : under y t) (b : Nat) (w : World) (h : w.cell? ⟨b, 0, none⟩ = some (.int .i64 y)) :
    Calls Tryz.prog 100 #[.pointer (some ⟨b, 0, none⟩), .int .i64 t] w fun e w' => e = .returned (.bool true) ∧ w' = w := by
  rcases hu with ⟨rfl, rfl⟩ | ⟨rfl, rfl⟩ | ⟨rfl, rfl⟩
  · exact can_0_21 b w h
  · exact can_21_23 b w h
  · exact can_23_20 b w h

/-- The parser: its tip is node k. -/
structure SP (w : World) (B pb : Nat) (nb : Nat → Nat) (n : Nat) (L : Lk) (ty : Nat → Int) (k : Nat) : Prop where
  nodes : Nodes w B nb n L ty
  par : ∃ cs, w.heap[pb]? = some (.cells cs 72 (0, 0)) ∧ cs[265]? = some (.pointer (some ⟨nb k, 0, none⟩)) ∧ cs[268]? = some (.bool true)
  tip : k < n
  low : B ≤ pb
def kindM (e : TypeId) : Prop := e = 101 ∨ e = 72
theorem But.drewN {T : TypeId → Prop} {B : Nat} {a b : World} (h : But T B a b) (k : Nat) : But T B a (b.drewN k) := ⟨h.os, h.tape, h.output, h.size, h.block⟩
section
variable {w w' : World} {B pb : Nat} {nb : Nat → Nat} {n : Nat} {L : Lk} {ty : Nat → Int} {k : Nat}
theorem SP.cells (h : SP w B pb nb n L ty k) : w.cell? ⟨pb, 265, none⟩ = some (.pointer (some ⟨nb k, 0, none⟩)) ∧ w.cell? ⟨pb, 268, none⟩ = some (.bool true) ∧ w.frozen? ⟨pb, 265, none⟩ = false := by
  obtain ⟨cs, hb, h1, h2⟩ := h.par
  refine ⟨by rw [cell_of_row w _ 265 cs _ _ hb]; exact h1, by rw [cell_of_row w _ 268 cs _ _ hb]; exact h2, ?_⟩
  simp [World.frozen?, hb]
theorem SP.nodesBut (h : SP w B pb nb n L ty k) {L' : Lk} (hN : Nodes w' B nb n L' ty) (hb : But (· = 101) B w w') : SP w' B pb nb n L' ty k := by
  obtain ⟨cs, h0, h1, h2⟩ := h.par
  exact ⟨hN, ⟨cs, hb.cell h0 (by decide), h1, h2⟩, h.tip, h.low⟩
theorem SP.drewN (h : SP w B pb nb n L ty k) (j : Nat) : SP (w.drewN j) B pb nb n L ty k := ⟨h.nodes.drewN j, h.par, h.tip, h.low⟩
theorem SP.but {T : TypeId → Prop} {C : Nat} (h : SP w B pb nb n L ty k) (hb : But T C w w') (hT : ∀ e, T e → ¬ kindM e) : SP w' B pb nb n L ty k := by
  obtain ⟨cs, h0, h1, h2⟩ := h.par
  exact ⟨h.nodes.but hb (fun e => hT _ e (.inl rfl)), ⟨cs, hb.cell h0 (fun e => hT _ e (.inr rfl)), h1, h2⟩, h.tip, h.low⟩
theorem SP.setTip (h : SP w B pb nb n L ty k) {j : Nat} (hj : j < n) : SP (w.setCell ⟨pb, 265, none⟩ (.pointer (some ⟨nb j, 0, none⟩))) B pb nb n L ty j ∧ But kindM B w (w.setCell ⟨pb, 265, none⟩ (.pointer (some ⟨nb j, 0, none⟩))) := by
  obtain ⟨cs, h0, h1, h2⟩ := h.par
  have hb : But (· = 72) B w (w.setCell ⟨pb, 265, none⟩ (.pointer (some ⟨nb j, 0, none⟩))) := But.setCell (T := (· = 72)) h0 rfl h.low _
  refine ⟨⟨h.nodes.but hb (by decide), ⟨_, heap_set_same 265 _ h0, ?_, ?_⟩, hj, h.low⟩, hb.mono (fun e he => .inr he) (Nat.le_refl _)⟩
  · have hl := (Array.getElem?_eq_some_iff.1 h1).1
    simp [hl]
  · rw [Array.getElem?_setIfInBounds, if_neg (by omega)]; exact h2
end
set_option maxHeartbeats 2000000 in
theorem addExist_1 (w : World) (B pb : Nat) (nb : Nat → Nat) (n : Nat) (L : Lk) (ty : Nat → Int) (k m : Nat) (x : Int) (h : SP w B pb nb n L ty k) (hm : m < n) (hu : under (ty k) (ty m)) :
    Calls Tryz.prog 83 #[.pointer (some ⟨pb, 0, none⟩), .pointer (some ⟨nb m, 0, none⟩), .int .u32 x] w fun e w' =>
      e = .returned (.pointer (some ⟨nb m, 0, none⟩)) ∧ SP w' B pb nb n (appendL L k m) ty m ∧ But kindM B w w' := by
  obtain ⟨c0, c1, f0⟩ := h.cells
  have t1 := h.nodes.type hm
  have tk := h.nodes.type h.tip
  have hk := h.tip
  have HC := Lib.hid (fun W hW => can_under hu (nb k) W hW)
  have HS := Lib.hid h
  have HU := Lib.hid hu
  have HTK := Lib.hid tk
  clear h hu tk
  go_enter Tryz.func83, Tryz.ntmps83
  go_wp2_with fail
  refine wp_loop_rounds 1 ?_
  rw [rounds_succ]
  go_wp2_with fail
  go_quiet (first | (go_at_call 100; exact Calls.quiet_of_same (HC.out _ HTK.out)))
  go_wp2_with fail
  refine (append_any _ B nb n L ty k m (HS.out.nodes.drewN nq) hk hm).mono ?_
  rintro e w1 ⟨rfl, hN, hb⟩
  have hs := (HS.out.drewN nq).nodesBut hN hb
  have ht := hs.setTip hm
  obtain ⟨d0, d1, g0⟩ := hs.cells
  have HT := Lib.hid ht
  have HB : Hid (But kindM B w w1) := Lib.hid (((But.refl kindM B w).drewN nq).trans (hb.mono (fun e he => .inl he) (Nat.le_refl _)))
  clear hs ht hN hb
  go_wp2
  go_ret
  exact ⟨rfl, HT.out.1, HB.out.trans HT.out.2⟩

set_option maxHeartbeats 2000000 in
theorem finalize_any (w : World) (B pb : Nat) (nb : Nat → Nat) (n : Nat) (L : Lk) (ty : Nat → Int) (k r : Nat) (h : SP w B pb nb n L ty k) (hr : L 1 k = some r) :
    Calls Tryz.prog 82 #[.pointer (some ⟨pb, 0, none⟩), .pointer (some ⟨nb k, 0, none⟩)] w fun e w' =>
      e = .returned (.tuple #[]) ∧ SP w' B pb nb n L ty r ∧ But kindM B w w' := by
  have hk := h.tip
  have hrn := h.nodes.rng 1 k r (by omega) (by omega) hk hr
  obtain ⟨c1, _⟩ := h.nodes.cell hk (k := 1) (by omega) (by omega)
  rw [hr] at c1
  simp only [ptr, Option.map_some] at c1
  obtain ⟨⟨v, c28⟩, f28⟩ := h.nodes.there hk (k := 28) (by omega)
  have hf := h.nodes.far hk (k := 28) (by omega) (.bool false)
  have hs := h.nodesBut hf.1 hf.2
  have ht := hs.setTip hrn
  obtain ⟨d0, d1, g0⟩ := hs.cells
  have HT := Lib.hid (And.intro ht.1 ((hf.2.mono (fun e he => .inl he) (Nat.le_refl _)).trans ht.2))
  clear h hf hs ht
  go_enter Tryz.func82, Tryz.ntmps82
  go_wp2
  go_end0
  exact ⟨rfl, HT.out.1, HT.out.2⟩
set_option maxHeartbeats 2000000 in
theorem addExist_2 (w : World) (B pb : Nat) (nb : Nat → Nat) (n : Nat) (L : Lk) (ty : Nat → Int) (k m r : Nat) (x : Int) (h : SP w B pb nb n L ty k) (hm : m < n) (hr : L 1 k = some r) (hk20 : ty k = 20) (hm20 : ty m = 20) (hr23 : ty r = 23) :
    Calls Tryz.prog 83 #[.pointer (some ⟨pb, 0, none⟩), .pointer (some ⟨nb m, 0, none⟩), .int .u32 x] w fun e w' =>
      e = .returned (.pointer (some ⟨nb m, 0, none⟩)) ∧ SP w' B pb nb n (appendL L r m) ty m ∧ But kindM B w w' := by
  obtain ⟨c0, c1, f0⟩ := h.cells
  have t1 := h.nodes.type hm
  have tk := h.nodes.type h.tip
  have hk := h.tip
  have hrn := h.nodes.rng 1 k r (by omega) (by omega) hk hr
  rw [hm20] at t1
  rw [hk20] at tk
  have HS := Lib.hid h
  have HTK := Lib.hid tk
  have HR := Lib.hid hr
  have H1 := Lib.hid hm20
  have H2 := Lib.hid hr23
  clear h tk hr hk20 hm20 hr23
  go_enter Tryz.func83, Tryz.ntmps83
  go_wp2_with fail
  refine wp_loop_rounds 2 ?_
  rw [rounds_succ]
  go_wp2_with fail
  go_quiet (first | (go_at_call 100; exact Calls.quiet_of_same (can_20_20 (nb k) _ HTK.out)))
  go_wp2_with fail
  refine (finalize_any _ B pb nb n L ty k r (HS.out.drewN nq) HR.out).mono ?_
  rintro e w1 ⟨rfl, hs1, hb1⟩
  obtain ⟨d0, d1, g0⟩ := hs1.cells
  have u1 := hs1.nodes.type hm
  have ur := hs1.nodes.type hrn
  rw [H1.out] at u1
  rw [H2.out] at ur
  have HS1 := Lib.hid hs1
  have HUR := Lib.hid ur
  have HB1 : Hid (But kindM B w w1) := Lib.hid (((But.refl kindM B w).drewN nq).trans hb1)
  clear hs1 hb1 ur c0 c1 f0 t1
  go_wp2_with fail
  rw [rounds_succ]
  go_wp2_with fail
  go_quiet (first | (go_at_call 100; exact Calls.quiet_of_same (can_23_20 (nb r) _ HUR.out)))
  go_wp2_with fail
  refine (append_any _ B nb n L ty r m (HS1.out.nodes.drewN nq) hrn hm).mono ?_
  rintro e w2 ⟨rfl, hN, hb⟩
  have hs := (HS1.out.drewN nq).nodesBut hN hb
  have ht := hs.setTip hm
  obtain ⟨d0, d1, g0⟩ := hs.cells
  have HT := Lib.hid ht
  have HB : Hid (But kindM B w w2) := Lib.hid ((HB1.out.drewN nq).trans (hb.mono (fun e he => .inl he) (Nat.le_refl _)))
  clear hs ht hN hb
  go_wp2
  go_ret
  exact ⟨rfl, HT.out.1, HB.out.trans HT.out.2⟩
end Go.Proofs.YtaljhebalgipjaaGreatDoor
