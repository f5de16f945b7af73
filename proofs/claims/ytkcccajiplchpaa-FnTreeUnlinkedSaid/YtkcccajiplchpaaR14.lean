/- Forests: are neighbours equal; the example. -/
import Derived.Test.YtkcccajiplchpaaR13
namespace Go.Proofs.Ytkcccajiplchpaa
open Go.RowKit
set_option linter.unusedVariables false

/-- A slice of neighbours reads so. -/
def LR (w : World) (A : Option Addr) (n c : Nat) (L : Lk) : Prop := n ≤ c ∧ (0 < n → ∃ g, A = some ⟨g, 0, none⟩ ∧ ∀ i j, i < n → j < 5 → w.cell? ⟨g, i * 5 + j, none⟩ = (five L i)[j]?)
theorem LR.of {w : World} {B : Nat} {e : TypeId} {A : Option Addr} {n c : Nat} {L : Lk} (h : w.ownsRow B e 5 (.slice A n c) n (flat L n)) : LR w A n c L := by
  rcases h.2 with ⟨hv, h0⟩ | ⟨g, cap, cur, hv, hb, hg, hnc, hcm, hcs, htake⟩
  · injection hv with h1 h2 h3; subst h0 h3; exact ⟨Nat.le_refl _, fun h => by omega⟩
  · injection hv with h1 h2 h3
    subst h1 h3
    exact ⟨hnc, fun _ => ⟨g, rfl, fun i j hi hj => by rw [h.cellAt (i * 5 + j) (by omega), flat_at L n i j hi hj]⟩⟩
theorem LR.less {w : World} {A : Option Addr} {n m c : Nat} {L : Lk} (h : LR w A n c L) (hm : m ≤ n) : LR w A m c L :=
  ⟨Nat.le_trans hm h.1, fun h0 => by obtain ⟨g, e, hc⟩ := h.2 (by omega); exact ⟨g, e, fun i j hi hj => hc i j (by omega) hj⟩⟩
theorem LR.but {w w' : World} {A : Option Addr} {n c : Nat} {L : Lk} (h : LR w A n c L) (hb : Below w.heap.size w w') : LR w' A n c L :=
  ⟨h.1, fun h0 => by
    obtain ⟨g, e, hc⟩ := h.2 h0
    refine ⟨g, e, fun i j hi hj => ?_⟩
    have h1 := hc i j hi hj
    have hs : ((five L i)[j]?).isSome = true := by rw [five_at L i j hj]; rfl
    obtain ⟨v, hv⟩ := Option.isSome_iff_exists.1 hs
    rw [hv] at h1 ⊢
    exact (hb.cell (p := ⟨g, i * 5 + j, none⟩) (World.block_lt_of_cell? w ⟨g, i * 5 + j, none⟩ h1)).trans h1⟩
theorem LR.get {w : World} {A : Option Addr} {n c : Nat} {L : Lk} (h : LR w A n c L) {i : Nat} (hi : i < n) : ∃ g, A = some ⟨g, 0, none⟩ ∧ w.cell? ⟨g, i * 5, none⟩ = some (.int .i64 (idx (L 1 i))) ∧ w.cell? ⟨g, i * 5 + 1, none⟩ = some (.int .i64 (idx (L 2 i))) ∧ w.cell? ⟨g, i * 5 + 2, none⟩ = some (.int .i64 (idx (L 3 i))) ∧ w.cell? ⟨g, i * 5 + 3, none⟩ = some (.int .i64 (idx (L 4 i))) ∧ w.cell? ⟨g, i * 5 + 4, none⟩ = some (.int .i64 (idx (L 5 i))) := by
  obtain ⟨g, e, hc⟩ := h.2 (by omega)
  exact ⟨g, e, hc i 0 hi (by omega), hc i 1 hi (by omega), hc i 2 hi (by omega), hc i 3 hi (by omega), hc i 4 hi (by omega)⟩
theorem neq_links (a b c d e : Int) (w : World) : (binOp .neq 46 (.agg #[.int .i64 a, .int .i64 b, .int .i64 c, .int .i64 d, .int .i64 e]) (.agg #[.int .i64 a, .int .i64 b, .int .i64 c, .int .i64 d, .int .i64 e])).run Try.prog w = .ok (.bool false) w := by
  simp [go_sem]
set_option maxHeartbeats 1600000 in
theorem same_any (w : World) (A : Option Addr) (n c : Nat) (A' : Option Addr) (c' : Nat) (L : Lk) (h1 : LR w A n c L) (h2 : LR w A' n c' L) (hn : n ≤ 1000) :
    Calls Try.prog 9 #[.slice A n c, .slice A' n c'] w fun e w' => e = .returned (.bool true) ∧ ∃ m, w' = w.drewN m := by
  have H1 := Lib.hid h1; have H2 := Lib.hid h2
  have hl1 := h1.1; have hl2 := h2.1
  have hnq := neq_links
  clear h1 h2
  go_enter Try.func9, Try.ntmps9
  go_wp2_with fail
  go_loopw [13, 4] (fun iv rv wr => ∃ (i m : Nat), i ≤ n ∧ iv = .int .i64 i ∧ rv = .bool false ∧ wr = w.drewN m) (fun iv _ _ => n - (intOf iv).toNat)
  case atStart => exact ⟨0, 0, by omega, rfl, rfl, rfl⟩
  case round =>
    obtain ⟨i, m, hi, rfl, rfl, rfl⟩ := hrel
    by_cases hin : i < n
    · obtain ⟨g, rfl, p0, p1, p2, p3, p4⟩ := H1.out.get hin
      obtain ⟨g', rfl, q0, q1, q2, q3, q4⟩ := H2.out.get hin
      have hin' : (i : Int) < n := by omega
      go_wp2_with fail
      go_quiet (fail)
      go_wp2
      go_roundw
      case rel => exact ⟨i + 1, _, by omega, by go_num, rfl, rfl⟩
      case measure => simp [intOf]; omega
    · obtain rfl : i = n := by omega
      go_wp2
      go_ret
      exact ⟨rfl, m, rfl⟩

/-! The example. -/
def aO : Nat → Int := fun i => if i = 2 then 1 else 0
def aA : Nat → Int := fun i => if i = 1 then 4 else 0
def aB : Nat → Int := fun i => if i = 2 then 1 else 0
theorem awake_ok : ∀ i, i < 3 → okS (st aO aA aB i) (aO i) (aA i) (aB i) := fun i hi => by
  have : i = 0 ∨ i = 1 ∨ i = 2 := by omega
  rcases this with rfl | rfl | rfl
  · exact .inl rfl
  · exact .inl rfl
  · exact .inr (.inl ⟨rfl, 0, 1, rfl, rfl, by decide, by decide⟩)
theorem awake_n : (st aO aA aB 3).1 = 2 := by decide
theorem awake_l : idx ((st aO aA aB 3).2 1 0) = -1 ∧ idx ((st aO aA aB 3).2 2 0) = 1 ∧ idx ((st aO aA aB 3).2 3 0) = 1 ∧ idx ((st aO aA aB 3).2 4 0) = -1 ∧ idx ((st aO aA aB 3).2 5 0) = -1 ∧ idx ((st aO aA aB 3).2 1 1) = 0 := by decide
theorem eql_links (a b c d e : Int) (w : World) : (binOp .eql 42 (.agg #[.int .i64 a, .int .i64 b, .int .i64 c, .int .i64 d, .int .i64 e]) (.agg #[.int .i64 a, .int .i64 b, .int .i64 c, .int .i64 d, .int .i64 e])).run Try.prog w = .ok (.bool true) w := by
  simp [go_sem]
set_option maxHeartbeats 1600000 in
theorem awake_any (w : World) : Calls Try.prog 5 #[] w fun e w' => e = .returned (.bool true) ∧ Below w.heap.size w w' := by
  have hss : SS (w.alloc (.cells #[.int .i64 0, .int .i64 0, .int .i64 0, .int .i64 0, .int .i64 4, .int .i64 0, .int .i64 1, .int .i64 0, .int .i64 1] 31)) (w.alloc (.cells #[.int .i64 0, .int .i64 0, .int .i64 0, .int .i64 0, .int .i64 4, .int .i64 0, .int .i64 1, .int .i64 0, .int .i64 1] 31)).heap.size (some ⟨w.heap.size, 0, none⟩) 3 3 aO aA aB := by
    refine ⟨by omega, fun _ => ⟨w.heap.size, 0, rfl, by simp, fun j hj => ?_⟩⟩
    have : j = 0 ∨ j = 1 ∨ j = 2 := by omega
    rcases this with rfl | rfl | rfl <;> simp [go_sem, aO, aA, aB]
  have HB0 := Lib.hid ((Below.refl w.heap.size w).alloc (Nat.le_refl _) (.cells #[.int .i64 0, .int .i64 0, .int .i64 0, .int .i64 0, .int .i64 4, .int .i64 0, .int .i64 1, .int .i64 0, .int .i64 1] 31))
  have HS := Lib.hid hss
  have heq := eql_links
  clear hss
  go_enter Try.func5, Try.ntmps5
  go_wp2_with fail
  generalize w.alloc (.cells #[.int .i64 0, .int .i64 0, .int .i64 0, .int .i64 0, .int .i64 4, .int .i64 0, .int .i64 1, .int .i64 0, .int .i64 1] 31) = w1 at *
  refine (treeRun_any w1 _ 3 3 aO aA aB HS.out (by omega) awake_ok).mono ?_
  rintro e w2 ⟨OA, Oc, vs, rfl, hown, hrow, hb⟩
  obtain ⟨g, rfl, -, -, hOc, hcell, -⟩ := row_at hown (show 2 < 3 by omega)
  obtain ⟨v, hv, A2, c2, rfl, hl⟩ := hrow 2 (by omega)
  have k2 : w2.cell? ⟨g, 2, none⟩ = some (.slice A2 (st aO aA aB 3).1 c2) := by rw [hcell 2 (by omega)]; exact hv
  have hlr := LR.of hl
  rw [awake_n] at k2 hlr
  obtain ⟨g2, rfl, p0, p1, p2, p3, p4⟩ := hlr.get (show 0 < 2 by omega)
  obtain ⟨g3, e3, q0, -, -, -, -⟩ := hlr.get (show 1 < 2 by omega)
  injection e3 with e3; injection e3 with e3; subst e3
  obtain ⟨a1, a2, a3, a4, a5, a6⟩ := awake_l
  rw [a1] at p0; rw [a2] at p1; rw [a3] at p2; rw [a4] at p3; rw [a5] at p4; rw [a6] at q0
  simp only [Nat.zero_mul, Nat.zero_add, Nat.one_mul] at p0 p1 p2 p3 p4 q0
  have hc2 := hlr.1
  have HB2 := Lib.hid (HB0.out.trans ((hb.below (Nat.le_refl _)).mono HB0.out.size))
  clear hown hrow hb hcell hv hl hlr a1 a2 a3 a4 a5 a6
  go_wp2
  go_ret
  exact ⟨rfl, HB2.out⟩
end Go.Proofs.Ytkcccajiplchpaa
