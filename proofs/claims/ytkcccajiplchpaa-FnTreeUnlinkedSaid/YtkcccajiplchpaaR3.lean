/- Nodes in memory: the number of a node; a step. -/
import Derived.Test.YtkcccajiplchpaaR2
import Derived.BigQuiet
import Derived.Deep.RegionWith
import Derived.LaidEqlPtr
namespace Go.Proofs.Ytkcccajiplchpaa
open Go.RowKit
set_option linter.unusedVariables false

theorem Try.infoP : (Try.prog.info? 49).map (fun i => (i.zero, i.size, i.bytes)) = some (some (.pointer none), 1, 8) := by kernel_rfl
/-- The list of all nodes. -/
def PRow (w : World) (B : Nat) (nb : Nat → Nat) (A : Option Addr) (n c : Nat) : Prop :=
  w.ownsRow B 49 1 (.slice A n c) n ((List.range n).map fun i => ptr nb (some i))
theorem PRow.at {w : World} {B : Nat} {nb : Nat → Nat} {A : Option Addr} {n c : Nat} (h : PRow w B nb A n c) {i : Nat} (hi : i < n) :
    ∃ g, A = some ⟨g, 0, none⟩ ∧ B ≤ g ∧ n ≤ c ∧ (∃ cs, w.heap[g]? = some (.cells cs 49 (0, 0))) ∧ ∀ j, j < n → w.cell? ⟨g, j, none⟩ = some (.pointer (some ⟨nb j, 0, none⟩)) := by
  rcases h.2 with ⟨hv, h0⟩ | ⟨g, cap, cur, hv, hb, hg, hnc, hcm, hcs, htake⟩
  · omega
  · injection hv with h1 h2 h3
    subst h1 h3
    refine ⟨g, rfl, hb, hnc, ⟨cur, hg⟩, fun j hj => ?_⟩
    have := h.cells (g := g) rfl j (ptr nb (some j)) (by simp [hj])
    rw [add_lit, Nat.zero_add] at this
    exact this
def idx : Option Nat → Int
  | none => -1
  | some j => j
theorem Try.sizeN : (Try.prog.info? 66).map (fun j => decide (j.size ≠ 0)) = some true := by kernel_rfl
/-- Is it node i? -/
theorem Nodes.eql {w : World} {B : Nat} {nb : Nat → Nat} {n : Nat} {L : Lk} (h : Nodes w B nb n L) {i : Nat} (hi : i < n) (v : Option Nat) (hv : ∀ j, v = some j → j < n) :
    (binOp .eql 49 (.pointer (some ⟨nb i, 0, none⟩)) (ptr nb v)).run Try.prog w = .ok (.bool (decide (v = some i))) w := by
  obtain ⟨j, hj, hjs⟩ := Option.map_eq_some_iff.1 Try.sizeN
  cases v with
  | none =>
    have := @run_eql_pointer_nil Try.prog w 49 (some ⟨nb i, 0, none⟩) rfl
    simpa [ptr] using this
  | some k =>
    by_cases e : k = i
    · subst e
      have := run_eql_ptr_same (P := Try.prog) w ⟨nb k, 0, none⟩ Try.underlying49 hj
      simpa [ptr] using this
    · obtain ⟨ca, ha, _⟩ := h.blk i hi
      obtain ⟨cb, hb, _⟩ := h.blk k (hv k rfl)
      have := run_eql_ptr_other (P := Try.prog) w (a := ⟨nb i, 0, none⟩) (b := ⟨nb k, 0, none⟩) Try.underlying49 hj (by simpa using hjs) (fun eq => e (h.inj k i (hv k rfl) hi (by injection eq with e1; exact e1.symm))) ha hb
      simpa [ptr, e] using this
set_option maxHeartbeats 4000000 in
theorem indexOf_any (w : World) (B : Nat) (nb : Nat → Nat) (n : Nat) (A : Option Addr) (c : Nat) (v : Option Nat) (h : PRow w B nb A n c) (L : Lk) (hN : Nodes w B nb n L) (hn : n ≤ 100000) (hv : ∀ j, v = some j → j < n) :
    Calls Try.prog 13 #[.slice A n c, ptr nb v] w fun e w' => e = .returned (.int .i64 (idx v)) ∧ w' = w := by
  have HP := Lib.hid h
  have HN := Lib.hid hN
  have HV := Lib.hid hv
  clear h hN hv
  have hgd : ∀ (op : BinOp) (t : TypeId) (a b : Operand) (v : Option Addr) (u : Value) (w : World), (eqGuard op t a b (.pointer v) u).run Try.prog w = .ok () w := by
    intro op t a b v u w; simp [eqGuard, go_sem]
  go_enter Try.func13, Try.ntmps13
  go_wp2_with fail
  go_loop [9, 4] (fun iv rv => ∃ i : Nat, i ≤ n ∧ iv = .int .i64 i ∧ rv = .int .i64 0 ∧ Hid (∀ j, j < i → v ≠ some j)) (fun iv rv => n - (intOf iv).toNat)
  case atStart => exact ⟨0, by omega, rfl, rfl, Lib.hid (fun j hj => by omega)⟩
  case round =>
    obtain ⟨i, hi, rfl, rfl, HJ⟩ := hrel
    by_cases hil : i < n
    · obtain ⟨g, rfl, hB, hnc, _, hc⟩ := HP.out.at hil
      have ci := hc i hil
      have hil' : (i : Int) < n := by omega
      clear hc
      have he := HN.out.eql hil v HV.out
      by_cases hvi : v = some i
      · rw [decide_eq_true hvi] at he
        have HVI := Lib.hid hvi
        clear hvi
        go_wp2
        go_ret
        exact ⟨by rw [HVI.out]; rfl, rfl⟩
      · rw [decide_eq_false hvi] at he
        have HJ' : ∀ j, j < i + 1 → v ≠ some j := fun j hj => by
          by_cases e : j = i
          · subst e; exact hvi
          · exact HJ.out j (by omega)
        have HJ2 := Lib.hid HJ'
        clear HJ' hvi
        go_wp2
        go_round
        case rel => exact ⟨i + 1, by omega, by go_num, rfl, HJ2⟩
        case measure => simp [intOf]; omega
    · obtain rfl : i = n := by omega
      have hvn : v = none := by
        cases v with
        | none => rfl
        | some j => exact absurd rfl (HJ.out j (HV.out j rfl))
      have HVN := Lib.hid hvn
      clear hvn
      go_wp2
      go_ret
      exact ⟨by rw [HVN.out]; rfl, rfl⟩
end Go.Proofs.Ytkcccajiplchpaa
