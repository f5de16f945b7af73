/- Tables: a row of cells. -/
import Derived.Test.YtaljhebalgipjaaGreatDoorH3
import Derived.Deep.DeepCutAuto
import Derived.Deep.CutBlock
namespace Go.Proofs.YtaljhebalgipjaaGreatDoor
open Go.RowKit
set_option linter.unusedVariables false

theorem lnb {a b : Int} (h : a ≠ b) : (a != b) = true ∧ (a == b) = false := ⟨by simpa using h, by simpa using h⟩
theorem leb {a b : Int} (h : a = b) : (a != b) = false ∧ (a == b) = true := ⟨by simpa using h, by simpa using h⟩
set_option maxHeartbeats 1600000 in
theorem noEsc_any (w : World) (B : Nat) (A : Option Addr) (n c : Nat) (f : Nat → Int) (h : RB w B A n c f) (hn : n ≤ 100000) (i : Nat) (hi : i ≤ n) (hf : ∀ j, j + 1 = i → f j ≠ 92) :
    Calls Tryz.prog 30 #[.slice A n c, .int .i64 i] w fun e w' => e = .returned (.bool false) ∧ w' = w := by
  have hcap := h.cap
  rcases Nat.eq_zero_or_pos i with rfl | h0
  · clear h
    go_enter Tryz.func30, Tryz.ntmps30
    go_wp2_with fail
    refine wp_loop_rounds 1 ?_
    rw [rounds_succ]
    go_wp2
    go_ret
    exact ⟨rfl, rfl⟩
  · obtain ⟨k, rfl⟩ : ∃ k, i = k + 1 := ⟨i - 1, by omega⟩
    obtain ⟨b, off, rfl, hB, hc⟩ := h.2.2.2 (by omega)
    have ck := hc k (by omega)
    have hk := hf k rfl
    have e1 := (lnb hk).2
    have hkn : (k : Int) < n := by omega
    clear h hf hc
    go_enter Tryz.func30, Tryz.ntmps30
    go_wp2_with fail
    refine wp_loop_rounds 1 ?_
    rw [rounds_succ]
    go_wp2
    go_ret
    exact ⟨rfl, rfl⟩
set_option maxHeartbeats 1600000 in
theorem skip_here (w : World) (B : Nat) (A : Option Addr) (n c : Nat) (f : Nat → Int) (h : RB w B A n c f) (hn : n ≤ 100000) (i : Nat) (hi : i < n) (hf : f i ≠ 32) :
    Calls Tryz.prog 31 #[.slice A n c, .int .i64 i, .int .u8 32] w fun e w' => e = .returned (.int .i64 i) ∧ w' = w := by
  have hcap := h.cap
  obtain ⟨b, off, rfl, hB, hc⟩ := h.2.2.2 (by omega)
  have ck := hc i (by omega)
  have e1 := (lnb hf).2
  have hkn : (i : Int) < n := by omega
  clear h hf hc
  go_enter Tryz.func31, Tryz.ntmps31
  go_wp2_with fail
  refine wp_loop_rounds 1 ?_
  rw [rounds_succ]
  go_wp2
  go_ret
  exact ⟨rfl, rfl⟩

/-- An owned row of bytes. -/
def DT (w : World) (A : Option Addr) (n c : Nat) (f : Nat → Int) : Prop := ∃ B, w.ownsRow B 5 1 (.slice A n c) n (((List.range n).map f).map (Value.int .u8))
theorem row_kept {T : TypeId → Prop} {w w' : World} {B C : Nat} {e : TypeId} {size n c : Nat} {A : Option Addr} {xs : List Value} (h : w.ownsRow B e size (.slice A n c) n xs) (hb : But T C w w') (hT : ¬ T e) : w'.ownsRow B e size (.slice A n c) n xs := by
  refine ⟨h.1, ?_⟩
  rcases h.2 with h0 | ⟨g, cap, cur, hv, hb', hg, rest⟩
  · exact .inl h0
  · exact .inr ⟨g, cap, cur, hv, hb', hb.cell hg hT, rest⟩
theorem DT.but {w w' : World} {B : Nat} {A : Option Addr} {n c : Nat} {f : Nat → Int} (h : DT w A n c f) (hb : But kindM B w w') : DT w' A n c f := by
  obtain ⟨B', h⟩ := h
  exact ⟨B', row_kept h hb (by unfold kindM; decide)⟩
theorem DT.rb {w : World} {A : Option Addr} {n c : Nat} {f : Nat → Int} (h : DT w A n c f) (hr : ∀ j, 0 ≤ f j ∧ f j ≤ 255) : RB w w.heap.size A n c f := by
  obtain ⟨B, h⟩ := h
  have hl : ((List.range n).map f).length = n := by simp
  have h' : w.ownsRow B 5 1 (.slice A ((List.range n).map f).length c) ((List.range n).map f).length (((List.range n).map f).map (Value.int .u8)) := by rw [hl]; exact h
  have := RB.of_own h' (by intro x hx; simp only [List.mem_map, List.mem_range] at hx; obtain ⟨j, _, rfl⟩ := hx; exact hr j)
  rw [hl] at this
  exact this.same (fun j hj => by simp [hj]) hr
theorem RB.pre {w : World} {B : Nat} {A : Option Addr} {n m c : Nat} {f : Nat → Int} (h : RB w B A n c f) (hm : m ≤ n) : RB w B A m c f :=
  ⟨Nat.le_trans hm h.1, h.2.1, h.2.2.1, fun h0 => by
    obtain ⟨b, off, e, hB, hc⟩ := h.2.2.2 (by omega)
    exact ⟨b, off, e, hB, fun j hj => hc j (by omega)⟩⟩
/-- The columns' row. -/
def CT (w : World) (cb nc cc : Nat) (al : Nat → Int) : Prop := ∃ B, w.ownsRow B 51 1 (.slice (some ⟨cb, 0, none⟩) nc cc) nc ((List.range nc).map fun j => .int .i64 (al j))
theorem CT.but {w w' : World} {B : Nat} {cb nc cc : Nat} {al : Nat → Int} (h : CT w cb nc cc al) (hb : But kindM B w w') : CT w' cb nc cc al := by
  obtain ⟨B', h⟩ := h
  exact ⟨B', row_kept h hb (by unfold kindM; decide)⟩
theorem CT.at {w : World} {cb nc cc : Nat} {al : Nat → Int} (h : CT w cb nc cc al) {j : Nat} (hj : j < nc) : w.cell? ⟨cb, j, none⟩ = some (.int .i64 (al j)) := by
  obtain ⟨B, h⟩ := h
  rw [h.cellAt j (by omega)]; simp [hj]
/-- The tip of a row: the next cell goes below node q. -/
def RowTip (w : World) (B pb n : Nat) : Prop := ∃ nb L ty k q, SP w B pb nb n L ty k ∧ Goes nb L ty k q 20 ∧ ty q = 23 ∧ q < n
theorem NewB.rowTip {w w' : World} {B pb n : Nat} {ty : Nat → Int} {q b : Nat} (h : NewB w w' B pb n ty q 20 (.returned (.pointer (some ⟨b, 0, none⟩)))) (hq : ty q = 23) :
    RowTip w' B pb (n + 1) ∧ But kindM B w w' := by
  obtain ⟨b', nb', L', ty', he, hbn, hs, h1, h2, h3, h4, h5⟩ := h
  exact ⟨⟨nb', L', ty', n, q, hs, .inr ⟨h3, h1, rfl, by rw [h2 q h4]; exact hq⟩, by rw [h2 q h4]; exact hq, by omega⟩, h5⟩
end Go.Proofs.YtaljhebalgipjaaGreatDoor
