/- Ids made unique (the package): all of them. -/
import Derived.Test.YtfhpjcgflejgnaaDoorU7
namespace Go.Proofs.YtfhpjcgflejgnaaDoor
open Go.RowKit Go.Maps Go.WideShapes Go.WideMaps Go.ChangeMaps
set_option linter.unusedVariables false

theorem door_any (b mb n : Nat) (K : Ids) (s0 : ByteArray) (w : World) (h : MapOwn w mb n K) (hc : w.cell? ⟨b, 11, none⟩ = some (.map (some mb))) (hne : b ≠ mb) (hn : n ≤ 1000) (hB : Bd K 200 42) (hs : s0.size ≤ 200) :
    Calls Tryd.prog 8 #[.pointer (some ⟨b, 0, none⟩), .string s0] w fun e w' => ∃ K' r, e = .returned (.string r) ∧ Hid (Uq K s0 K' r ∧ MapOwn w' mb (n + 2) K') ∧ w.grownBy w' (some mb) := by
  have HA := Lib.hid (ensure_any b mb n K s0 w h hc hne hn hB hs)
  clear h hc hB
  go_enter Tryd.func8, Tryd.ntmps8
  go_wp2_with fail
  refine HA.out.mono ?_
  rintro e w' ⟨K', r, rfl, HU, hg⟩
  have HG := Lib.hid hg
  clear hg
  go_wp2_with fail
  go_ret
  exact ⟨K', r, rfl, HU, HG.out⟩
/-- The renderer with its map, the row of answers above both. -/
def RendI (w0 w1 w : World) (b mb n : Nat) (K : Ids) (A2 : Option Addr) (k c2 : Nat) (L : List ByteArray) : Prop :=
  MapOwn w mb n K ∧ w.cell? ⟨b, 11, none⟩ = some (.map (some mb)) ∧ w.ownsRow w1.heap.size 9 1 (.slice A2 k c2) k (L.map .string) ∧ Below w0.heap.size w0 w ∧ w1.heap.size ≤ w.heap.size
set_option maxHeartbeats 4000000 in
theorem uniqueImpl_any (A : Option Addr) (m c : Nat) (g : Nat → ByteArray) (w : World) (h : RS w w.heap.size A m c g) (hg : ∀ j, (g j).size ≤ 40) (hm : m ≤ 42) :
    Calls Tryd.prog 5 #[.slice A m c] w fun e w' => ∃ K L A1 c1, e = .returned (.slice A1 m c1) ∧ Hid (Uqs g m K L ∧ ∃ B, w'.ownsRow B 9 1 (.slice A1 m c1) m (L.map .string)) ∧ Below w.heap.size w w' := by
  obtain ⟨iS, hiS, hzS0, hzS1, hzS2⟩ := info_parts Tryd.infoS
  have HH := Lib.hid h; have HG := Lib.hid hg
  have hcap := h.1
  clear h hg
  go_enter Tryd.func5, Tryd.ntmps5
  go_wp2_with fail
  refine (newHTML_0 w).mono ?_
  rintro e w1 ⟨⟨b, mb, rfl, hcb, HO, hb1, hb2⟩, hbel⟩
  have HBel := Lib.hid hbel
  have hlt1 := World.block_lt_of_cell? w1 _ hcb
  have hlt2 := HO.out.lt
  have hbm : b ≠ mb := by
    intro e
    subst e
    obtain ⟨es, cl, hh, _⟩ := HO.out
    simp [World.cell?, hh] at hcb
  have HM0 : Hid (MapOwn w1 mb 0 []) := Lib.hid ⟨_, HO.out, MapIs.empty⟩
  have HR0 : Hid (RendI w w1 w1 b mb 0 [] none 0 0 []) := Lib.hid ⟨HM0.out, hcb, World.ownsRow_nil _ _ _ _, hbel, Nat.le_refl _⟩
  clear hbel hcb
  go_wp2_with fail
  go_loopw [4, 11] (fun ov iv wr => ∃ (k : Nat) (K : Ids) (L : List ByteArray) (A2 : Option Addr) (c2 : Nat), k ≤ m ∧ iv = .int .i64 k ∧ ov = .slice A2 k c2 ∧ Hid (Uqs g k K L) ∧ Hid (RendI w w1 wr b mb (2 * k) K A2 k c2 L)) (fun _ iv _ => m - (intOf iv).toNat)
  case atStart => exact ⟨0, [], [], none, 0, by omega, rfl, rfl, Lib.hid .zero, HR0⟩
  case round =>
    obtain ⟨k, K, L, A2, c2, hk, rfl, rfl, HU, HR⟩ := hrel
    obtain ⟨wo, hwo⟩ : ∃ wo : World, wo = wr := ⟨_, rfl⟩
    subst hwo
    obtain ⟨hKl, hLl, hbd⟩ := HU.out.bound HG.out
    by_cases hkm : k < m
    case neg =>
      obtain rfl : k = m := by omega
      clear hbd hKl hLl
      go_wp2_with fail
      go_ret
      exact ⟨K, L, A2, c2, rfl, Lib.hid ⟨HU.out, _, HR.out.2.2.1⟩, HR.out.2.2.2.1⟩
    have HB : Hid (Bd K 200 42) := Lib.hid (hbd.mono (by omega) (by omega))
    have HKL := Lib.hid hKl; have HLL := Lib.hid hLl
    clear hbd hKl hLl
    obtain ⟨bs, off, rfl, hbB, hcell⟩ := ((HH.out.below HR.out.2.2.2.1).2 (by omega))
    have kk := hcell k hkm
    clear hcell
    go_wp2_with fail
    refine (door_any b mb (2 * k) K (g k) wo HR.out.1 HR.out.2.1 hbm (by omega) HB.out (by have := HG.out k; omega)).mono ?_
    rintro e w2 ⟨K', r, rfl, HUM, hg2⟩
    have HG2 := Lib.hid hg2
    have hz2 : wo.heap.size ≤ w2.heap.size := hg2.size
    have hz1 : w1.heap.size ≤ wo.heap.size := HR.out.2.2.2.2
    have HOW : Hid (w2.ownsRow w1.heap.size 9 1 (.slice A2 k c2) k (L.map .string)) := Lib.hid (HR.out.2.2.1.kept hg2 (by
      rcases hv : (Value.slice A2 k c2).ownBlock with _ | q
      · exact .inl rfl
      · right
        intro e
        have := (HR.out.2.2.1.lt q hv).1
        injection e with e
        omega))
    clear hg2 kk
    go_wp2_with (at_builtin; refine wpList_appU (.tmp 15) (.tmp 19) 22 w1.heap.size 9 iS _ [.string r] 1 16 w2 A2 k c2 (L.map .string) HOW.out rfl rfl Tryd.underlying22 hiS hzS0 hzS1 hzS2 rfl (by omega) rfl rfl rfl (by simp [Value.oneCell']) (by omega) (by omega) (by omega) ?_; intro A2' c2' w3 hown3 hg3)
    have HO3 := Lib.hid hown3; have HG3 := Lib.hid hg3
    have hap : ∀ q, q < w1.heap.size → some q ≠ A2.map (·.block) := fun q hq e => by
      have := (HOW.out.lt q (by rw [ownB]; exact e.symm)).1
      omega
    have HAP := Lib.hid hap
    clear hown3 hg3 hap
    go_roundw
    case rel =>
      refine ⟨k + 1, K', L ++ [r], A2', c2', by omega, by go_num, rfl, Lib.hid (.step k K L HU.out K' r HUM.out.1), Lib.hid ⟨?_, ?_, ?_, ?_, ?_⟩⟩
      · obtain ⟨D, h1, h2⟩ := HUM.out.2
        exact ⟨D, h1.kept HG3.out (HAP.out mb hlt2), h2⟩
      · exact (HG3.out.cell_far ⟨b, 11, none⟩ (by simp; omega) (HAP.out b hlt1)).trans ((HG2.out.cell_far ⟨b, 11, none⟩ (by simp; omega) (by simp; exact hbm)).trans HR.out.2.1)
      · rw [List.map_append]; exact HO3.out
      · have hz0 : w.heap.size ≤ w1.heap.size := HBel.out.size
        exact (HR.out.2.2.2.1.grown HG2.out (by omega) (fun q hq => by injection hq with hq; omega)).grown HG3.out (by omega) (fun q hq => by
          have := (HOW.out.lt q (by rw [ownB]; exact hq)).1
          omega)
      · have := HG3.out.size; omega
    case measure => simp [intOf]; omega
end Go.Proofs.YtfhpjcgflejgnaaDoor
