/- For every head of a table and every list of bytes the law FnTableHead returns true: the head is read up to its end, with the alignments of its columns, whatever follows it. No condition. -/
import Derived.Test.YtaljhebalgipjaaGreatDoorH14
import Derived.ProofKit
import Derived.LaidMore
import Derived.Stop.Joined
import Derived.SevenTiedAt
import Derived.Test.YtaljhebalgipjaaGreatDoorCards
import Derived.Test.YtaljhebalgipjaaGreatDoorTie
import Derived.OpenShut
import Derived.ShutString
import Derived.ChangeOld
namespace Go.Proofs.YtaljhebalgipjaaGreatDoor.fnTableHead
open Go.ChangeShapes Go.WideShapes Go.ChangeAt Go.RowKit
open Go.ChangeMaps (open_string shut_string)
set_option linter.unusedVariables false

theorem own : ownKnob Tryz.prog.godebug = none := by kernel_rfl
theorem laidOut : laidOutB Tryz.prog = true := by kernel_rfl

theorem array5 {α : Type} {cs : Array α} (h : cs.size = 5) : ∃ c0 c1 c2 c3 c4, cs = #[c0, c1, c2, c3, c4] := by
  obtain ⟨l⟩ := cs
  match l, h with
  | [c0, c1, c2, c3, c4], _ => exact ⟨c0, c1, c2, c3, c4, rfl⟩
theorem cells5 : Tryz.prog.cellsOf 25 = 5 := by kernel_rfl
theorem RS.of_strings (w : World) (x : Addr) (l c : Nat) (ss : List ByteArray) (hl : l ≤ c) (hm : c ≤ maxLen) (hz : ss.length = c) (hcell : ∀ i, i < ss.length → w.cell? (x.add i) = some (.string (ss.getD i ByteArray.empty)))
    (hss : ∀ s ∈ ss, s.size ≤ maxLen) : ∃ g, RS w w.heap.size (some x) l c g ∧ c ≤ 9223372036854775807 ∧ (∀ j, j < l → (g j).size ≤ 9223372036854775807) ∧ (some x = none → c = 0) := by
  unfold maxLen at hm hss
  refine ⟨fun j => ss.getD j ByteArray.empty, ⟨hl, fun hn => ?_⟩, by omega, fun j hj => ?_, fun h => by cases h⟩
  · have h0 := hcell 0 (by omega)
    obtain ⟨b, off, sp⟩ := x
    have hsp : sp = none := by simpa [Addr.add] using World.cell?_spot h0
    subst hsp
    refine ⟨b, off, rfl, ?_, fun j hj => ?_⟩
    · have := World.block_lt_of_cell? w _ h0
      simpa [add_lit] using this
    · have := hcell j (by omega)
      rwa [add_lit] at this
  · have hlt : j < ss.length := by omega
    have := hss (ss.getD j ByteArray.empty) (by rw [List.getD_eq_getElem?_getD, List.getElem?_eq_getElem hlt]; exact List.getElem_mem hlt)
    omega
set_option maxRecDepth 100000 in
theorem open_tl {H : Type} {enc : TypeId × Value → H} {W : World} {r : Reach} {b0 base : Nat} {held : Bool} {v : Value} {d : DataW H} {ps : List MemPlace}
    (hv : Value.okWide Tryz.prog W r b0 25 v) (h : DataW.Trod enc Tryz.prog W base (fun _ => true) held 25 v d ps) :
    ∃ (An : Option Addr) (n1 c1 : Nat) (g : Nat → ByteArray) (Aa : Option Addr) (n2 c2 : Nat) (fa : Nat → Int) (Ah : Option Addr) (n3 c3 : Nat) (fh : Nat → Int) (b e : Bool), v = .agg #[.slice An n1 c1, .slice Aa n2 c2, .slice Ah n3 c3, .bool b, .bool e] ∧ TL W An n1 c1 g Aa n2 c2 fa Ah n3 c3 fh := by
  obtain ⟨cs, rfl, hsz⟩ := okWide_struct Tryz.underlying25 hv
  obtain ⟨c0, c1, c2, c3, c4, rfl⟩ := array5 (hsz.trans cells5)
  obtain ⟨fuel, hf⟩ := h
  obtain ⟨xs, n, _, _, _, hlen, hfs⟩ := DataW.trod_struct Tryz.underlying25 hf
  have u1 : Tryz.prog.cellsOf 23 = 1 := by kernel_rfl
  have s1 : Tryz.prog.cellsOf 22 = 1 := by kernel_rfl
  have b1 : Tryz.prog.cellsOf 4 = 1 := by kernel_rfl
  have f0 := hfs 0 _ rfl
  have f1 := hfs 1 _ rfl
  have f2 := hfs 2 _ rfl
  have f3 := hfs 3 _ rfl
  have f4 := hfs 4 _ rfl
  simp [Value.cells, u1, s1, b1] at f0 f1 f2 f3 f4
  have hl5 : xs.length = 5 := hlen
  rw [List.getElem?_eq_getElem (by omega)] at f0 f1 f2 f3 f4
  obtain ⟨An, n1, k1, g, hc0, hR, hcap, hszs⟩ : ∃ (An : Option Addr) (n1 k1 : Nat) (g : Nat → ByteArray), c0 = .slice An n1 k1 ∧ RS W W.heap.size An n1 k1 g ∧ k1 ≤ 9223372036854775807 ∧ (∀ j, j < n1 → (g j).size ≤ 9223372036854775807) := by
    rcases open_strings Tryz.underlying22 Tryz.underlying9 (by kernel_rfl) f0 with ⟨hcs, _⟩ | ⟨x, l, c, ss, hcs, _, hl, hm, hz, _, hcell, hss⟩
    · injection hcs with hcs
      exact ⟨none, 0, 0, fun _ => ByteArray.empty, hcs, ⟨Nat.le_refl _, fun hn => absurd hn (by omega)⟩, by omega, fun j hj => absurd hj (by omega)⟩
    · injection hcs with hcs
      obtain ⟨g, h1, h2, h3, _⟩ := RS.of_strings W x _ _ ss hl hm (by simpa using hz) hcell hss
      exact ⟨some x, l, c, g, hcs, h1, h2, h3⟩
  obtain ⟨Aa, n2, k2, fa, hc1, hA⟩ : ∃ (Aa : Option Addr) (n2 k2 : Nat) (fa : Nat → Int), c1 = .slice Aa n2 k2 ∧ RB W W.heap.size Aa n2 k2 fa := by
    rcases open_ints Tryz.underlying23 Tryz.underlying5 (by kernel_rfl) f1 with ⟨hcs, _⟩ | ⟨x, l, c, zs, hcs, _, hl, hm, hz, _, hcell, hwz⟩
    · injection hcs with hcs
      exact ⟨none, 0, 0, _, hcs, RB.nil_ W _⟩
    · injection hcs with hcs
      exact ⟨some x, l, c, _, hcs, RB.of_ints W x _ _ zs hl hm (by simpa using hz) hcell hwz⟩
  obtain ⟨Ah, n3, k3, fh, hc2, hH⟩ : ∃ (Ah : Option Addr) (n3 k3 : Nat) (fh : Nat → Int), c2 = .slice Ah n3 k3 ∧ RB W W.heap.size Ah n3 k3 fh := by
    rcases open_ints Tryz.underlying23 Tryz.underlying5 (by kernel_rfl) f2 with ⟨hcs, _⟩ | ⟨x, l, c, zs, hcs, _, hl, hm, hz, _, hcell, hwz⟩
    · injection hcs with hcs
      exact ⟨none, 0, 0, _, hcs, RB.nil_ W _⟩
    · injection hcs with hcs
      exact ⟨some x, l, c, _, hcs, RB.of_ints W x _ _ zs hl hm (by simpa using hz) hcell hwz⟩
  obtain ⟨b3, e3, _⟩ := DataW.trod_bool Tryz.underlying4 f3
  obtain ⟨b4, e4, _⟩ := DataW.trod_bool Tryz.underlying4 f4
  injection e3 with e3; injection e4 with e4
  subst e3 e4 hc0 hc1 hc2
  exact ⟨An, n1, k1, g, Aa, n2, k2, fa, Ah, n3, k3, fh, b3, b4, rfl, hR, hA, hH, Nat.le_trans hR.1 hcap, hszs⟩
theorem walk (w : World) (An : Option Addr) (n1 c1 : Nat) (g : Nat → ByteArray) (Aa : Option Addr) (n2 c2 : Nat) (fa : Nat → Int) (Ah : Option Addr) (n3 c3 : Nat) (fh : Nat → Int) (b e : Bool) (h : TL w An n1 c1 g Aa n2 c2 fa Ah n3 c3 fh)
    (Am : Option Addr) (nm cm : Nat) (fm : Nat → Int) (hm : RB w w.heap.size Am nm cm fm) (hnc : Am = none → cm = 0) :
    Calls Tryz.prog 3 #[.agg #[.slice An n1 c1, .slice Aa n2 c2, .slice Ah n3 c3, .bool b, .bool e], .slice Am nm cm] w fun r w' => r = .returned (.bool true) ∧ Below w.heap.size w w' :=
  lawTable w An n1 c1 g Aa n2 c2 fa Ah n3 c3 fh b e h Am nm cm fm hm hnc

theorem door_met (os : Os) (args : Array Value) : laidMetH Tryz.prog [("math/bits.deBruijn32tab", Rows.laid_math_bits_deBruijn32tab), ("math/bits.deBruijn64tab", Rows.laid_math_bits_deBruijn64tab), ("internal/strconv.uint64pow10", Rows.laid_internal_strconv_uint64pow10), ("bytes.ErrTooLarge", Rows.laid_bytes_ErrTooLarge)] ((World.doorLaid Tryz.prog 43 os).forCall (fun _ _ => 0) ⟨#[], args, []⟩).memory :=
  laidMetH_of_parts3 (fuel := 8) (laidMet_of_run' 8 (by kernel_rfl) (by kernel_rfl)) (by kernel_rfl) (by kernel_rfl)
set_option maxRecDepth 100000 in
theorem lifted (os : Os) (started : os.Started) (H : Type) (enc : TypeId × Value → H) :
    ReturnsInHanded {} Tryz.checked os 3 .any (fun w args => (Rows.fnTableHeadSpec.pre enc Tryz.prog Tryz.f3 [] false w args ∧ laidMetH Tryz.prog [("math/bits.deBruijn32tab", Rows.laid_math_bits_deBruijn32tab), ("math/bits.deBruijn64tab", Rows.laid_math_bits_deBruijn64tab), ("internal/strconv.uint64pow10", Rows.laid_internal_strconv_uint64pow10), ("bytes.ErrTooLarge", Rows.laid_bytes_ErrTooLarge)] w) ∧ sizedMet enc Tryz.prog Tryz.f3 (OpenSpec.ofChange Rows.fnTableHeadSpec) false w args) (Rows.fnTableHeadSpec.post enc Tryz.prog Tryz.f3 false true false false) := by
  refine returnsInHanded_of_change_and (C := Tryz.checked) (X := fun w _ => laidMetH Tryz.prog [("math/bits.deBruijn32tab", Rows.laid_math_bits_deBruijn32tab), ("math/bits.deBruijn64tab", Rows.laid_math_bits_deBruijn64tab), ("internal/strconv.uint64pow10", Rows.laid_internal_strconv_uint64pow10), ("bytes.ErrTooLarge", Rows.laid_bytes_ErrTooLarge)] w) (fun _ _ _ hh h => h.of_heap hh) own started (by kernel_rfl) Tryz.func3
    (ChangeSpec.witness_shaped (enc := enc) (C := Tryz.checked) (os := os) (X := fun w _ => laidMetH Tryz.prog [("math/bits.deBruijn32tab", Rows.laid_math_bits_deBruijn32tab), ("math/bits.deBruijn64tab", Rows.laid_math_bits_deBruijn64tab), ("internal/strconv.uint64pow10", Rows.laid_internal_strconv_uint64pow10), ("bytes.ErrTooLarge", Rows.laid_bytes_ErrTooLarge)] w) false (World.doorLaid Tryz.prog 43 os) #[.agg #[.slice none 0 0, .slice none 0 0, .slice none 0 0, .bool false, .bool false], .slice none 0 0] 8 rfl (World.shaped_of_RefB (by kernel_rfl) (by kernel_rfl)) (by kernel_rfl) (by kernel_rfl) (by kernel_rfl) (door_met os _)) ?_
  intro W base args ds gs before hval0 hW _ _ _ _
  have hval : ∀ (j : Nat) t v, Tryz.f3.params[j]? = some t → args[j]? = some v → Value.okWide Tryz.prog W .any base t v := hval0
  have hW' := hW
  obtain ⟨p, q, hA0, hV, rfl, hfz, hnd⟩ := hW
  have hA : DataW.TrodAll enc Tryz.prog W 0 (fun _ => true) true Tryz.f3.params.toList args.toList ds p := hA0
  rw [Tryz.params3] at hA hval
  obtain ⟨v0, vs0, d0, ds0, p0, q0, hargs, rfl, rfl, h0, r0⟩ := trodAll_cons hA
  obtain ⟨v1, vs1, d1, ds1, p1, q1, rfl, rfl, rfl, h1, r1⟩ := trodAll_cons r0
  obtain ⟨rfl, rfl, rfl⟩ := trodAll_nil r1
  obtain rfl : args = #[v0, v1] := by cases args; simp_all
  obtain ⟨rfl, rfl⟩ := trodVars_none hV
  have k0 := h0
  have lt0 : ∀ x ∈ p0, x.block < W.heap.size := by obtain ⟨m, hm⟩ := k0; exact DataW.trod_lt m _ _ _ hm
  obtain ⟨An0, n10, c10, g0, Aa0, n20, c20, fa0, Ah0, n30, c30, fh0, b0, e0, rfl, o0⟩ := open_tl (hval 0 25 v0 rfl rfl) h0
  obtain ⟨a1, len1, cap1, rfl⟩ := okWide_slice Tryz.underlying23 (hval 1 23 v1 rfl rfl)
  have k1 := h1
  have lt1 : ∀ x ∈ p1, x.block < W.heap.size := by obtain ⟨m, hm⟩ := k1; exact DataW.trod_lt m _ _ _ hm
  obtain ⟨z1, w1, n1⟩ : ∃ l, RB W W.heap.size a1 len1 cap1 l ∧ (a1 = none → cap1 = 0) := by
    obtain ⟨fuel, hf⟩ := h1
    rcases open_ints Tryz.underlying23 Tryz.underlying5 (by kernel_rfl) hf with ⟨hcs, _⟩ | ⟨x, l, c, zs, hcs, _, hl, hm, hz, _, hcell, hwz⟩
    · simp [Value.cells] at hcs
      obtain ⟨rfl, rfl, rfl⟩ := hcs
      exact ⟨_, RB.nil_ W _, fun _ => rfl⟩
    · simp [Value.cells] at hcs
      obtain ⟨rfl, rfl, rfl⟩ := hcs
      exact ⟨_, RB.of_ints W x _ _ zs hl hm (by simpa using hz) hcell hwz, fun h => by cases h⟩
  clear hA0 hval0
  refine (walk W An0 n10 c10 g0 Aa0 n20 c20 fa0 Ah0 n30 c30 fh0 b0 e0 o0 a1 len1 cap1 z1 w1 n1).mono fun e W' ⟨he, bel⟩ => ?_
  subst he
  exact ⟨_, rfl, _, _, _, [], _, [], hW', trodAll_mk1 (shut_bool Tryz.underlying4 _), (trodAll_cons_mk (Below.trod laidOut (by kernel_rfl) (of_decide_eq_true (by kernel_rfl)) k0 bel lt0) (trodAll_cons_mk (Below.trod laidOut (by kernel_rfl) (of_decide_eq_true (by kernel_rfl)) k1 bel lt1) trodAll_mk0)), rfl, bel.frame _, fun h => by cases h⟩

theorem over : Rows.fnTableHeadRow.holds Tryz.pinned (OpenSpec.ofChange Rows.fnTableHeadSpec) :=
  OpenClaim.holds_of_wide 3 Tryz.f3 rfl rfl rfl rfl rfl rfl rfl ⟨rfl, rfl, rfl, rfl, rfl⟩ rfl rfl rfl rfl rfl (by kernel_rfl) Tryz.func3 (by kernel_rfl)
    (of_decide_eq_true (by kernel_rfl)) (by unfold Func.isWrapper; first | (rw [if_pos (by decide +kernel)]; kernel_rfl) | (rw [if_neg (by decide +kernel)]; exact ⟨rfl, rfl⟩))
    (fun os started H enc _ => lifted os started H enc)

theorem card : Rows.FnTableHeadCardSaid :=
  Claim7.holds_tied_plain_at .later [] [.data, .data, .data, .sentinel] true (true, "d02a45c7b2efd6ff187b5022f9ba1930741d8071e7cd0a78b4ebb217b1821af2") false
    over (fun _ h => by cases h) (by kernel_rfl) (fun _ h => by cases h) fnTableHead_row_tie rfl ⟨rfl, rfl⟩ (by kernel_rfl) rfl
    (fun f fn hf hfn => by
      obtain rfl : f = 3 := Option.some.inj ((show Tryz.prog.funcNamed "pub-pamphlet/laws.FnTableHead" = some 3 by kernel_rfl).symm.trans hf) |>.symm
      obtain rfl : fn = Tryz.f3 := (Option.some.inj (Tryz.func3.symm.trans hfn)).symm
      exact ⟨by kernel_rfl, fun j t ht => by
        rw [Tryz.params3] at ht
        have hm : t ∈ [25, 23] := by simpa using Array.mem_of_getElem? ht
        have hall : ([25, 23].all fun u => !Tryz.prog.wantsStandIn u) = true := by kernel_rfl
        exact (show Tryz.prog.wantsStandIn t = false by simpa using List.all_eq_true.1 hall t hm)⟩)
    (by kernel_rfl)
theorem proved : Rows.FnTableHeadCardSaid := card
#print axioms proved
end Go.Proofs.YtaljhebalgipjaaGreatDoor.fnTableHead
