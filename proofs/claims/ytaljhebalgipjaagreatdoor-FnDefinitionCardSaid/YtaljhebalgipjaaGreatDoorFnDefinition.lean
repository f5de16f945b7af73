/- For every set of extensions, every definition of a reference and every list of strings the law FnDefinition returns true: a definition is read, up to its last line feed, with its id, its address and its title, whatever stands in the lines behind it. No condition. -/
import Derived.Test.YtaljhebalgipjaaGreatDoorD12
import Derived.ProofKit
import Derived.LaidMore
import Derived.Stop.Joined
import Derived.SevenTiedAt
import Derived.Test.YtaljhebalgipjaaGreatDoorCards
import Derived.Test.YtaljhebalgipjaaGreatDoorTie
import Derived.OpenShut
import Derived.ShutString
import Derived.ChangeOld
namespace Go.Proofs.YtaljhebalgipjaaGreatDoor.fnDefinition
open Go.ChangeShapes Go.WideShapes Go.ChangeAt Go.RowKit
open Go.ChangeMaps (open_string shut_string)
set_option linter.unusedVariables false

theorem own : ownKnob Tryz.prog.godebug = none := by kernel_rfl
theorem laidOut : laidOutB Tryz.prog = true := by kernel_rfl

theorem array6 {α : Type} {cs : Array α} (h : cs.size = 6) : ∃ c0 c1 c2 c3 c4 c5, cs = #[c0, c1, c2, c3, c4, c5] := by
  obtain ⟨l⟩ := cs
  match l, h with
  | [c0, c1, c2, c3, c4, c5], _ => exact ⟨c0, c1, c2, c3, c4, c5, rfl⟩
/-- What a definition reads as. -/
structure DefO (bl q : Int) (id path title : List UInt8) : Prop where
  b : 0 ≤ bl
  q : 0 ≤ q
  id : id.length ≤ 9223372036854775807
  path : path.length ≤ 9223372036854775807
  title : title.length ≤ 9223372036854775807
theorem str_of {s : ByteArray} (h : s.size ≤ maxLen) : ∃ l, s = strL l ∧ l.length ≤ 9223372036854775807 := by
  refine ⟨s.data.toList, (strL_list s).symm, ?_⟩
  rw [str_len]; unfold maxLen at h; omega
theorem cells6 : Tryz.prog.cellsOf 34 = 6 := by kernel_rfl
set_option maxRecDepth 100000 in
theorem open_def {H : Type} {enc : TypeId × Value → H} {W : World} {r : Reach} {b0 base : Nat} {sp : Nat → Bool} {held : Bool} {v : Value} {d : DataW H} {ps : List MemPlace}
    (hv : Value.okWide Tryz.prog W r b0 34 v) (h : DataW.Trod enc Tryz.prog W base sp held 34 v d ps) :
    ∃ (bl q : Int) (id path title : List UInt8) (nx : Bool), v = .agg #[.int .u8 bl, .string (strL id), .string (strL path), .string (strL title), .int .u8 q, .bool nx] ∧ DefO bl q id path title := by
  obtain ⟨cs, rfl, hsz⟩ := okWide_struct Tryz.underlying34 hv
  obtain ⟨c0, c1, c2, c3, c4, c5, rfl⟩ := array6 (hsz.trans cells6)
  obtain ⟨fuel, hf⟩ := h
  obtain ⟨xs, n, _, _, _, hlen, hfs⟩ := DataW.trod_struct Tryz.underlying34 hf
  have u1 : Tryz.prog.cellsOf 5 = 1 := by kernel_rfl
  have s1 : Tryz.prog.cellsOf 9 = 1 := by kernel_rfl
  have b1 : Tryz.prog.cellsOf 4 = 1 := by kernel_rfl
  have f0 := hfs 0 _ rfl
  have f1 := hfs 1 _ rfl
  have f2 := hfs 2 _ rfl
  have f3 := hfs 3 _ rfl
  have f4 := hfs 4 _ rfl
  have f5 := hfs 5 _ rfl
  simp [Value.cells, u1, s1, b1] at f0 f1 f2 f3 f4 f5
  have hl6 : xs.length = 6 := hlen
  rw [List.getElem?_eq_getElem (by omega)] at f0 f1 f2 f3 f4 f5
  obtain ⟨n0, e0, _, w0⟩ := DataW.trod_int Tryz.underlying5 f0
  obtain ⟨t1, e1, _, w1⟩ := DataW.trod_string Tryz.underlying9 f1
  obtain ⟨t2, e2, _, w2⟩ := DataW.trod_string Tryz.underlying9 f2
  obtain ⟨t3, e3, _, w3⟩ := DataW.trod_string Tryz.underlying9 f3
  obtain ⟨n4, e4, _, w4⟩ := DataW.trod_int Tryz.underlying5 f4
  obtain ⟨b5, e5, _⟩ := DataW.trod_bool Tryz.underlying4 f5
  injection e0 with e0; injection e1 with e1; injection e2 with e2; injection e3 with e3; injection e4 with e4; injection e5 with e5
  subst e0 e1 e2 e3 e4 e5
  obtain ⟨l1, rfl, q1⟩ := str_of w1
  obtain ⟨l2, rfl, q2⟩ := str_of w2
  obtain ⟨l3, rfl, q3⟩ := str_of w3
  exact ⟨n0, n4, l1, l2, l3, b5, rfl, (bounds_u8 w0).1, (bounds_u8 w4).1, q1, q2, q3⟩
theorem RS.of_strings (w : World) (x : Addr) (l c : Nat) (ss : List ByteArray) (hl : l ≤ c) (hm : c ≤ maxLen) (hz : ss.length = c) (hcell : ∀ i, i < ss.length → w.cell? (x.add i) = some (.string (ss.getD i ByteArray.empty)))
    (hss : ∀ s ∈ ss, s.size ≤ maxLen) : ∃ g, RS w w.heap.size (some x) l c g ∧ c ≤ 9223372036854775807 ∧ (∀ j, j < l → (g j).size ≤ 9223372036854775807) ∧ (some x = none → c = 0) := by
  unfold maxLen at hm hss
  refine ⟨fun j => ss.getD j ByteArray.empty, ⟨hl, fun hn => ?_⟩, by omega, fun j hj => ?_, fun h => by cases h⟩
  · have h0 := hcell 0 (by omega)
    obtain ⟨b, off, sp⟩ := x
    have hsp : sp = none := by simpa [Addr.add] using World.cell?_spot h0
    subst hsp
    refine ⟨b, off, rfl, ?_, fun j hj => ?_⟩
    · have := World.block_lt_of_cell? w _ h0
      simpa [add_lit] using this
    · have := hcell j (by omega)
      rwa [add_lit] at this
  · have hlt : j < ss.length := by omega
    have := hss (ss.getD j ByteArray.empty) (by rw [List.getD_eq_getElem?_getD, List.getElem?_eq_getElem hlt]; exact List.getElem_mem hlt)
    omega
theorem walk (w : World) (x : Int) (hx : (Lit.int .i64 x).wf = true) (bl q : Int) (id path title : List UInt8) (nx : Bool) (o : DefO bl q id path title) (A : Option Addr) (n c : Nat) (g : Nat → ByteArray) (hR : RS w w.heap.size A n c g) (hc : c ≤ 9223372036854775807) (hs : ∀ j, j < n → (g j).size ≤ 9223372036854775807) (hA : A = none → c = 0) :
    Calls Tryz.prog 4 #[.int .i64 x, .agg #[.int .u8 bl, .string (strL id), .string (strL path), .string (strL title), .int .u8 q, .bool nx], .slice A n c] w fun e w' => e = .returned (.bool true) ∧ Below w.heap.size w w' :=
  lawDef w x bl q id path title nx A n c g hR o.b o.q o.id o.path o.title (Nat.le_trans hR.1 hc) hs

theorem door_met (os : Os) (args : Array Value) : laidMetH Tryz.prog [("math/bits.deBruijn32tab", Rows.laid_math_bits_deBruijn32tab), ("math/bits.deBruijn64tab", Rows.laid_math_bits_deBruijn64tab), ("internal/strconv.uint64pow10", Rows.laid_internal_strconv_uint64pow10), ("bytes.ErrTooLarge", Rows.laid_bytes_ErrTooLarge)] ((World.doorLaid Tryz.prog 43 os).forCall (fun _ _ => 0) ⟨#[], args, []⟩).memory :=
  laidMetH_of_parts3 (fuel := 8) (laidMet_of_run' 8 (by kernel_rfl) (by kernel_rfl)) (by kernel_rfl) (by kernel_rfl)
set_option maxRecDepth 100000 in
theorem lifted (os : Os) (started : os.Started) (H : Type) (enc : TypeId × Value → H) :
    ReturnsInHanded {} Tryz.checked os 4 .any (fun w args => (Rows.fnDefinitionSpec.pre enc Tryz.prog Tryz.f4 [] false w args ∧ laidMetH Tryz.prog [("math/bits.deBruijn32tab", Rows.laid_math_bits_deBruijn32tab), ("math/bits.deBruijn64tab", Rows.laid_math_bits_deBruijn64tab), ("internal/strconv.uint64pow10", Rows.laid_internal_strconv_uint64pow10), ("bytes.ErrTooLarge", Rows.laid_bytes_ErrTooLarge)] w) ∧ sizedMet enc Tryz.prog Tryz.f4 (OpenSpec.ofChange Rows.fnDefinitionSpec) false w args) (Rows.fnDefinitionSpec.post enc Tryz.prog Tryz.f4 false true false false) := by
  refine returnsInHanded_of_change_and (C := Tryz.checked) (X := fun w _ => laidMetH Tryz.prog [("math/bits.deBruijn32tab", Rows.laid_math_bits_deBruijn32tab), ("math/bits.deBruijn64tab", Rows.laid_math_bits_deBruijn64tab), ("internal/strconv.uint64pow10", Rows.laid_internal_strconv_uint64pow10), ("bytes.ErrTooLarge", Rows.laid_bytes_ErrTooLarge)] w) (fun _ _ _ hh h => h.of_heap hh) own started (by kernel_rfl) Tryz.func4
    (ChangeSpec.witness_shaped (enc := enc) (C := Tryz.checked) (os := os) (X := fun w _ => laidMetH Tryz.prog [("math/bits.deBruijn32tab", Rows.laid_math_bits_deBruijn32tab), ("math/bits.deBruijn64tab", Rows.laid_math_bits_deBruijn64tab), ("internal/strconv.uint64pow10", Rows.laid_internal_strconv_uint64pow10), ("bytes.ErrTooLarge", Rows.laid_bytes_ErrTooLarge)] w) false (World.doorLaid Tryz.prog 43 os) #[.int .i64 0, .agg #[.int .u8 0, .string ByteArray.empty, .string ByteArray.empty, .string ByteArray.empty, .int .u8 0, .bool false], .slice none 0 0] 8 rfl (World.shaped_of_RefB (by kernel_rfl) (by kernel_rfl)) (by kernel_rfl) (by kernel_rfl) (by kernel_rfl) (door_met os _)) ?_
  intro W base args ds gs before hval0 hW _ _ _ _
  have hval : ∀ (j : Nat) t v, Tryz.f4.params[j]? = some t → args[j]? = some v → Value.okWide Tryz.prog W .any base t v := hval0
  have hW' := hW
  obtain ⟨p, q, hA0, hV, rfl, hfz, hnd⟩ := hW
  have hA : DataW.TrodAll enc Tryz.prog W 0 (fun _ => true) true Tryz.f4.params.toList args.toList ds p := hA0
  rw [Tryz.params4] at hA hval
  obtain ⟨v0, vs0, d0, ds0, p0, q0, hargs, rfl, rfl, h0, r0⟩ := trodAll_cons hA
  obtain ⟨v1, vs1, d1, ds1, p1, q1, rfl, rfl, rfl, h1, r1⟩ := trodAll_cons r0
  obtain ⟨v2, vs2, d2, ds2, p2, q2, rfl, rfl, rfl, h2, r2⟩ := trodAll_cons r1
  obtain ⟨rfl, rfl, rfl⟩ := trodAll_nil r2
  obtain rfl : args = #[v0, v1, v2] := by cases args; simp_all
  obtain ⟨rfl, rfl⟩ := trodVars_none hV
  obtain ⟨a0, rfl, rfl, rfl, w0⟩ := open_int Tryz.underlying2 (hval 0 2 v0 rfl rfl) h0
  have k1 := h1
  have lt1 : ∀ x ∈ p1, x.block < W.heap.size := by obtain ⟨m, hm⟩ := k1; exact DataW.trod_lt m _ _ _ hm
  obtain ⟨bl1, qu1, id1, path1, title1, nx1, rfl, o1⟩ := open_def (hval 1 34 v1 rfl rfl) h1
  obtain ⟨a2, len2, cap2, rfl⟩ := okWide_slice Tryz.underlying22 (hval 2 22 v2 rfl rfl)
  have k2 := h2
  have lt2 : ∀ x ∈ p2, x.block < W.heap.size := by obtain ⟨m, hm⟩ := k2; exact DataW.trod_lt m _ _ _ hm
  obtain ⟨z2, w2, c2, s2, n2⟩ : ∃ g, RS W W.heap.size a2 len2 cap2 g ∧ cap2 ≤ 9223372036854775807 ∧ (∀ j, j < len2 → (g j).size ≤ 9223372036854775807) ∧ (a2 = none → cap2 = 0) := by
    obtain ⟨fuel, hf⟩ := h2
    rcases open_strings Tryz.underlying22 Tryz.underlying9 (by kernel_rfl) hf with ⟨hcs, _⟩ | ⟨x, l, c, ss, hcs, _, hl, hm, hz, _, hcell, hss⟩
    · simp [Value.cells] at hcs
      obtain ⟨rfl, rfl, rfl⟩ := hcs
      exact ⟨fun _ => ByteArray.empty, ⟨Nat.le_refl _, fun hn => absurd hn (by omega)⟩, by omega, fun j hj => absurd hj (by omega), fun _ => rfl⟩
    · simp [Value.cells] at hcs
      obtain ⟨rfl, rfl, rfl⟩ := hcs
      exact RS.of_strings W x _ _ ss hl hm (by simpa using hz) hcell hss
  clear hA0 hval0
  refine (walk W a0 w0 bl1 qu1 id1 path1 title1 nx1 o1 a2 len2 cap2 z2 w2 c2 s2 n2).mono fun e W' ⟨he, bel⟩ => ?_
  subst he
  exact ⟨_, rfl, _, _, _, [], _, [], hW', trodAll_mk1 (shut_bool Tryz.underlying4 _), (trodAll_cons_mk (shut_int Tryz.underlying2 w0) (trodAll_cons_mk (Below.trod laidOut (by kernel_rfl) (of_decide_eq_true (by kernel_rfl)) k1 bel lt1) (trodAll_cons_mk (Below.trod laidOut (by kernel_rfl) (of_decide_eq_true (by kernel_rfl)) k2 bel lt2) trodAll_mk0))), rfl, bel.frame _, fun h => by cases h⟩

theorem over : Rows.fnDefinitionRow.holds Tryz.pinned (OpenSpec.ofChange Rows.fnDefinitionSpec) :=
  OpenClaim.holds_of_wide 4 Tryz.f4 rfl rfl rfl rfl rfl rfl rfl ⟨rfl, rfl, rfl, rfl, rfl⟩ rfl rfl rfl rfl rfl (by kernel_rfl) Tryz.func4 (by kernel_rfl)
    (of_decide_eq_true (by kernel_rfl)) (by unfold Func.isWrapper; first | (rw [if_pos (by decide +kernel)]; kernel_rfl) | (rw [if_neg (by decide +kernel)]; exact ⟨rfl, rfl⟩))
    (fun os started H enc _ => lifted os started H enc)

theorem card : Rows.FnDefinitionCardSaid :=
  Claim7.holds_tied_plain_at .later [] [.data, .data, .data, .sentinel] true (true, "d02a45c7b2efd6ff187b5022f9ba1930741d8071e7cd0a78b4ebb217b1821af2") false
    over (fun _ h => by cases h) (by kernel_rfl) (fun _ h => by cases h) fnDefinition_row_tie rfl ⟨rfl, rfl⟩ (by kernel_rfl) rfl
    (fun f fn hf hfn => by
      obtain rfl : f = 4 := Option.some.inj ((show Tryz.prog.funcNamed "pub-pamphlet/laws.FnDefinition" = some 4 by kernel_rfl).symm.trans hf) |>.symm
      obtain rfl : fn = Tryz.f4 := (Option.some.inj (Tryz.func4.symm.trans hfn)).symm
      exact ⟨by kernel_rfl, fun j t ht => by
        rw [Tryz.params4] at ht
        have hm : t ∈ [2, 34, 22] := by simpa using Array.mem_of_getElem? ht
        have hall : ([2, 34, 22].all fun u => !Tryz.prog.wantsStandIn u) = true := by kernel_rfl
        exact (show Tryz.prog.wantsStandIn t = false by simpa using List.all_eq_true.1 hall t hm)⟩)
    (by kernel_rfl)
theorem proved : Rows.FnDefinitionCardSaid := card
#print axioms proved
end Go.Proofs.YtaljhebalgipjaaGreatDoor.fnDefinition
