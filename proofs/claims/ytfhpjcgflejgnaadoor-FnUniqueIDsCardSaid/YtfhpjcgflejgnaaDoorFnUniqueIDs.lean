/- For every slice of strings the law FnUniqueIDs returns true: of at most 40 ids of at most 40 bytes, the package makes each unique as the reference does. No condition. -/
import Derived.Test.YtfhpjcgflejgnaaDoorU9
import Derived.ProofKit
import Derived.LaidMore
import Derived.Stop.Joined
import Derived.SevenTiedAt
import Derived.Test.YtfhpjcgflejgnaaDoorCards
import Derived.Test.YtfhpjcgflejgnaaDoorTie
import Derived.OpenShut
import Derived.ShutString
import Derived.SliceStrings
import Derived.ChangeOld
namespace Go.Proofs.YtfhpjcgflejgnaaDoor.fnUniqueIDs
open Go.ChangeShapes Go.WideShapes Go.ChangeAt Go.RowKit
open Go.ChangeMaps (open_string shut_string)
set_option linter.unusedVariables false

theorem own : ownKnob Tryd.prog.godebug = none := by kernel_rfl
theorem laidOut : laidOutB Tryd.prog = true := by kernel_rfl

theorem below_draw' {B : Nat} {a w : World} (h : Below B a w) (n : Nat) : Below B a (w.drewN n) := ⟨h.os, h.tape, h.output, h.size, h.block⟩
theorem RS.of_strings (w : World) (x : Addr) (l c : Nat) (ss : List ByteArray) (hl : l ≤ c) (hm : c ≤ maxLen) (hz : ss.length = c) (hcell : ∀ i, i < ss.length → w.cell? (x.add i) = some (.string (ss.getD i ByteArray.empty)))
    (hss : ∀ s ∈ ss, s.size ≤ maxLen) : ∃ g, RS w w.heap.size (some x) l c g ∧ c ≤ 9223372036854775807 ∧ (∀ j, j < l → (g j).size ≤ 9223372036854775807) ∧ (some x = none → c = 0) := by
  unfold maxLen at hm hss
  refine ⟨fun j => ss.getD j ByteArray.empty, ⟨hl, fun hn => ?_⟩, by omega, fun j hj => ?_, fun h => by cases h⟩
  · have h0 := hcell 0 (by omega)
    obtain ⟨b, off, sp⟩ := x
    have hsp : sp = none := by simpa [Addr.add] using World.cell?_spot h0
    subst hsp
    refine ⟨b, off, rfl, ?_, fun j hj => ?_⟩
    · have := World.block_lt_of_cell? w _ h0
      simpa [add_lit] using this
    · have := hcell j (by omega)
      rwa [add_lit] at this
  · have hlt : j < ss.length := by omega
    have := hss (ss.getD j ByteArray.empty) (by rw [List.getD_eq_getElem?_getD, List.getElem?_eq_getElem hlt]; exact List.getElem_mem hlt)
    omega
theorem ahead_list (n : Nat) (g : Nat → ByteArray) : [Value.string aB, Value.string aB] ++ (List.range n).map (fun j => Value.string (g j)) = ((List.range (2 + n)).map (ahead n g)).map .string := by
  rw [List.map_map]
  apply List.ext_getElem?
  intro q
  rcases q with _ | _ | q
  · simp [ahead, show 0 < 2 + n by omega]
  · simp [ahead, show 1 < 2 + n by omega]
  · by_cases e : q < n
    · simp [ahead, e, show q + 1 + 1 < 2 + n by omega]
      intro h
      omega
    · simp [e, show ¬ q + 1 + 1 < 2 + n by omega]
theorem same_at {w w' : World} {B1 B2 : Nat} {e1 e2 : TypeId} {A1 A2 : Option Addr} {n c1 c2 : Nat} {L : List ByteArray} (h1 : w.ownsRow B1 e1 1 (.slice A1 n c1) n (L.map .string)) (h2 : w'.ownsRow B2 e2 1 (.slice A2 n c2) n (L.map .string)) (j : Nat) (hj : j < n) :
    ∃ b1 b2 s, A1 = some ⟨b1, 0, none⟩ ∧ A2 = some ⟨b2, 0, none⟩ ∧ w.cell? ⟨b1, j, none⟩ = some (.string s) ∧ w'.cell? ⟨b2, j, none⟩ = some (.string s) ∧ b1 < w.heap.size := by
  have hl := h1.1
  simp at hl
  have hL : L[j]? = some L[j] := List.getElem?_eq_getElem (by omega)
  rcases h1.2 with ⟨_, h0⟩ | ⟨q1, _, _, hv1, _⟩
  · omega
  rcases h2.2 with ⟨_, h0⟩ | ⟨q2, _, _, hv2, _⟩
  · omega
  injection hv1 with a1 _ a3
  injection hv2 with b1 _ b3
  subst a1 a3 b1 b3
  have c1 := h1.cellAt j (by omega)
  have c2 := h2.cellAt j (by omega)
  rw [List.getElem?_map, hL] at c1 c2
  exact ⟨q1, q2, L[j], rfl, rfl, c1, c2, (h1.lt q1 rfl).2⟩
set_option maxHeartbeats 4000000 in
theorem walk (w : World) (A : Option Addr) (n cap : Nat) (g : Nat → ByteArray) (h : RS w w.heap.size A n cap g) (hcap : cap ≤ 9223372036854775807) (hs : ∀ j, j < n → (g j).size ≤ 9223372036854775807) (hcc : A = none → cap = 0) :
    Calls Tryd.prog 3 #[.slice A n cap] w fun e w' => e = .returned (.bool true) ∧ Below w.heap.size w w' := by
  obtain ⟨iS, hiS, hzS0, hzS1, hzS2⟩ := info_parts Tryd.infoS
  have HH := Lib.hid h; have HS := Lib.hid hs; have HCC := Lib.hid hcc
  have hnc := h.1
  clear h hs hcc
  have HF := Lib.hid (fits_any A n cap g w _ HH.out hcap HS.out)
  cases hf : fitsS n g
  · have HF0 := Lib.hid hf
    clear hf
    go_enter Tryd.func3, Tryd.ntmps3
    go_wp2_with fail
    refine HF.out.mono ?_
    rintro e w' ⟨rfl, rfl⟩
    rw [HF0.out]
    go_wp2_with fail
    go_ret
    exact ⟨rfl, Below.refl _ _⟩
  have HF1 := Lib.hid hf
  clear hf
  by_cases h40 : n ≤ 40
  case neg =>
    go_enter Tryd.func3, Tryd.ntmps3
    go_wp2_with fail
    refine HF.out.mono ?_
    rintro e w' ⟨rfl, rfl⟩
    rw [HF1.out]
    go_wp2_with fail
    go_ret
    exact ⟨rfl, Below.refl _ _⟩
  go_enter Tryd.func3, Tryd.ntmps3
  go_wp2_with fail
  refine HF.out.mono ?_
  rintro e w' ⟨rfl, rfl⟩
  rw [HF1.out]
  go_wp2_with fail
  go_loop [2, 16] (fun rv jv => ∃ j : Nat, Hid (∀ i, i < j → (g i).size ≤ 40) ∧ j ≤ n ∧ rv = .bool false ∧ jv = .int .i64 j) (fun _ jv => n - (intOf jv).toNat)
  case atStart => exact ⟨0, Lib.hid (fun i hi => by omega), by omega, rfl, rfl⟩
  case round =>
    obtain ⟨j, HJ, hj, rfl, rfl⟩ := hrel
    by_cases hjn : j < n
    · obtain ⟨b, off, rfl, hB, hcell⟩ := HH.out.2 (by omega)
      have kj := hcell j hjn
      have hsj := HS.out j hjn
      clear hcell
      by_cases hz : (g j).size ≤ 40
      · go_wp2_with fail
        go_round
        case rel => exact ⟨j + 1, Lib.hid (fun i hi => by
          by_cases e : i = j
          · rw [e]; exact hz
          · exact HJ.out i (by omega)), by omega, rfl, by go_num⟩
        case measure => simp [intOf]; omega
      · go_wp2_with fail
        go_ret
        exact ⟨rfl, Below.refl _ _⟩
    · have HZ : Hid (∀ j, j < n → (g j).size ≤ 40) := Lib.hid (fun i hi => HJ.out i (by omega))
      clear HJ
      have HA : Hid (∀ j, (ahead n g j).size ≤ 40) := Lib.hid (ahead_size HZ.out)
      have HM1 := Lib.hid (made2 w 9 (.string aB) (.string aB))
      have HR1 := Lib.hid (RS.below HH.out ((Below.refl w.heap.size w).alloc (Nat.le_refl _) (.cells #[.string aB, .string aB] 9)))
      go_wp2_with (at_builtin; refine wpList_appS (.tmp 24) (.tmp 25) 22 w.heap.size 9 iS _ _ _ 2 2 [.string aB, .string aB] HM1.out _ A n cap g HR1.out HCC.out rfl rfl Tryd.underlying22 hiS hzS0 hzS1 hzS2 rfl rfl rfl (by omega) (by simp) ?_; intro A1 c1 w1 hown1 hg1)
      have e1 := Lib.hid (ahead_list n g)
      have HO1 := Lib.hid (e1.out ▸ hown1)
      have HB1 : Hid (Below w.heap.size w w1) := Lib.hid (((Below.refl w.heap.size w).alloc (Nat.le_refl _) _).grown hg1 (by simp) (fun q hq => by simp at hq; omega))
      have HS1 : Hid (RS w1 w1.heap.size A1 (2 + n) c1 (ahead n g)) := Lib.hid (RS.of_own HO1.out (fun j hj => by simp [hj]))
      clear hown1 hg1
      go_wp2_with fail
      refine (uniqueImpl_any A1 (2 + n) c1 (ahead n g) w1 HS1.out HA.out (by omega)).mono ?_
      rintro e w2 ⟨K1, L1, A2, c2, rfl, HU1, hb2⟩
      have HB2 : Hid (Below w.heap.size w w2) := Lib.hid (HB1.out.trans (hb2.mono HB1.out.size))
      clear hb2
      have HM2 := Lib.hid (made2 w2 9 (.string aB) (.string aB))
      have HR2 := Lib.hid (RS.more (RS.below (HH.out.below HB2.out) ((Below.refl _ w2).alloc HB2.out.size (.cells #[.string aB, .string aB] 9))) (Nat.le_refl _))
      go_wp2_with (at_builtin; refine wpList_appS (.tmp 28) (.tmp 29) 22 w2.heap.size 9 iS _ _ _ 2 2 [.string aB, .string aB] HM2.out _ A n cap g HR2.out HCC.out rfl rfl Tryd.underlying22 hiS hzS0 hzS1 hzS2 rfl rfl rfl (by omega) (by simp) ?_; intro A3 c3 w3 hown3 hg3)
      have HO3 := Lib.hid (e1.out ▸ hown3)
      have HB3 : Hid (Below w2.heap.size w2 w3) := Lib.hid (((Below.refl _ w2).alloc (Nat.le_refl _) _).grown hg3 (by simp) (fun q hq => by simp at hq; omega))
      have HS3 : Hid (RS w3 w3.heap.size A3 (2 + n) c3 (ahead n g)) := Lib.hid (RS.of_own HO3.out (fun j hj => by simp [hj]))
      clear hown3 hg3
      go_wp2_with fail
      refine (uniqueSpec_any A3 (2 + n) c3 (ahead n g) w3 HS3.out HA.out (by omega)).mono ?_
      rintro e w4 ⟨K2, L2, A4, c4, rfl, HU2, hb4⟩
      have HB4 : Hid (Below w2.heap.size w2 w4) := Lib.hid (HB3.out.trans (hb4.mono HB3.out.size))
      clear hb4
      obtain ⟨eK, eL⟩ := HU1.out.1.unique HU2.out.1
      subst eK eL
      obtain ⟨Bo, hown1⟩ := HU1.out.2
      have HOA := Lib.hid hown1
      clear hown1
      have hz : w.heap.size ≤ w2.heap.size := HB2.out.size
      have HBW : Hid (Below w.heap.size w w4) := Lib.hid (HB2.out.trans (HB4.out.mono hz))
      go_wp2_with fail
      go_loopw [2, 39] (fun rv jv wr => ∃ j q : Nat, j ≤ 2 + n ∧ rv = .bool false ∧ jv = .int .i64 j ∧ wr = w4.drewN q) (fun _ jv _ => 2 + n - (intOf jv).toNat)
      case atStart => exact ⟨0, 0, by omega, rfl, rfl, rfl⟩
      case round =>
        obtain ⟨j, q, hj, rfl, rfl, rfl⟩ := hrel
        by_cases hjn : j < 2 + n
        · obtain ⟨b1, b2, s, rfl, rfl, k1, k2, hb⟩ := same_at HOA.out HU2.out.2 j hjn
          have k1' : w4.cell? ⟨b1, j, none⟩ = some (.string s) := (HB4.out.cell (p := ⟨b1, j, none⟩) hb).trans k1
          have hj0 : (0 : Int) ≤ j := by omega
          have hj1 : (j : Int) < (2 : Int) + (n : Int) := by omega
          have hj2 : (j : Int) < ((2 + n : Nat) : Int) := by omega
          have e0 : (s.toList != s.toList) = false := by simp
          have e2 : (s.toList == s.toList) = true := by simp
          clear k1 hb
          go_wp2_with fail
          go_quiet (fail)
          go_wp2_with fail
          go_roundw
          case rel => exact ⟨j + 1, _, by omega, rfl, by go_num, by rfl⟩
          case measure => simp [intOf]; omega
        · go_wp2_with fail
          go_ret
          exact ⟨rfl, below_draw' HBW.out _⟩
theorem door_met (os : Os) (args : Array Value) : laidMetH Tryd.prog [("math/bits.deBruijn32tab", Rows.laid_math_bits_deBruijn32tab), ("math/bits.deBruijn64tab", Rows.laid_math_bits_deBruijn64tab), ("internal/strconv.uint64pow10", Rows.laid_internal_strconv_uint64pow10), ("bytes.ErrTooLarge", Rows.laid_bytes_ErrTooLarge)] ((World.doorLaid Tryd.prog 43 os).forCall (fun _ _ => 0) ⟨#[], args, []⟩).memory :=
  laidMetH_of_parts3 (fuel := 8) (laidMet_of_run' 8 (by kernel_rfl) (by kernel_rfl)) (by kernel_rfl) (by kernel_rfl)
set_option maxRecDepth 100000 in
theorem lifted (os : Os) (started : os.Started) (H : Type) (enc : TypeId × Value → H) :
    ReturnsInHanded {} Tryd.checked os 3 .any (fun w args => (Rows.fnUniqueIDsSpec.pre enc Tryd.prog Tryd.f3 [] false w args ∧ laidMetH Tryd.prog [("math/bits.deBruijn32tab", Rows.laid_math_bits_deBruijn32tab), ("math/bits.deBruijn64tab", Rows.laid_math_bits_deBruijn64tab), ("internal/strconv.uint64pow10", Rows.laid_internal_strconv_uint64pow10), ("bytes.ErrTooLarge", Rows.laid_bytes_ErrTooLarge)] w) ∧ sizedMet enc Tryd.prog Tryd.f3 (OpenSpec.ofChange Rows.fnUniqueIDsSpec) false w args) (Rows.fnUniqueIDsSpec.post enc Tryd.prog Tryd.f3 false true false false) := by
  refine returnsInHanded_of_change_and (C := Tryd.checked) (X := fun w _ => laidMetH Tryd.prog [("math/bits.deBruijn32tab", Rows.laid_math_bits_deBruijn32tab), ("math/bits.deBruijn64tab", Rows.laid_math_bits_deBruijn64tab), ("internal/strconv.uint64pow10", Rows.laid_internal_strconv_uint64pow10), ("bytes.ErrTooLarge", Rows.laid_bytes_ErrTooLarge)] w) (fun _ _ _ hh h => h.of_heap hh) own started (by kernel_rfl) Tryd.func3
    (ChangeSpec.witness_shaped (enc := enc) (C := Tryd.checked) (os := os) (X := fun w _ => laidMetH Tryd.prog [("math/bits.deBruijn32tab", Rows.laid_math_bits_deBruijn32tab), ("math/bits.deBruijn64tab", Rows.laid_math_bits_deBruijn64tab), ("internal/strconv.uint64pow10", Rows.laid_internal_strconv_uint64pow10), ("bytes.ErrTooLarge", Rows.laid_bytes_ErrTooLarge)] w) false (World.doorLaid Tryd.prog 43 os) #[.slice none 0 0] 8 rfl (World.shaped_of_RefB (by kernel_rfl) (by kernel_rfl)) (by kernel_rfl) (by kernel_rfl) (by kernel_rfl) (door_met os _)) ?_
  intro W base args ds gs before hval0 hW _ _ _ _
  have hval : ∀ (j : Nat) t v, Tryd.f3.params[j]? = some t → args[j]? = some v → Value.okWide Tryd.prog W .any base t v := hval0
  have hW' := hW
  obtain ⟨p, q, hA0, hV, rfl, hfz, hnd⟩ := hW
  have hA : DataW.TrodAll enc Tryd.prog W 0 (fun _ => true) true Tryd.f3.params.toList args.toList ds p := hA0
  rw [Tryd.params3] at hA hval
  obtain ⟨v0, vs0, d0, ds0, p0, q0, hargs, rfl, rfl, h0, r0⟩ := trodAll_cons hA
  obtain ⟨rfl, rfl, rfl⟩ := trodAll_nil r0
  obtain rfl : args = #[v0] := by cases args; simp_all
  obtain ⟨rfl, rfl⟩ := trodVars_none hV
  obtain ⟨a0, len0, cap0, rfl⟩ := okWide_slice Tryd.underlying22 (hval 0 22 v0 rfl rfl)
  have k0 := h0
  have lt0 : ∀ x ∈ p0, x.block < W.heap.size := by obtain ⟨m, hm⟩ := k0; exact DataW.trod_lt m _ _ _ hm
  obtain ⟨z0, w0, c0, s0, n0⟩ : ∃ g, RS W W.heap.size a0 len0 cap0 g ∧ cap0 ≤ 9223372036854775807 ∧ (∀ j, j < len0 → (g j).size ≤ 9223372036854775807) ∧ (a0 = none → cap0 = 0) := by
    obtain ⟨fuel, hf⟩ := h0
    rcases open_strings Tryd.underlying22 Tryd.underlying9 (by kernel_rfl) hf with ⟨hcs, _⟩ | ⟨x, l, c, ss, hcs, _, hl, hm, hz, _, hcell, hss⟩
    · simp [Value.cells] at hcs
      obtain ⟨rfl, rfl, rfl⟩ := hcs
      exact ⟨fun _ => ByteArray.empty, ⟨Nat.le_refl _, fun hn => absurd hn (by omega)⟩, by omega, fun j hj => absurd hj (by omega), fun _ => rfl⟩
    · simp [Value.cells] at hcs
      obtain ⟨rfl, rfl, rfl⟩ := hcs
      exact RS.of_strings W x _ _ ss hl hm (by simpa using hz) hcell hss
  clear hA0 hval0
  refine (walk W a0 len0 cap0 z0 w0 c0 s0 n0).mono fun e W' ⟨he, bel⟩ => ?_
  subst he
  exact ⟨_, rfl, _, _, _, [], _, [], hW', trodAll_mk1 (shut_bool Tryd.underlying4 _), (trodAll_cons_mk (Below.trod laidOut (by kernel_rfl) (of_decide_eq_true (by kernel_rfl)) k0 bel lt0) trodAll_mk0), rfl, bel.frame _, fun h => by cases h⟩

theorem over : Rows.fnUniqueIDsRow.holds Tryd.pinned (OpenSpec.ofChange Rows.fnUniqueIDsSpec) :=
  OpenClaim.holds_of_wide 3 Tryd.f3 rfl rfl rfl rfl rfl rfl rfl ⟨rfl, rfl, rfl, rfl, rfl⟩ rfl rfl rfl rfl rfl (by kernel_rfl) Tryd.func3 (by kernel_rfl)
    (of_decide_eq_true (by kernel_rfl)) (by unfold Func.isWrapper; first | (rw [if_pos (by decide +kernel)]; kernel_rfl) | (rw [if_neg (by decide +kernel)]; exact ⟨rfl, rfl⟩))
    (fun os started H enc _ => lifted os started H enc)

theorem card : Rows.FnUniqueIDsCardSaid :=
  Claim7.holds_tied_plain_at .later [] [.data, .data, .data, .sentinel] true (true, "0040bd722942923c4dc5cae3aea9e9fce847c6cdf3d2a0619cb1829f9dbfa7f5") false
    over (fun _ h => by cases h) (by kernel_rfl) (fun _ h => by cases h) fnUniqueIDs_row_tie rfl ⟨rfl, rfl⟩ (by kernel_rfl) rfl
    (fun f fn hf hfn => by
      obtain rfl : f = 3 := Option.some.inj ((show Tryd.prog.funcNamed "pub-pamphlet/laws.FnUniqueIDs" = some 3 by kernel_rfl).symm.trans hf) |>.symm
      obtain rfl : fn = Tryd.f3 := (Option.some.inj (Tryd.func3.symm.trans hfn)).symm
      exact ⟨by kernel_rfl, fun j t ht => by
        rw [Tryd.params3] at ht
        have hm : t ∈ [22] := by simpa using Array.mem_of_getElem? ht
        have hall : ([22].all fun u => !Tryd.prog.wantsStandIn u) = true := by kernel_rfl
        exact (show Tryd.prog.wantsStandIn t = false by simpa using List.all_eq_true.1 hall t hm)⟩)
    (by kernel_rfl)
theorem proved : Rows.FnUniqueIDsCardSaid := card
#print axioms proved
end Go.Proofs.YtfhpjcgflejgnaaDoor.fnUniqueIDs
