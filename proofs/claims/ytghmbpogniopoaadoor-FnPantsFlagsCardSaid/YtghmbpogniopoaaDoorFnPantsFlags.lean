/- For every two numbers of flags and every slice of bytes the law FnPantsFlags returns true: of at most 500 bytes with each tag closed, the package writes the same by two numbers that agree in the five marks. No condition. -/
import Derived.Test.YtghmbpogniopoaaDoorFH
import Derived.Test.YtghmbpogniopoaaDoorQ6
import Derived.ProofKit
import Derived.LaidMore
import Derived.Stop.Joined
import Derived.SevenTiedAt
import Derived.Test.YtghmbpogniopoaaDoorCards
import Derived.Test.YtghmbpogniopoaaDoorTie
import Derived.OpenShut
import Derived.ShutString
import Derived.ChangeOld
namespace Go.Proofs.YtghmbpogniopoaaDoor.fnPantsFlags
open Go.ChangeShapes Go.WideShapes Go.ChangeAt Go.RowKit
open Go.ChangeMaps (open_string shut_string)
set_option linter.unusedVariables false

theorem own : ownKnob Tryd.prog.godebug = none := by kernel_rfl
theorem laidOut : laidOutB Tryd.prog = true := by kernel_rfl
set_option maxHeartbeats 4000000 in
set_option maxRecDepth 100000 in
theorem walk (w : World) (x : Int) (hx : (Lit.int .i64 x).wf = true) (y : Int) (hy : (Lit.int .i64 y).wf = true) (A : Option Addr) (n cap : Nat) (f : Nat → Int) (h : RB w w.heap.size A n cap f) :
    Calls Tryd.prog 3 #[.int .i64 x, .int .i64 y, .slice A n cap] w fun e w' => e = .returned (.bool true) ∧ Below w.heap.size w w' := by
  have hcap := h.cap
  have hm := h.2.1
  unfold maxLen at hm
  by_cases h1 : 2147483647 < n
  · clear h
    go_enter Tryd.func3, Tryd.ntmps3
    go_wp2_with fail
    go_ret
    exact ⟨rfl, Below.refl _ _⟩
  have HR := Lib.hid h
  have hrg := h.rng
  clear h hm
  by_cases hf : (decide (0 ≤ x) && decide (x < 524288)) = true
  case neg =>
    have hf' : (decide (0 ≤ x) && decide (x < 524288)) = false := by simpa using hf
    have HF := Lib.hid hf'
    clear hf hf' hrg
    go_enter Tryd.func3, Tryd.ntmps3
    go_wp2_with fail
    refine (isFlags_any x w).mono ?_
    rintro e w' ⟨rfl, rfl⟩
    rw [HF.out]
    go_wp2_with fail
    go_ret
    exact ⟨rfl, Below.refl _ _⟩
  have HF := Lib.hid hf
  simp at hf
  by_cases hg : (decide (0 ≤ y) && decide (y < 524288)) = true
  case neg =>
    have hg' : (decide (0 ≤ y) && decide (y < 524288)) = false := by simpa using hg
    have HG := Lib.hid hg'
    clear hf hg hg' hrg
    go_enter Tryd.func3, Tryd.ntmps3
    go_wp2_with fail
    refine (isFlags_any x w).mono ?_
    rintro e w' ⟨rfl, rfl⟩
    rw [HF.out]
    go_wp2_with fail
    refine (isFlags_any y w).mono ?_
    rintro e w' ⟨rfl, rfl⟩
    rw [HG.out]
    go_wp2_with fail
    go_ret
    exact ⟨rfl, Below.refl _ _⟩
  have HG := Lib.hid hg
  simp at hg
  have HX := Lib.hid (And.intro hf hg)
  clear hf hg
  by_cases h2 : 500 < n
  · clear hrg
    go_enter Tryd.func3, Tryd.ntmps3
    go_wp2_with fail
    refine (isFlags_any x w).mono ?_
    rintro e w' ⟨rfl, rfl⟩
    rw [HF.out]
    go_wp2_with fail
    refine (isFlags_any y w).mono ?_
    rintro e w' ⟨rfl, rfl⟩
    rw [HG.out]
    go_wp2_with fail
    go_ret
    exact ⟨rfl, Below.refl _ _⟩
  have HRG := Lib.hid hrg
  clear hrg
  have kc := fun (w : World) (C : Array Value) (n c : Nat) => Lib.run_convert_bytes_const (P := Tryd.prog) w 22 5 C n c Tryd.underlying22 Tryd.underlying5
  cases ho : opn f n
  case true =>
    have HO := Lib.hid ho
    clear ho
    go_enter Tryd.func3, Tryd.ntmps3
    go_wp2_with fail
    refine (isFlags_any x w).mono ?_
    rintro e w' ⟨rfl, rfl⟩
    rw [HF.out]
    go_wp2_with fail
    refine (isFlags_any y w).mono ?_
    rintro e w' ⟨rfl, rfl⟩
    rw [HG.out]
    go_wp2_with fail
    refine (isClosed_any A n cap f w w.heap.size HR.out (by omega)).mono ?_
    rintro e w' ⟨rfl, rfl⟩
    rw [HO.out]
    go_wp2_with fail
    go_ret
    exact ⟨rfl, Below.refl _ _⟩
  case false =>
    have HO := Lib.hid ho
    have HCL := Lib.hid (opn_closed n ho)
    clear ho
    obtain ⟨L, hL⟩ : ∃ L, L = outP (flOf x) n f := ⟨_, rfl⟩
    have HL := Lib.hid hL
    have hlen : L.length ≤ 140737488351232 := by rw [hL]; exact out_small (by omega)
    have HRL : Hid (Rng L) := Lib.hid (by rw [hL]; exact out_rng HRG.out)
    clear hL
    have HW1 : Hid (Wrote2 x n f L) := Lib.hid (by rw [HL.out]; exact closed_wrote x n f (by omega) HCL.out)
    have HW2 : Hid (Wrote2 (mixF x y) n f L) := Lib.hid (by rw [HL.out, ← mix_fl x y HX.out.1 HX.out.2]; exact closed_wrote _ n f (by omega) HCL.out)
    have HM := Lib.hid (mix_rng x y HX.out.1 HX.out.2)
    go_enter Tryd.func3, Tryd.ntmps3
    go_wp2_with fail
    refine (isFlags_any x w).mono ?_
    rintro e w' ⟨rfl, rfl⟩
    rw [HF.out]
    go_wp2_with fail
    refine (isFlags_any y w).mono ?_
    rintro e w' ⟨rfl, rfl⟩
    rw [HG.out]
    go_wp2_with fail
    refine (isClosed_any A n cap f w w.heap.size HR.out (by omega)).mono ?_
    rintro e w' ⟨rfl, rfl⟩
    rw [HO.out]
    go_wp2_with fail
    refine (clone_any A n cap f w HR.out (by omega)).mono ?_
    rintro e w1 ⟨A1, c1, rfl, HC1, hb1⟩
    go_wp2_with fail
    refine (pants_of2 x HX.out.1.1 HX.out.1.2 n f L HRL.out (by omega) hlen HW1.out w1 A1 c1 HC1.out.2.1).mono ?_
    rintro e w2 ⟨A2, c2, rfl, HR2, hb2⟩
    have HB2 : Hid (Below w.heap.size w w2) := Lib.hid (hb1.trans (hb2.mono hb1.size))
    clear hb1 hb2
    have HRw2 : Hid (RB w2 w2.heap.size A n cap f) := Lib.hid ((HR.out.below HB2.out).more HB2.out.size)
    go_wp2_with fail
    refine (clone_any A n cap f w2 HRw2.out (by omega)).mono ?_
    rintro e w3 ⟨A3, c3, rfl, HC3, hb3⟩
    have HB3 := Lib.hid hb3
    clear hb3
    go_wp2_with fail
    refine (pants_of2 (mixF x y) HM.out.1 HM.out.2 n f L HRL.out (by omega) hlen HW2.out w3 A3 c3 HC3.out.2.1).mono ?_
    rintro e w4 ⟨A4, c4, rfl, HR4, hb4⟩
    have HB4 : Hid (Below w2.heap.size w2 w4) := Lib.hid (HB3.out.trans (hb4.mono HB3.out.size))
    clear hb4
    have HRw4 : Hid (RB w4 w4.heap.size A2 L.length c2 (fun j => L.getD j 0)) := Lib.hid ((HR2.out.below HB4.out).more HB4.out.size)
    have HSA : Hid (sameB L.length L.length (fun j => L.getD j 0) (fun j => L.getD j 0) = true) := Lib.hid (by simp [sameB])
    go_wp2_with fail
    refine (equal_any A2 A4 L.length c2 L.length c4 _ _ w4 w4.heap.size HRw4.out HR4.out).mono ?_
    rintro e w5 ⟨rfl, rfl⟩
    rw [HSA.out]
    go_wp2_with fail
    refine (pants_dots w4).mono ?_
    rintro e w6 ⟨A6, c6, rfl, hcv, hb6⟩
    go_wp2_with fail
    go_ret
    exact ⟨rfl, (HB2.out.trans (HB4.out.mono HB2.out.size)).trans (hb6.mono (Nat.le_trans HB2.out.size HB4.out.size))⟩

theorem door_met (os : Os) (args : Array Value) : laidMetH Tryd.prog [("bytes.ErrTooLarge", Rows.laid_bytes_ErrTooLarge)] ((World.doorLaid Tryd.prog 28 os).forCall (fun _ _ => 0) ⟨#[], args, []⟩).memory :=
  laidMetH_of_parts3 (fuel := 8) (laidMet_of_run' 8 (by kernel_rfl) (by kernel_rfl)) (by kernel_rfl) (by kernel_rfl)
set_option maxRecDepth 100000 in
theorem lifted (os : Os) (started : os.Started) (H : Type) (enc : TypeId × Value → H) :
    ReturnsInHanded {} Tryd.checked os 3 .any (fun w args => (Rows.fnPantsFlagsSpec.pre enc Tryd.prog Tryd.f3 [] false w args ∧ laidMetH Tryd.prog [("bytes.ErrTooLarge", Rows.laid_bytes_ErrTooLarge)] w) ∧ sizedMet enc Tryd.prog Tryd.f3 (OpenSpec.ofChange Rows.fnPantsFlagsSpec) false w args) (Rows.fnPantsFlagsSpec.post enc Tryd.prog Tryd.f3 false true false false) := by
  refine returnsInHanded_of_change_and (C := Tryd.checked) (X := fun w _ => laidMetH Tryd.prog [("bytes.ErrTooLarge", Rows.laid_bytes_ErrTooLarge)] w) (fun _ _ _ hh h => h.of_heap hh) own started (by kernel_rfl) Tryd.func3
    (ChangeSpec.witness_shaped (enc := enc) (C := Tryd.checked) (os := os) (X := fun w _ => laidMetH Tryd.prog [("bytes.ErrTooLarge", Rows.laid_bytes_ErrTooLarge)] w) false (World.doorLaid Tryd.prog 28 os) #[.int .i64 0, .int .i64 0, .slice none 0 0] 8 rfl (World.shaped_of_RefB (by kernel_rfl) (by kernel_rfl)) (by kernel_rfl) (by kernel_rfl) (by kernel_rfl) (door_met os _)) ?_
  intro W base args ds gs before hval0 hW _ _ _ _
  have hval : ∀ (j : Nat) t v, Tryd.f3.params[j]? = some t → args[j]? = some v → Value.okWide Tryd.prog W .any base t v := hval0
  have hW' := hW
  obtain ⟨p, q, hA0, hV, rfl, hfz, hnd⟩ := hW
  have hA : DataW.TrodAll enc Tryd.prog W 0 (fun _ => true) true Tryd.f3.params.toList args.toList ds p := hA0
  rw [Tryd.params3] at hA hval
  obtain ⟨v0, vs0, d0, ds0, p0, q0, hargs, rfl, rfl, h0, r0⟩ := trodAll_cons hA
  obtain ⟨v1, vs1, d1, ds1, p1, q1, rfl, rfl, rfl, h1, r1⟩ := trodAll_cons r0
  obtain ⟨v2, vs2, d2, ds2, p2, q2, rfl, rfl, rfl, h2, r2⟩ := trodAll_cons r1
  obtain ⟨rfl, rfl, rfl⟩ := trodAll_nil r2
  obtain rfl : args = #[v0, v1, v2] := by cases args; simp_all
  obtain ⟨rfl, rfl⟩ := trodVars_none hV
  obtain ⟨a0, rfl, rfl, rfl, w0⟩ := open_int Tryd.underlying2 (hval 0 2 v0 rfl rfl) h0
  obtain ⟨a1, rfl, rfl, rfl, w1⟩ := open_int Tryd.underlying2 (hval 1 2 v1 rfl rfl) h1
  obtain ⟨a2, len2, cap2, rfl⟩ := okWide_slice Tryd.underlying22 (hval 2 22 v2 rfl rfl)
  have k2 := h2
  have lt2 : ∀ x ∈ p2, x.block < W.heap.size := by obtain ⟨m, hm⟩ := k2; exact DataW.trod_lt m _ _ _ hm
  obtain ⟨z2, w2⟩ : ∃ l, RB W W.heap.size a2 len2 cap2 l := by
    obtain ⟨fuel, hf⟩ := h2
    rcases open_ints Tryd.underlying22 Tryd.underlying5 (by kernel_rfl) hf with ⟨hcs, _⟩ | ⟨x, l, c, zs, hcs, _, hl, hm, hz, _, hcell, hwz⟩
    · simp [Value.cells] at hcs
      obtain ⟨rfl, rfl, rfl⟩ := hcs
      exact ⟨_, RB.nil_ W _⟩
    · simp [Value.cells] at hcs
      obtain ⟨rfl, rfl, rfl⟩ := hcs
      exact ⟨_, RB.of_ints W x _ _ zs hl hm (by simpa using hz) hcell hwz⟩
  clear hA0 hval0
  refine (walk W a0 w0 a1 w1 a2 len2 cap2 z2 w2).mono fun e W' ⟨he, bel⟩ => ?_
  subst he
  exact ⟨_, rfl, _, _, _, [], _, [], hW', trodAll_mk1 (shut_bool Tryd.underlying4 _), (trodAll_cons_mk (shut_int Tryd.underlying2 w0) (trodAll_cons_mk (shut_int Tryd.underlying2 w1) (trodAll_cons_mk (Below.trod laidOut (by kernel_rfl) (of_decide_eq_true (by kernel_rfl)) k2 bel lt2) trodAll_mk0))), rfl, bel.frame _, fun h => by cases h⟩

theorem over : Rows.fnPantsFlagsRow.holds Tryd.pinned (OpenSpec.ofChange Rows.fnPantsFlagsSpec) :=
  OpenClaim.holds_of_wide 3 Tryd.f3 rfl rfl rfl rfl rfl rfl rfl ⟨rfl, rfl, rfl, rfl, rfl⟩ rfl rfl rfl rfl rfl (by kernel_rfl) Tryd.func3 (by kernel_rfl)
    (of_decide_eq_true (by kernel_rfl)) (by unfold Func.isWrapper; first | (rw [if_pos (by decide +kernel)]; kernel_rfl) | (rw [if_neg (by decide +kernel)]; exact ⟨rfl, rfl⟩))
    (fun os started H enc _ => lifted os started H enc)

theorem card : Rows.FnPantsFlagsCardSaid :=
  Claim7.holds_tied_plain_at .later [] [.sentinel] true (true, "fafc4d9f9c167d65aaf53a297299f259ece7e742221cd412426f4260d8d50722") false
    over (fun _ h => by cases h) (by kernel_rfl) (fun _ h => by cases h) fnPantsFlags_row_tie rfl ⟨rfl, rfl⟩ (by kernel_rfl) rfl
    (fun f fn hf hfn => by
      obtain rfl : f = 3 := Option.some.inj ((show Tryd.prog.funcNamed "pub-pamphlet/laws.FnPantsFlags" = some 3 by kernel_rfl).symm.trans hf) |>.symm
      obtain rfl : fn = Tryd.f3 := (Option.some.inj (Tryd.func3.symm.trans hfn)).symm
      exact ⟨by kernel_rfl, fun j t ht => by
        rw [Tryd.params3] at ht
        have hm : t ∈ [2, 2, 22] := by simpa using Array.mem_of_getElem? ht
        have hall : ([2, 2, 22].all fun u => !Tryd.prog.wantsStandIn u) = true := by kernel_rfl
        exact (show Tryd.prog.wantsStandIn t = false by simpa using List.all_eq_true.1 hall t hm)⟩)
    (by kernel_rfl)
theorem proved : Rows.FnPantsFlagsCardSaid := card
#print axioms proved
end Go.Proofs.YtghmbpogniopoaaDoor.fnPantsFlags
