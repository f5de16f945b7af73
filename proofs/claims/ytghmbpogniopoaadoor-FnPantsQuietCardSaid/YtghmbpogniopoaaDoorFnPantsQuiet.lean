/- For every flags and every slice of bytes the law FnPantsQuiet returns true: of at most 2000 bytes none of which is a mark, the package hands the text back. No condition. -/
import Derived.Test.YtghmbpogniopoaaDoorQ6
import Derived.ProofKit
import Derived.LaidMore
import Derived.Stop.Joined
import Derived.SevenTiedAt
import Derived.Test.YtghmbpogniopoaaDoorCards
import Derived.Test.YtghmbpogniopoaaDoorTie
import Derived.OpenShut
import Derived.ShutString
import Derived.ChangeOld
namespace Go.Proofs.YtghmbpogniopoaaDoor.fnPantsQuiet
open Go.ChangeShapes Go.WideShapes Go.ChangeAt Go.RowKit
open Go.ChangeMaps (open_string shut_string)
set_option linter.unusedVariables false

theorem own : ownKnob Tryd.prog.godebug = none := by kernel_rfl
theorem laidOut : laidOutB Tryd.prog = true := by kernel_rfl

set_option maxHeartbeats 2000000 in
set_option maxRecDepth 100000 in
theorem walk (w : World) (x : Int) (hx : (Lit.int .i64 x).wf = true) (A : Option Addr) (n cap : Nat) (f : Nat → Int) (h : RB w w.heap.size A n cap f) :
    Calls Tryd.prog 4 #[.int .i64 x, .slice A n cap] w fun e w' => e = .returned (.bool true) ∧ Below w.heap.size w w' := by
  have hcap := h.cap
  have hm := h.2.1
  unfold maxLen at hm
  by_cases h1 : 2147483647 < n
  · clear h
    go_enter Tryd.func4, Tryd.ntmps4
    go_wp2_with fail
    go_ret
    exact ⟨rfl, Below.refl _ _⟩
  have HR := Lib.hid h
  have hrg := h.rng
  clear h hm
  by_cases hf : (decide (0 ≤ x) && decide (x < 524288)) = true
  case neg =>
    have hf' : (decide (0 ≤ x) && decide (x < 524288)) = false := by simpa using hf
    have HF := Lib.hid hf'
    clear hf hf' hrg
    go_enter Tryd.func4, Tryd.ntmps4
    go_wp2_with fail
    refine (isFlags_any x w).mono ?_
    rintro e w' ⟨rfl, rfl⟩
    rw [HF.out]
    go_wp2_with fail
    go_ret
    exact ⟨rfl, Below.refl _ _⟩
  have HF := Lib.hid hf
  simp at hf
  obtain ⟨hx0, hx1⟩ := hf
  by_cases h2 : 2000 < n
  · clear hrg
    go_enter Tryd.func4, Tryd.ntmps4
    go_wp2_with fail
    refine (isFlags_any x w).mono ?_
    rintro e w' ⟨rfl, rfl⟩
    rw [HF.out]
    go_wp2_with fail
    go_ret
    exact ⟨rfl, Below.refl _ _⟩
  have HX := Lib.hid (And.intro hx0 hx1)
  have HRG := Lib.hid hrg
  clear hx0 hx1 hrg
  have kc := fun (w : World) (C : Array Value) (n c : Nat) => Lib.run_convert_bytes_const (P := Tryd.prog) w 22 5 C n c Tryd.underlying22 Tryd.underlying5
  go_enter Tryd.func4, Tryd.ntmps4
  go_wp2_with fail
  refine (isFlags_any x w).mono ?_
  rintro e w' ⟨rfl, rfl⟩
  rw [HF.out]
  go_wp2_with fail
  refine (isQuiet_any A n cap f w w.heap.size HR.out (by omega)).mono ?_
  rintro e w' ⟨⟨v, rfl, hq⟩, rfl⟩
  have HQ := Lib.hid hq
  clear hq
  cases v
  · go_wp2_with fail
    go_ret
    exact ⟨rfl, Below.refl _ _⟩
  go_wp2_with fail
  refine (clone_any A n cap f w HR.out (by omega)).mono ?_
  rintro e w1 ⟨A1, c1, rfl, HC1, hb1⟩
  go_wp2_with fail
  refine (pants_of x HX.out.1 HX.out.2 n f n f HRG.out (by omega) (by omega) (quiet_wrote x n f (by omega) HRG.out (HQ.out trivial)) w1 A1 c1 HC1.out.2.1).mono ?_
  rintro e w2 ⟨A2, c2, rfl, HR2, hb2⟩
  have hsame : sameB n n f f = true := by simp [sameB]
  have HSA := Lib.hid hsame
  clear hsame
  go_wp2_with fail
  refine (equal_any A2 A n c2 n cap f f w2 w2.heap.size HR2.out (((HR.out.below hb1).below (hb2.mono hb1.size)).more (Nat.le_trans hb1.size hb2.size))).mono ?_
  rintro e w4 ⟨rfl, rfl⟩
  rw [HSA.out]
  go_wp2_with fail
  refine (pants_dots w2).mono ?_
  rintro e w5 ⟨A5, c5, rfl, hcv, hb5⟩
  go_wp2_with fail
  go_ret
  exact ⟨rfl, (hb1.trans (hb2.mono hb1.size)).trans (hb5.mono (Nat.le_trans hb1.size hb2.size))⟩

theorem door_met (os : Os) (args : Array Value) : laidMetH Tryd.prog [("bytes.ErrTooLarge", Rows.laid_bytes_ErrTooLarge)] ((World.doorLaid Tryd.prog 28 os).forCall (fun _ _ => 0) ⟨#[], args, []⟩).memory :=
  laidMetH_of_parts3 (fuel := 8) (laidMet_of_run' 8 (by kernel_rfl) (by kernel_rfl)) (by kernel_rfl) (by kernel_rfl)
set_option maxRecDepth 100000 in
theorem lifted (os : Os) (started : os.Started) (H : Type) (enc : TypeId × Value → H) :
    ReturnsInHanded {} Tryd.checked os 4 .any (fun w args => (Rows.fnPantsQuietSpec.pre enc Tryd.prog Tryd.f4 [] false w args ∧ laidMetH Tryd.prog [("bytes.ErrTooLarge", Rows.laid_bytes_ErrTooLarge)] w) ∧ sizedMet enc Tryd.prog Tryd.f4 (OpenSpec.ofChange Rows.fnPantsQuietSpec) false w args) (Rows.fnPantsQuietSpec.post enc Tryd.prog Tryd.f4 false true false false) := by
  refine returnsInHanded_of_change_and (C := Tryd.checked) (X := fun w _ => laidMetH Tryd.prog [("bytes.ErrTooLarge", Rows.laid_bytes_ErrTooLarge)] w) (fun _ _ _ hh h => h.of_heap hh) own started (by kernel_rfl) Tryd.func4
    (ChangeSpec.witness_shaped (enc := enc) (C := Tryd.checked) (os := os) (X := fun w _ => laidMetH Tryd.prog [("bytes.ErrTooLarge", Rows.laid_bytes_ErrTooLarge)] w) false (World.doorLaid Tryd.prog 28 os) #[.int .i64 0, .slice none 0 0] 8 rfl (World.shaped_of_RefB (by kernel_rfl) (by kernel_rfl)) (by kernel_rfl) (by kernel_rfl) (by kernel_rfl) (door_met os _)) ?_
  intro W base args ds gs before hval0 hW _ _ _ _
  have hval : ∀ (j : Nat) t v, Tryd.f4.params[j]? = some t → args[j]? = some v → Value.okWide Tryd.prog W .any base t v := hval0
  have hW' := hW
  obtain ⟨p, q, hA0, hV, rfl, hfz, hnd⟩ := hW
  have hA : DataW.TrodAll enc Tryd.prog W 0 (fun _ => true) true Tryd.f4.params.toList args.toList ds p := hA0
  rw [Tryd.params4] at hA hval
  obtain ⟨v0, vs0, d0, ds0, p0, q0, hargs, rfl, rfl, h0, r0⟩ := trodAll_cons hA
  obtain ⟨v1, vs1, d1, ds1, p1, q1, rfl, rfl, rfl, h1, r1⟩ := trodAll_cons r0
  obtain ⟨rfl, rfl, rfl⟩ := trodAll_nil r1
  obtain rfl : args = #[v0, v1] := by cases args; simp_all
  obtain ⟨rfl, rfl⟩ := trodVars_none hV
  obtain ⟨a0, rfl, rfl, rfl, w0⟩ := open_int Tryd.underlying2 (hval 0 2 v0 rfl rfl) h0
  obtain ⟨a1, len1, cap1, rfl⟩ := okWide_slice Tryd.underlying22 (hval 1 22 v1 rfl rfl)
  have k1 := h1
  have lt1 : ∀ x ∈ p1, x.block < W.heap.size := by obtain ⟨m, hm⟩ := k1; exact DataW.trod_lt m _ _ _ hm
  obtain ⟨z1, w1⟩ : ∃ l, RB W W.heap.size a1 len1 cap1 l := by
    obtain ⟨fuel, hf⟩ := h1
    rcases open_ints Tryd.underlying22 Tryd.underlying5 (by kernel_rfl) hf with ⟨hcs, _⟩ | ⟨x, l, c, zs, hcs, _, hl, hm, hz, _, hcell, hwz⟩
    · simp [Value.cells] at hcs
      obtain ⟨rfl, rfl, rfl⟩ := hcs
      exact ⟨_, RB.nil_ W _⟩
    · simp [Value.cells] at hcs
      obtain ⟨rfl, rfl, rfl⟩ := hcs
      exact ⟨_, RB.of_ints W x _ _ zs hl hm (by simpa using hz) hcell hwz⟩
  clear hA0 hval0
  refine (walk W a0 w0 a1 len1 cap1 z1 w1).mono fun e W' ⟨he, bel⟩ => ?_
  subst he
  exact ⟨_, rfl, _, _, _, [], _, [], hW', trodAll_mk1 (shut_bool Tryd.underlying4 _), (trodAll_cons_mk (shut_int Tryd.underlying2 w0) (trodAll_cons_mk (Below.trod laidOut (by kernel_rfl) (of_decide_eq_true (by kernel_rfl)) k1 bel lt1) trodAll_mk0)), rfl, bel.frame _, fun h => by cases h⟩

theorem over : Rows.fnPantsQuietRow.holds Tryd.pinned (OpenSpec.ofChange Rows.fnPantsQuietSpec) :=
  OpenClaim.holds_of_wide 4 Tryd.f4 rfl rfl rfl rfl rfl rfl rfl ⟨rfl, rfl, rfl, rfl, rfl⟩ rfl rfl rfl rfl rfl (by kernel_rfl) Tryd.func4 (by kernel_rfl)
    (of_decide_eq_true (by kernel_rfl)) (by unfold Func.isWrapper; first | (rw [if_pos (by decide +kernel)]; kernel_rfl) | (rw [if_neg (by decide +kernel)]; exact ⟨rfl, rfl⟩))
    (fun os started H enc _ => lifted os started H enc)

theorem card : Rows.FnPantsQuietCardSaid :=
  Claim7.holds_tied_plain_at .later [] [.sentinel] true (true, "fafc4d9f9c167d65aaf53a297299f259ece7e742221cd412426f4260d8d50722") false
    over (fun _ h => by cases h) (by kernel_rfl) (fun _ h => by cases h) fnPantsQuiet_row_tie rfl ⟨rfl, rfl⟩ (by kernel_rfl) rfl
    (fun f fn hf hfn => by
      obtain rfl : f = 4 := Option.some.inj ((show Tryd.prog.funcNamed "pub-pamphlet/laws.FnPantsQuiet" = some 4 by kernel_rfl).symm.trans hf) |>.symm
      obtain rfl : fn = Tryd.f4 := (Option.some.inj (Tryd.func4.symm.trans hfn)).symm
      exact ⟨by kernel_rfl, fun j t ht => by
        rw [Tryd.params4] at ht
        have hm : t ∈ [2, 22] := by simpa using Array.mem_of_getElem? ht
        have hall : ([2, 22].all fun u => !Tryd.prog.wantsStandIn u) = true := by kernel_rfl
        exact (show Tryd.prog.wantsStandIn t = false by simpa using List.all_eq_true.1 hall t hm)⟩)
    (by kernel_rfl)
theorem proved : Rows.FnPantsQuietCardSaid := card
#print axioms proved
end Go.Proofs.YtghmbpogniopoaaDoor.fnPantsQuiet
