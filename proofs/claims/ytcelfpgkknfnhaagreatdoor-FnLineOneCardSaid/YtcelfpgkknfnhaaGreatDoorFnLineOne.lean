/- For every integer and every slice of bytes the law FnLineOne returns true: what begins a line of a text of at most 1000 bytes that ends with a line feed does not begin it as anything else, at any extensions. No condition. -/
import Derived.Test.YtcelfpgkknfnhaaGreatDoorL18
import Derived.ProofKit
import Derived.LaidMore
import Derived.Stop.Joined
import Derived.SevenTiedAt
import Derived.Test.YtcelfpgkknfnhaaGreatDoorCards
import Derived.Test.YtcelfpgkknfnhaaGreatDoorTie
import Derived.OpenShut
import Derived.ShutString
import Derived.ChangeOld
namespace Go.Proofs.YtcelfpgkknfnhaaGreatDoor.fnLineOne
open Go.ChangeShapes Go.WideShapes Go.ChangeAt Go.RowKit
open Go.ChangeMaps (open_string shut_string)
set_option linter.unusedVariables false

theorem own : ownKnob Tryz.prog.godebug = none := by kernel_rfl
theorem laidOut : laidOutB Tryz.prog = true := by kernel_rfl

set_option maxHeartbeats 4000000 in
set_option maxRecDepth 100000 in
theorem walk (w : World) (x : Int) (hx : (Lit.int .i64 x).wf = true) (A : Option Addr) (n cap : Nat) (f : Nat → Int) (h : RB w w.heap.size A n cap f) :
    Calls Tryz.prog 5 #[.int .i64 x, .slice A n cap] w fun e w' => e = .returned (.bool true) ∧ Below w.heap.size w w' := by
  have hcap := h.cap
  have hm := h.2.1
  unfold maxLen at hm
  clear hx
  by_cases h1 : 2147483647 < n
  · clear h
    go_enter Tryz.func5, Tryz.ntmps5
    go_wp2_with fail
    go_ret
    exact ⟨rfl, Below.refl _ _⟩
  have HR := Lib.hid h
  clear h hm
  cases hl : islB x n f
  · have HL := Lib.hid hl
    clear hl
    go_enter Tryz.func5, Tryz.ntmps5
    go_wp2_with fail
    refine (isLine_any x A n cap f w _ HR.out (by omega)).mono ?_
    rintro e w' ⟨rfl, rfl⟩
    rw [HL.out]
    go_wp2_with fail
    go_ret
    exact ⟨rfl, Below.refl _ _⟩
  obtain ⟨⟨hx0, hx1⟩, hn0, hn1, h10⟩ := isl_of hl
  have HE := Lib.hid (lend_of hn0 h10)
  have H10 := Lib.hid h10
  have HL := Lib.hid hl
  clear hl h10
  generalize hle : scan (isB 10) n f 0 = le at HE
  clear hle
  go_enter Tryz.func5, Tryz.ntmps5
  go_wp2_with fail
  refine (isLine_any x A n cap f w _ HR.out (by omega)).mono ?_
  rintro e w' ⟨rfl, rfl⟩
  rw [HL.out]
  go_wp2_with fail
  refine (clone_any A n cap f w HR.out (by omega)).mono ?_
  rintro e w1 ⟨A1, c1, rfl, HC1, hb1⟩
  go_wp2_with fail
  refine (lineOf_any x A1 n c1 f le w1 HC1.out.2.1 HE.out H10.out hx0 hx1 hn0 (by omega)).mono ?_
  rintro e w2 ⟨⟨hb, rfl, _, hh⟩, hb2⟩
  have O := one_of hn0 H10.out HE.out hh
  clear hh
  unfold LineV
  have HB := Lib.hid (hb1.trans (hb2.mono hb1.size))
  have hz : w.heap.size ≤ w2.heap.size := Nat.le_trans hb1.size hb2.size
  clear hb1 hb2
  generalize ((emptyF n f : Nat) : Int) = e at O
  generalize ((unF n f : Nat) : Int) = un at O
  generalize ((quoF n f : Nat) : Int) = q at O
  generalize ((codeF n f : Nat) : Int) = c at O
  generalize ((uliF n f : Nat) : Int) = u at O
  generalize ((numF n f : Nat) : Int) = o at O
  generalize ((dliF n f : Nat) : Int) = d at O
  generalize ruleF le f = r at O
  obtain ⟨pos, kq, ku, ko, kd, kh, ke⟩ := O

  by_cases hq : 0 < q
  · obtain ⟨z1, z2, z3, rfl, z5, z6⟩ := kq hq
    subst z1 z2 z3 z5 z6
    clear kq ku ko kd kh ke pos
    go_wp2_with fail
    refine wp_loop_rounds 6 ?_
    rw [rounds_succ]; go_wp2
    rw [rounds_succ]; go_wp2
    rw [rounds_succ]; go_wp2
    rw [rounds_succ]; go_wp2
    rw [rounds_succ]; go_wp2
    rw [rounds_succ]; go_wp2_with fail
    refine (awake_any _).mono ?_
    rintro e w5 ⟨rfl, hb5⟩
    go_wp2_with fail
    go_ret
    exact ⟨rfl, ((HB.out.alloc hz _).alloc (by simp; omega) _).trans (hb5.mono (by simp; omega))⟩
  by_cases hu : 0 < u
  · obtain ⟨z1, z2, z3, rfl, z5, z6⟩ := ku hu
    subst z1 z2 z3 z5 z6
    clear kq ku ko kd kh ke pos
    go_wp2_with fail
    refine wp_loop_rounds 6 ?_
    rw [rounds_succ]; go_wp2
    rw [rounds_succ]; go_wp2
    rw [rounds_succ]; go_wp2
    rw [rounds_succ]; go_wp2
    rw [rounds_succ]; go_wp2
    rw [rounds_succ]; go_wp2_with fail
    refine (awake_any _).mono ?_
    rintro e w5 ⟨rfl, hb5⟩
    go_wp2_with fail
    go_ret
    exact ⟨rfl, ((HB.out.alloc hz _).alloc (by simp; omega) _).trans (hb5.mono (by simp; omega))⟩
  by_cases ho : 0 < o
  · obtain ⟨z1, z2, z3, rfl, z5, z6⟩ := ko ho
    subst z1 z2 z3 z5 z6
    clear kq ku ko kd kh ke pos
    go_wp2_with fail
    refine wp_loop_rounds 6 ?_
    rw [rounds_succ]; go_wp2
    rw [rounds_succ]; go_wp2
    rw [rounds_succ]; go_wp2
    rw [rounds_succ]; go_wp2
    rw [rounds_succ]; go_wp2
    rw [rounds_succ]; go_wp2_with fail
    refine (awake_any _).mono ?_
    rintro e w5 ⟨rfl, hb5⟩
    go_wp2_with fail
    go_ret
    exact ⟨rfl, ((HB.out.alloc hz _).alloc (by simp; omega) _).trans (hb5.mono (by simp; omega))⟩
  by_cases hd : 0 < d
  · obtain ⟨z1, z2, z3, rfl, z5, z6⟩ := kd hd
    subst z1 z2 z3 z5 z6
    clear kq ku ko kd kh ke pos
    go_wp2_with fail
    refine wp_loop_rounds 6 ?_
    rw [rounds_succ]; go_wp2
    rw [rounds_succ]; go_wp2
    rw [rounds_succ]; go_wp2
    rw [rounds_succ]; go_wp2
    rw [rounds_succ]; go_wp2
    rw [rounds_succ]; go_wp2_with fail
    refine (awake_any _).mono ?_
    rintro e w5 ⟨rfl, hb5⟩
    go_wp2_with fail
    go_ret
    exact ⟨rfl, ((HB.out.alloc hz _).alloc (by simp; omega) _).trans (hb5.mono (by simp; omega))⟩
  obtain rfl : q = 0 := by omega
  obtain rfl : u = 0 := by omega
  obtain rfl : o = 0 := by omega
  obtain rfl : d = 0 := by omega
  clear hq hu ho hd kq ku ko kd
  cases hb with
  | true =>
    obtain ⟨_, _, _, _, z5, z6⟩ := kh rfl
    subst z5 z6
    clear kh ke pos
    go_wp2_with fail
    refine wp_loop_rounds 6 ?_
    rw [rounds_succ]; go_wp2
    rw [rounds_succ]; go_wp2
    rw [rounds_succ]; go_wp2
    rw [rounds_succ]; go_wp2
    rw [rounds_succ]; go_wp2
    rw [rounds_succ]; go_wp2_with fail
    refine (awake_any _).mono ?_
    rintro e w5 ⟨rfl, hb5⟩
    go_wp2_with fail
    go_ret
    exact ⟨rfl, ((HB.out.alloc hz _).alloc (by simp; omega) _).trans (hb5.mono (by simp; omega))⟩
  | false =>
    clear kh
    by_cases h : 0 < e ∨ 0 < c
    · obtain ⟨rfl, rfl⟩ := ke h
      clear ke h
      by_cases he : 0 < e
      · by_cases hc : 0 < c
        · go_wp2_with fail
          refine wp_loop_rounds 6 ?_
          rw [rounds_succ]; go_wp2
          rw [rounds_succ]; go_wp2
          rw [rounds_succ]; go_wp2
          rw [rounds_succ]; go_wp2
          rw [rounds_succ]; go_wp2
          rw [rounds_succ]; go_wp2_with fail
          refine (awake_any _).mono ?_
          rintro e w5 ⟨rfl, hb5⟩
          go_wp2_with fail
          go_ret
          exact ⟨rfl, ((HB.out.alloc hz _).alloc (by simp; omega) _).trans (hb5.mono (by simp; omega))⟩
        · go_wp2_with fail
          refine wp_loop_rounds 6 ?_
          rw [rounds_succ]; go_wp2
          rw [rounds_succ]; go_wp2
          rw [rounds_succ]; go_wp2
          rw [rounds_succ]; go_wp2
          rw [rounds_succ]; go_wp2
          rw [rounds_succ]; go_wp2_with fail
          refine (awake_any _).mono ?_
          rintro e w5 ⟨rfl, hb5⟩
          go_wp2_with fail
          go_ret
          exact ⟨rfl, ((HB.out.alloc hz _).alloc (by simp; omega) _).trans (hb5.mono (by simp; omega))⟩
      · by_cases hc : 0 < c
        · go_wp2_with fail
          refine wp_loop_rounds 6 ?_
          rw [rounds_succ]; go_wp2
          rw [rounds_succ]; go_wp2
          rw [rounds_succ]; go_wp2
          rw [rounds_succ]; go_wp2
          rw [rounds_succ]; go_wp2
          rw [rounds_succ]; go_wp2_with fail
          refine (awake_any _).mono ?_
          rintro e w5 ⟨rfl, hb5⟩
          go_wp2_with fail
          go_ret
          exact ⟨rfl, ((HB.out.alloc hz _).alloc (by simp; omega) _).trans (hb5.mono (by simp; omega))⟩
        · go_wp2_with fail
          refine wp_loop_rounds 6 ?_
          rw [rounds_succ]; go_wp2
          rw [rounds_succ]; go_wp2
          rw [rounds_succ]; go_wp2
          rw [rounds_succ]; go_wp2
          rw [rounds_succ]; go_wp2
          rw [rounds_succ]; go_wp2_with fail
          refine (awake_any _).mono ?_
          rintro e w5 ⟨rfl, hb5⟩
          go_wp2_with fail
          go_ret
          exact ⟨rfl, ((HB.out.alloc hz _).alloc (by simp; omega) _).trans (hb5.mono (by simp; omega))⟩
    · obtain rfl : e = 0 := by omega
      obtain rfl : c = 0 := by omega
      clear ke h pos
      go_wp2_with fail
      refine wp_loop_rounds 6 ?_
      rw [rounds_succ]; go_wp2
      rw [rounds_succ]; go_wp2
      rw [rounds_succ]; go_wp2
      rw [rounds_succ]; go_wp2
      rw [rounds_succ]; go_wp2
      rw [rounds_succ]; go_wp2_with fail
      refine (awake_any _).mono ?_
      rintro e w5 ⟨rfl, hb5⟩
      go_wp2_with fail
      go_ret
      exact ⟨rfl, ((HB.out.alloc hz _).alloc (by simp; omega) _).trans (hb5.mono (by simp; omega))⟩

theorem door_met (os : Os) (args : Array Value) : laidMetH Tryz.prog [("math/bits.deBruijn32tab", Rows.laid_math_bits_deBruijn32tab), ("math/bits.deBruijn64tab", Rows.laid_math_bits_deBruijn64tab), ("internal/strconv.uint64pow10", Rows.laid_internal_strconv_uint64pow10), ("bytes.ErrTooLarge", Rows.laid_bytes_ErrTooLarge)] ((World.doorLaid Tryz.prog 43 os).forCall (fun _ _ => 0) ⟨#[], args, []⟩).memory :=
  laidMetH_of_parts3 (fuel := 8) (laidMet_of_run' 8 (by kernel_rfl) (by kernel_rfl)) (by kernel_rfl) (by kernel_rfl)
set_option maxRecDepth 100000 in
theorem lifted (os : Os) (started : os.Started) (H : Type) (enc : TypeId × Value → H) :
    ReturnsInHanded {} Tryz.checked os 5 .any (fun w args => (Rows.fnLineOneSpec.pre enc Tryz.prog Tryz.f5 [] false w args ∧ laidMetH Tryz.prog [("math/bits.deBruijn32tab", Rows.laid_math_bits_deBruijn32tab), ("math/bits.deBruijn64tab", Rows.laid_math_bits_deBruijn64tab), ("internal/strconv.uint64pow10", Rows.laid_internal_strconv_uint64pow10), ("bytes.ErrTooLarge", Rows.laid_bytes_ErrTooLarge)] w) ∧ sizedMet enc Tryz.prog Tryz.f5 (OpenSpec.ofChange Rows.fnLineOneSpec) false w args) (Rows.fnLineOneSpec.post enc Tryz.prog Tryz.f5 false true false false) := by
  refine returnsInHanded_of_change_and (C := Tryz.checked) (X := fun w _ => laidMetH Tryz.prog [("math/bits.deBruijn32tab", Rows.laid_math_bits_deBruijn32tab), ("math/bits.deBruijn64tab", Rows.laid_math_bits_deBruijn64tab), ("internal/strconv.uint64pow10", Rows.laid_internal_strconv_uint64pow10), ("bytes.ErrTooLarge", Rows.laid_bytes_ErrTooLarge)] w) (fun _ _ _ hh h => h.of_heap hh) own started (by kernel_rfl) Tryz.func5
    (ChangeSpec.witness_shaped (enc := enc) (C := Tryz.checked) (os := os) (X := fun w _ => laidMetH Tryz.prog [("math/bits.deBruijn32tab", Rows.laid_math_bits_deBruijn32tab), ("math/bits.deBruijn64tab", Rows.laid_math_bits_deBruijn64tab), ("internal/strconv.uint64pow10", Rows.laid_internal_strconv_uint64pow10), ("bytes.ErrTooLarge", Rows.laid_bytes_ErrTooLarge)] w) false (World.doorLaid Tryz.prog 43 os) #[.int .i64 0, .slice none 0 0] 8 rfl (World.shaped_of_RefB (by kernel_rfl) (by kernel_rfl)) (by kernel_rfl) (by kernel_rfl) (by kernel_rfl) (door_met os _)) ?_
  intro W base args ds gs before hval0 hW _ _ _ _
  have hval : ∀ (j : Nat) t v, Tryz.f5.params[j]? = some t → args[j]? = some v → Value.okWide Tryz.prog W .any base t v := hval0
  have hW' := hW
  obtain ⟨p, q, hA0, hV, rfl, hfz, hnd⟩ := hW
  have hA : DataW.TrodAll enc Tryz.prog W 0 (fun _ => true) true Tryz.f5.params.toList args.toList ds p := hA0
  rw [Tryz.params5] at hA hval
  obtain ⟨v0, vs0, d0, ds0, p0, q0, hargs, rfl, rfl, h0, r0⟩ := trodAll_cons hA
  obtain ⟨v1, vs1, d1, ds1, p1, q1, rfl, rfl, rfl, h1, r1⟩ := trodAll_cons r0
  obtain ⟨rfl, rfl, rfl⟩ := trodAll_nil r1
  obtain rfl : args = #[v0, v1] := by cases args; simp_all
  obtain ⟨rfl, rfl⟩ := trodVars_none hV
  obtain ⟨a0, rfl, rfl, rfl, w0⟩ := open_int Tryz.underlying2 (hval 0 2 v0 rfl rfl) h0
  obtain ⟨a1, len1, cap1, rfl⟩ := okWide_slice Tryz.underlying22 (hval 1 22 v1 rfl rfl)
  have k1 := h1
  have lt1 : ∀ x ∈ p1, x.block < W.heap.size := by obtain ⟨m, hm⟩ := k1; exact DataW.trod_lt m _ _ _ hm
  obtain ⟨z1, w1⟩ : ∃ l, RB W W.heap.size a1 len1 cap1 l := by
    obtain ⟨fuel, hf⟩ := h1
    rcases open_ints Tryz.underlying22 Tryz.underlying5 (by kernel_rfl) hf with ⟨hcs, _⟩ | ⟨x, l, c, zs, hcs, _, hl, hm, hz, _, hcell, hwz⟩
    · simp [Value.cells] at hcs
      obtain ⟨rfl, rfl, rfl⟩ := hcs
      exact ⟨_, RB.nil_ W _⟩
    · simp [Value.cells] at hcs
      obtain ⟨rfl, rfl, rfl⟩ := hcs
      exact ⟨_, RB.of_ints W x _ _ zs hl hm (by simpa using hz) hcell hwz⟩
  clear hA0 hval0
  refine (walk W a0 w0 a1 len1 cap1 z1 w1).mono fun e W' ⟨he, bel⟩ => ?_
  subst he
  exact ⟨_, rfl, _, _, _, [], _, [], hW', trodAll_mk1 (shut_bool Tryz.underlying4 _), (trodAll_cons_mk (shut_int Tryz.underlying2 w0) (trodAll_cons_mk (Below.trod laidOut (by kernel_rfl) (of_decide_eq_true (by kernel_rfl)) k1 bel lt1) trodAll_mk0)), rfl, bel.frame _, fun h => by cases h⟩

theorem over : Rows.fnLineOneRow.holds Tryz.pinned (OpenSpec.ofChange Rows.fnLineOneSpec) :=
  OpenClaim.holds_of_wide 5 Tryz.f5 rfl rfl rfl rfl rfl rfl rfl ⟨rfl, rfl, rfl, rfl, rfl⟩ rfl rfl rfl rfl rfl (by kernel_rfl) Tryz.func5 (by kernel_rfl)
    (of_decide_eq_true (by kernel_rfl)) (by unfold Func.isWrapper; first | (rw [if_pos (by decide +kernel)]; kernel_rfl) | (rw [if_neg (by decide +kernel)]; exact ⟨rfl, rfl⟩))
    (fun os started H enc _ => lifted os started H enc)

theorem card : Rows.FnLineOneCardSaid :=
  Claim7.holds_tied_plain_at .later [] [.data, .data, .data, .sentinel] true (true, "322648f45aa6df130980e1c862317f3b39b5593b9b018bddc2f9950a4379db51") false
    over (fun _ h => by cases h) (by kernel_rfl) (fun _ h => by cases h) fnLineOne_row_tie rfl ⟨rfl, rfl⟩ (by kernel_rfl) rfl
    (fun f fn hf hfn => by
      obtain rfl : f = 5 := Option.some.inj ((show Tryz.prog.funcNamed "pub-pamphlet/laws.FnLineOne" = some 5 by kernel_rfl).symm.trans hf) |>.symm
      obtain rfl : fn = Tryz.f5 := (Option.some.inj (Tryz.func5.symm.trans hfn)).symm
      exact ⟨by kernel_rfl, fun j t ht => by
        rw [Tryz.params5] at ht
        have hm : t ∈ [2, 22] := by simpa using Array.mem_of_getElem? ht
        have hall : ([2, 22].all fun u => !Tryz.prog.wantsStandIn u) = true := by kernel_rfl
        exact (show Tryz.prog.wantsStandIn t = false by simpa using List.all_eq_true.1 hall t hm)⟩)
    (by kernel_rfl)
theorem proved : Rows.FnLineOneCardSaid := card
#print axioms proved
end Go.Proofs.YtcelfpgkknfnhaaGreatDoor.fnLineOne
