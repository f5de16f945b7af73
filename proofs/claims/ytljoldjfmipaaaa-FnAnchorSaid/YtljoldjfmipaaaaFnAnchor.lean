/- For every text the law FnAnchor returns true: of an ASCII text of at most 2000 bytes the package's anchor is the reference's. No condition. -/
import Derived.Test.YtljoldjfmipaaaaA3
import Derived.ProofKit
import Derived.OpenShut
import Derived.ShutString
import Derived.ChangeOld
namespace Go.Proofs.Ytljoldjfmipaaaa.fnAnchor
open Go.ChangeShapes Go.WideShapes Go.ChangeAt Go.RowKit
open Go.ChangeMaps (open_string shut_string)
set_option linter.unusedVariables false

theorem own : ownKnob Try.prog.godebug = none := by kernel_rfl

set_option maxHeartbeats 400000 in
theorem walk (s : ByteArray) (w0 : s.size ≤ maxLen) (w : World) :
    Calls Try.prog 3 #[.string s] w fun e w' => e = .returned (.bool true) ∧ Below w.heap.size w w' := by
  unfold maxLen at w0
  obtain ⟨f, hf, hr⟩ : ∃ f : Nat → Int, (∀ n (h : n < s.size), ((s[n]'h).toNat : Int) = f n) ∧ ∀ k, 0 ≤ f k ∧ f k ≤ 255 := ⟨_, bt_str s, fun k => ⟨bt_lo _ k, bt_hi _ k⟩⟩
  by_cases h1 : 2147483647 < s.size
  · clear hf hr
    go_enter Try.func3, Try.ntmps3
    go_wp2_with fail
    go_ret
    exact ⟨rfl, Below.refl _ _⟩
  · by_cases h2 : 2000 < s.size
    · clear hf hr
      go_enter Try.func3, Try.ntmps3
      go_wp2_with (go_at_call 9; refine (anchorAwake_any _).mono ?_; rintro e w' ⟨rfl, hb⟩)
      go_ret
      exact ⟨rfl, hb⟩
    · have hs : s.size ≤ 100000 := by omega
      have CP := fun W => Lib.hid (isPlain_any s f hf hs W)
      by_cases hp : isPlain f s.size = true
      · have hpl : ∀ k, k < s.size → 0 ≤ f k ∧ f k ≤ 127 := fun k hk => by
          simp [isPlain] at hp
          have := hp k hk; have := hr k; omega
        have CA := fun W => Lib.hid (implAnchor_any s f hf hpl hs W)
        have CS := fun W => Lib.hid (specAnchor_any s f hf hr hs W)
        clear hf hr hpl
        go_enter Try.func3, Try.ntmps3
        go_wp2_with (first
          | (go_at_call 8; refine (CP _).out.mono ?_; rintro e w' ⟨rfl, rfl⟩)
          | (go_at_call 10; refine (CA _).out.mono ?_; rintro e w1 ⟨rfl, hb1⟩)
          | (go_at_call 11; refine (CS _).out.mono ?_; rintro e w2 ⟨rfl, hb2⟩)
          | (go_at_call 9; refine (anchorAwake_any _).mono ?_; rintro e w3 ⟨rfl, hb3⟩))
        go_ret
        exact ⟨rfl, (hb1.trans (hb2.mono hb1.size)).trans (hb3.mono (Nat.le_trans hb1.size hb2.size))⟩
      · have hp' : isPlain f s.size = false := by simpa using hp
        clear hf hr hp
        go_enter Try.func3, Try.ntmps3
        go_wp2_with (first
          | (go_at_call 8; refine (CP _).out.mono ?_; rintro e w' ⟨rfl, rfl⟩)
          | (go_at_call 9; refine (anchorAwake_any _).mono ?_; rintro e w3 ⟨rfl, hb3⟩))
        go_ret
        exact ⟨rfl, hb3⟩

set_option maxRecDepth 100000 in
theorem lifted (os : Os) (started : os.Started) (H : Type) (enc : TypeId × Value → H) :
    ReturnsInHanded {} Try.checked os 3 .any (Rows.fnAnchorSpec.pre6 enc Try.prog Try.f3 Rows.fnAnchorRow.domain false) (Rows.fnAnchorSpec.post enc Try.prog Try.f3 false true false false) := by
  refine returnsInHanded_of_change (C := Try.checked) own started (by kernel_rfl) Try.func3
    (ChangeSpec.witness6 (enc := enc) (C := Try.checked) false ⟨#[], #[.string ByteArray.empty], []⟩ 8 (by kernel_rfl) (by kernel_rfl) (by kernel_rfl) (by kernel_rfl)) ?_
  intro W base args ds gs before hval0 hW hcnd _
  have hval : ∀ (j : Nat) t v, Try.f3.params[j]? = some t → args[j]? = some v → Value.okWide Try.prog W .any base t v := hval0
  have hW' := hW
  obtain ⟨p, q, hA0, hV, rfl, hfz, hnd⟩ := hW
  have hA : DataW.TrodAll enc Try.prog W 0 (fun _ => true) true Try.f3.params.toList args.toList ds p := hA0
  rw [Try.params3] at hA hval
  obtain ⟨v0, vs0, d0, ds0, p0, q0, hargs, rfl, rfl, h0, r0⟩ := trodAll_cons hA
  obtain ⟨rfl, rfl, rfl⟩ := trodAll_nil r0
  obtain rfl : args = #[v0] := by cases args; simp_all
  obtain ⟨rfl, rfl⟩ := trodVars_none hV
  obtain ⟨a0, rfl, rfl, rfl, w0⟩ := open_string Try.underlying9 (hval 0 9 v0 rfl rfl) h0
  clear hA0 hval0
  simp only [List.append_nil] at hW'
  refine (walk a0 w0 W).mono fun e W' ⟨he, bel⟩ => ?_
  subst he
  exact ⟨_, rfl, _, _, _, [], _, [], hW', trodAll_mk1 (shut_bool Try.underlying4 _), trodAll_cons_mk (shut_string Try.underlying9 w0) trodAll_mk0, rfl, bel.frame _, fun h => by cases h⟩

theorem over : Rows.fnAnchorRow.holds Try.pinned (OpenSpec.ofChange Rows.fnAnchorSpec) :=
  OpenClaim.holds_of_wide 3 Try.f3 rfl rfl rfl rfl rfl rfl rfl ⟨rfl, rfl, rfl, rfl, rfl⟩ rfl rfl rfl rfl rfl (by kernel_rfl) Try.func3 (by kernel_rfl)
    (of_decide_eq_true (by kernel_rfl)) (by unfold Func.isWrapper; first | (rw [if_pos (by decide +kernel)]; kernel_rfl) | (rw [if_neg (by decide +kernel)]; exact ⟨rfl, rfl⟩))
    (fun os started H enc _ => lifted os started H enc)

theorem proved : Rows.FnAnchorSaid := over
#print axioms proved
end Go.Proofs.Ytljoldjfmipaaaa.fnAnchor
