/- For every text the law FnAnchorShape returns true: of an ASCII text of at most 2000 bytes the anchor has no dash at its ends nor two side by side, else small letters and digits alone, and it is empty if the text has no letter and no digit. No condition. -/
import Derived.Test.YtljoldjfmipaaaaA4
import Derived.ProofKit
import Derived.OpenShut
import Derived.ShutString
import Derived.ChangeOld
namespace Go.Proofs.Ytljoldjfmipaaaa.fnAnchorShape
open Go.ChangeShapes Go.WideShapes Go.ChangeAt Go.RowKit
open Go.ChangeMaps (open_string shut_string)
set_option linter.unusedVariables false

theorem own : ownKnob Try.prog.godebug = none := by kernel_rfl
theorem laidOut : laidOutB Try.prog = true := by kernel_rfl

set_option maxHeartbeats 800000 in
theorem walk (s : ByteArray) (w0 : s.size ≤ maxLen) (w : World) :
    Calls Try.prog 5 #[.string s] w fun e w' => e = .returned (.bool true) ∧ Below w.heap.size w w' := by
  unfold maxLen at w0
  obtain ⟨f, hf, hr⟩ : ∃ f : Nat → Int, (∀ n (h : n < s.size), ((s[n]'h).toNat : Int) = f n) ∧ ∀ k, 0 ≤ f k ∧ f k ≤ 255 := ⟨_, bt_str s, fun k => ⟨bt_lo _ k, bt_hi _ k⟩⟩
  by_cases h1 : 2147483647 < s.size
  · clear hf hr
    go_enter Try.func5, Try.ntmps5
    go_wp2_with fail
    go_ret
    exact ⟨rfl, Below.refl _ _⟩
  · by_cases h2 : 2000 < s.size
    · clear hf hr
      go_enter Try.func5, Try.ntmps5
      go_wp2_with (go_at_call 9; refine (anchorAwake_any _).mono ?_; rintro e w' ⟨rfl, hb⟩)
      go_ret
      exact ⟨rfl, hb⟩
    · have hs : s.size ≤ 100000 := by omega
      have CP := fun W => Lib.hid (isPlain_any s f hf hs W)
      by_cases hp : isPlain f s.size = true
      · have hpl : ∀ k, k < s.size → 0 ≤ f k ∧ f k ≤ 127 := fun k hk => by
          simp [isPlain] at hp
          have := hp k hk; have := hr k; omega
        have CA : ∀ W, Hid (Calls Try.prog 10 #[.string s] W fun e w' => ∃ t : ByteArray, ∃ fo : Nat → Int, e = .returned (.string t) ∧ Hid (∀ n (h : n < t.size), ((t[n]'h).toNat : Int) = fo n) ∧ t.size ≤ 100000 ∧
            Hid (∀ i, i < t.size → (fo i = 45 → 0 < i ∧ i + 1 < t.size ∧ fo (i - 1) ≠ 45) ∧ (fo i ≠ 45 → (97 ≤ fo i ∧ fo i ≤ 122) ∨ (48 ≤ fo i ∧ fo i ≤ 57))) ∧ Hid (isGap f s.size = true → t.size = 0) ∧ Below W.heap.size W w') := fun W => by
          refine (implAnchor_any s f hf hpl hs W).mono fun e w' ⟨he, hb⟩ => ?_
          obtain ⟨o, ho⟩ : ∃ o, o = (aT f s.size).1 := ⟨_, rfl⟩
          have hrng := aT_rng f s.size
          have hlen := aT_len f s.size
          have hsh := shaped_aT f s.size
          have hgp : isGap f s.size = true → o = [] := fun hg => by
            rw [ho]; simp [isGap] at hg; exact gap_nil f s.size (fun j hj => (hg j hj).2)
          rw [← ho] at hrng hlen hsh he
          have hfo : ∀ n (h : n < (strOf o).size), (((strOf o)[n]'h).toNat : Int) = o.getD n 0 := fun n h => by
            rw [bt_str, strOf_list, bt_bytesOf o (fun x hx => by have := hrng x hx; omega), List.getD_eq_getElem?_getD]
          refine ⟨strOf o, fun n => o.getD n 0, he, hfo, by rw [strOf_size]; omega, ?_, fun hg => by rw [hgp hg]; rfl, hb⟩
          intro i hi
          rw [strOf_size] at hi ⊢
          exact hsh i hi
        have CG := fun W => Lib.hid (isGap_any s f hf hs W)
        clear hf hr hpl
        go_enter Try.func5, Try.ntmps5
        go_wp2_with (first
          | (go_at_call 8; refine (CP _).out.mono ?_; rintro e w' ⟨rfl, rfl⟩)
          | (go_at_call 10; refine (CA _).out.mono ?_; rintro e w1 ⟨t, fo, rfl, HFO, ht, HSH, HG, hb1⟩))
        have hfo := HFO.out
        go_loop [4] (fun i => ∃ (k : Nat), k ≤ t.size ∧ i = .int .i64 k) (fun i => t.size - (intOf i).toNat)
        case atStart => exact ⟨0, Nat.zero_le _, rfl⟩
        case round =>
          obtain ⟨k, hk, rfl⟩ := hrel
          by_cases hlt : k < t.size
          · obtain ⟨hs1, hs2⟩ := HSH.out k hlt
            by_cases hd : fo k = 45
            · obtain ⟨ha, hb, hc⟩ := hs1 hd
              clear hs1 hs2
              have e1 : (fo k == 45) = true := by simp [hd]
              have e2 : ((k : Int) == 0) = false := by simp; omega
              have e3 : ((k : Int) == (t.size : Int) - 1) = false := by simp; omega
              have e4 : (fo (k - 1) == 45) = false := by simpa using hc
              clear hd hc
              go_wp2
              go_round
              case rel => exact ⟨k + 1, by omega, by go_num⟩
              case measure => simp [intOf]; omega
            · have e1 : (fo k == 45) = false := by simpa using hd
              have hq := hs2 hd
              clear hs1 hs2 hd
              rcases hq with ⟨ha, hb⟩ | ⟨ha, hb⟩
              · go_wp2
                go_round
                case rel => exact ⟨k + 1, by omega, by go_num⟩
                case measure => simp [intOf]; omega
              · go_wp2
                all_goals
                  go_round
                  case rel => exact ⟨k + 1, by omega, by go_num⟩
                  case measure => simp [intOf]; omega
          · clear HSH
            by_cases hg : isGap f s.size = true
            · have h0 := HG.out hg
              clear HG hfo HFO
              obtain rfl : t = ByteArray.empty := by
                apply ByteArray.ext; apply Array.eq_empty_of_size_eq_zero; exact h0
              go_wp2_with (first
                | (go_at_call 12; refine (CG _).out.mono ?_; rintro e w' ⟨rfl, rfl⟩)
                | (go_at_call 9; refine (anchorAwake_any _).mono ?_; rintro e w3 ⟨rfl, hb3⟩))
              go_ret
              exact ⟨rfl, hb1.trans (hb3.mono hb1.size)⟩
            · have hg' : isGap f s.size = false := by simpa using hg
              clear HG hg
              go_wp2_with (first
                | (go_at_call 12; refine (CG _).out.mono ?_; rintro e w' ⟨rfl, rfl⟩)
                | (go_at_call 9; refine (anchorAwake_any _).mono ?_; rintro e w3 ⟨rfl, hb3⟩))
              all_goals
                go_ret
                exact ⟨rfl, hb1.trans (hb3.mono hb1.size)⟩
      · have hp' : isPlain f s.size = false := by simpa using hp
        clear hf hr hp
        go_enter Try.func5, Try.ntmps5
        go_wp2_with (first
          | (go_at_call 8; refine (CP _).out.mono ?_; rintro e w' ⟨rfl, rfl⟩)
          | (go_at_call 9; refine (anchorAwake_any _).mono ?_; rintro e w3 ⟨rfl, hb3⟩))
        go_ret
        exact ⟨rfl, hb3⟩

set_option maxRecDepth 100000 in
theorem lifted (os : Os) (started : os.Started) (H : Type) (enc : TypeId × Value → H) :
    ReturnsInHanded {} Try.checked os 5 .any (Rows.fnAnchorShapeSpec.pre6 enc Try.prog Try.f5 Rows.fnAnchorShapeRow.domain false) (Rows.fnAnchorShapeSpec.post enc Try.prog Try.f5 false true false false) := by
  refine returnsInHanded_of_change (C := Try.checked) own started (by kernel_rfl) Try.func5
    (ChangeSpec.witness6 (enc := enc) (C := Try.checked) false ⟨#[], #[.string ByteArray.empty], []⟩ 8 (by kernel_rfl) (by kernel_rfl) (by kernel_rfl) (by kernel_rfl)) ?_
  intro W base args ds gs before hval0 hW hcnd _
  have hval : ∀ (j : Nat) t v, Try.f5.params[j]? = some t → args[j]? = some v → Value.okWide Try.prog W .any base t v := hval0
  have hW' := hW
  obtain ⟨p, q, hA0, hV, rfl, hfz, hnd⟩ := hW
  have hA : DataW.TrodAll enc Try.prog W 0 (fun _ => true) true Try.f5.params.toList args.toList ds p := hA0
  rw [Try.params5] at hA hval
  obtain ⟨v0, vs0, d0, ds0, p0, q0, hargs, rfl, rfl, h0, r0⟩ := trodAll_cons hA
  obtain ⟨rfl, rfl, rfl⟩ := trodAll_nil r0
  obtain rfl : args = #[v0] := by cases args; simp_all
  obtain ⟨rfl, rfl⟩ := trodVars_none hV
  obtain ⟨a0, rfl, rfl, rfl, w0⟩ := open_string Try.underlying9 (hval 0 9 v0 rfl rfl) h0
  clear hA0 hval0
  simp only [List.append_nil] at hW'
  refine (walk a0 w0 W).mono fun e W' ⟨he, bel⟩ => ?_
  subst he
  exact ⟨_, rfl, _, _, _, [], _, [], hW', trodAll_mk1 (shut_bool Try.underlying4 _), (trodAll_cons_mk (shut_string Try.underlying9 w0) trodAll_mk0), rfl, bel.frame _, fun h => by cases h⟩

theorem over : Rows.fnAnchorShapeRow.holds Try.pinned (OpenSpec.ofChange Rows.fnAnchorShapeSpec) :=
  OpenClaim.holds_of_wide 5 Try.f5 rfl rfl rfl rfl rfl rfl rfl ⟨rfl, rfl, rfl, rfl, rfl⟩ rfl rfl rfl rfl rfl (by kernel_rfl) Try.func5 (by kernel_rfl)
    (of_decide_eq_true (by kernel_rfl)) (by unfold Func.isWrapper; first | (rw [if_pos (by decide +kernel)]; kernel_rfl) | (rw [if_neg (by decide +kernel)]; exact ⟨rfl, rfl⟩))
    (fun os started H enc _ => lifted os started H enc)

theorem proved : Rows.FnAnchorShapeSaid := over
#print axioms proved
end Go.Proofs.Ytljoldjfmipaaaa.fnAnchorShape
