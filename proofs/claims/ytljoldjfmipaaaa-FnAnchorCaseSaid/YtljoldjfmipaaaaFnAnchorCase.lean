/- For every text the law FnAnchorCase returns true: an ASCII text of at most 2000 bytes has the anchor of the text in which capital and small letters are exchanged. No condition. -/
import Derived.Test.YtljoldjfmipaaaaA5
import Derived.ProofKit
import Derived.OpenShut
import Derived.ShutString
import Derived.ChangeOld
namespace Go.Proofs.Ytljoldjfmipaaaa.fnAnchorCase
open Go.ChangeShapes Go.WideShapes Go.ChangeAt Go.RowKit
open Go.ChangeMaps (open_string shut_string)
set_option linter.unusedVariables false

theorem own : ownKnob Try.prog.godebug = none := by kernel_rfl
theorem laidOut : laidOutB Try.prog = true := by kernel_rfl

set_option maxHeartbeats 800000 in
theorem walk (s : ByteArray) (w0 : s.size ≤ maxLen) (w : World) :
    Calls Try.prog 4 #[.string s] w fun e w' => e = .returned (.bool true) ∧ Below w.heap.size w w' := by
  unfold maxLen at w0
  obtain ⟨f, hf, hr⟩ : ∃ f : Nat → Int, (∀ n (h : n < s.size), ((s[n]'h).toNat : Int) = f n) ∧ ∀ k, 0 ≤ f k ∧ f k ≤ 255 := ⟨_, bt_str s, fun k => ⟨bt_lo _ k, bt_hi _ k⟩⟩
  by_cases h1 : 2147483647 < s.size
  · clear hf hr
    go_enter Try.func4, Try.ntmps4
    go_wp2_with fail
    go_ret
    exact ⟨rfl, Below.refl _ _⟩
  · by_cases h2 : 2000 < s.size
    · clear hf hr
      go_enter Try.func4, Try.ntmps4
      go_wp2_with (go_at_call 9; refine (anchorAwake_any _).mono ?_; rintro e w' ⟨rfl, hb⟩)
      go_ret
      exact ⟨rfl, hb⟩
    · have hs : s.size ≤ 100000 := by omega
      have CP := fun W => Lib.hid (isPlain_any s f hf hs W)
      by_cases hp : isPlain f s.size = true
      · have hpl : ∀ k, k < s.size → 0 ≤ f k ∧ f k ≤ 127 := fun k hk => by
          simp [isPlain] at hp
          have := hp k hk; have := hr k; omega
        have CA := fun W => Lib.hid (implAnchor_any s f hf hpl hs W)
        obtain ⟨cap, W1, hcv, hcap, hc1, hf1, hb1, hs1⟩ := bytes_of (P := Try.prog) w 9 25 5 s f hf Try.underlying9 Try.underlying25 Try.underlying5
        have HC1 := Lib.hid hc1; have HF1 := Lib.hid hf1; have HS1 := Lib.hid hs1; have HPL := Lib.hid hpl
        clear hf hr hpl hc1 hf1 hs1
        go_enter Try.func4, Try.ntmps4
        go_wp2_with (go_at_call 8; refine (CP _).out.mono ?_; rintro e w' ⟨rfl, rfl⟩)
        clear hcv
        go_loopw [22] (fun i wr => ∃ k : Nat, k ≤ s.size ∧ i = .int .i64 k ∧ Hid (∀ j, j < s.size → wr.cell? ⟨w.heap.size, j, none⟩ = some (.int .u8 (swT f k j))) ∧ Hid (∀ j, j < s.size → wr.frozen? ⟨w.heap.size, j, none⟩ = false) ∧ Below w.heap.size w wr)
          (fun i _ => s.size - (intOf i).toNat)
        case atStart => exact ⟨0, Nat.zero_le _, rfl, Lib.hid (fun j hj => HC1.out j hj), HF1, hb1⟩
        case round =>
          obtain ⟨k, hk, rfl, HC, HF, hb⟩ := hrel
          by_cases hlt : k < s.size
          · have hck : wr.cell? ⟨w.heap.size, k, none⟩ = some (.int .u8 (f k)) := by rw [HC.out k hlt, swT_at]
            have hfk := HF.out k hlt
            have hrk := HPL.out k hlt
            by_cases ha : 97 ≤ f k ∧ f k ≤ 122
            · obtain ⟨ha1, ha2⟩ := ha
              have HSW : Hid (swp (f k) = f k - 32) := Lib.hid (by unfold swp; rw [if_pos ⟨ha1, ha2⟩])
              go_wp2
              go_roundw
              case rel => exact ⟨k + 1, by omega, by go_num, Lib.hid (row_step HC.out hlt (by rw [HSW.out])), Lib.hid (fun j hj => by rw [World.frozen?_setCell]; exact HF.out j hj), hb.setCell (Nat.le_refl _) _⟩
              case measure => simp [intOf]; omega
            · by_cases hA : 65 ≤ f k ∧ f k ≤ 90
              · obtain ⟨ha1, ha2⟩ := hA
                have HSW : Hid (swp (f k) = f k + 32) := Lib.hid (by unfold swp; rw [if_neg ha, if_pos ⟨ha1, ha2⟩])
                clear ha
                go_wp2
                go_roundw
                case rel => exact ⟨k + 1, by omega, by go_num, Lib.hid (row_step HC.out hlt (by rw [HSW.out])), Lib.hid (fun j hj => by rw [World.frozen?_setCell]; exact HF.out j hj), hb.setCell (Nat.le_refl _) _⟩
                case measure => simp [intOf]; omega
              · have HSW : Hid (swp (f k) = f k) := Lib.hid (by unfold swp; rw [if_neg ha, if_neg hA])
                have HA := Lib.hid ha; have HB := Lib.hid hA
                clear ha hA
                go_wp2
                all_goals first
                  | (exfalso; have := HA.out; have := HB.out; omega)
                  | (go_roundw
                     case rel => exact ⟨k + 1, by omega, by go_num, Lib.hid (row_keep HC.out HSW.out), HF, hb⟩
                     case measure => simp [intOf]; omega)
          · obtain rfl : k = s.size := by omega
            have hsw : ∀ j, j < s.size → swT f s.size j = swp (f j) := fun j hj => by unfold swT; rw [if_pos hj]
            have hrg : ∀ j, j < s.size → 0 ≤ swT f s.size j ∧ swT f s.size j ≤ 127 := fun j hj => by
              have := HPL.out j hj
              rw [hsw j hj]; unfold swp; repeat' split
              all_goals omega
            obtain ⟨t, hcv2, ht, hft⟩ := conv_row (P := Try.prog) wr 25 9 5 w.heap.size s.size cap (swT f s.size) Try.underlying25 Try.underlying5 Try.underlying9
              (fun j hj => by have := hrg j hj; omega) HC.out
            have hsame : aT (swT f s.size) t.size = aT f s.size := by rw [ht]; exact aT_swp f _ _ hsw
            have CB : ∀ W, Hid (Calls Try.prog 10 #[.string t] W fun e w' => e = .returned (.string (strOf (aT f s.size).1)) ∧ Below W.heap.size W w') := fun W => by
              have h := implAnchor_any t (swT f s.size) hft (fun j hj => hrg j (by omega)) (by omega) W
              rw [hsame] at h
              exact h
            clear hsw hrg ht hft hsame
            go_wp2_with fail
            refine (CB _).out.mono ?_
            rintro e w1 ⟨rfl, hb2⟩
            go_wp2_with fail
            refine (CA _).out.mono ?_
            rintro e w2 ⟨rfl, hb3⟩
            go_wp2_with (go_at_call 9; refine (anchorAwake_any _).mono ?_; rintro e w3 ⟨rfl, hb4⟩)
            go_ret
            exact ⟨rfl, ((hb.trans (hb2.mono hb.size)).trans (hb3.mono (Nat.le_trans hb.size hb2.size))).trans (hb4.mono (Nat.le_trans (Nat.le_trans hb.size hb2.size) hb3.size))⟩
      · have hp' : isPlain f s.size = false := by simpa using hp
        clear hf hr hp
        go_enter Try.func4, Try.ntmps4
        go_wp2_with (first
          | (go_at_call 8; refine (CP _).out.mono ?_; rintro e w' ⟨rfl, rfl⟩)
          | (go_at_call 9; refine (anchorAwake_any _).mono ?_; rintro e w3 ⟨rfl, hb3⟩))
        go_ret
        exact ⟨rfl, hb3⟩

set_option maxRecDepth 100000 in
theorem lifted (os : Os) (started : os.Started) (H : Type) (enc : TypeId × Value → H) :
    ReturnsInHanded {} Try.checked os 4 .any (Rows.fnAnchorCaseSpec.pre6 enc Try.prog Try.f4 Rows.fnAnchorCaseRow.domain false) (Rows.fnAnchorCaseSpec.post enc Try.prog Try.f4 false true false false) := by
  refine returnsInHanded_of_change (C := Try.checked) own started (by kernel_rfl) Try.func4
    (ChangeSpec.witness6 (enc := enc) (C := Try.checked) false ⟨#[], #[.string ByteArray.empty], []⟩ 8 (by kernel_rfl) (by kernel_rfl) (by kernel_rfl) (by kernel_rfl)) ?_
  intro W base args ds gs before hval0 hW hcnd _
  have hval : ∀ (j : Nat) t v, Try.f4.params[j]? = some t → args[j]? = some v → Value.okWide Try.prog W .any base t v := hval0
  have hW' := hW
  obtain ⟨p, q, hA0, hV, rfl, hfz, hnd⟩ := hW
  have hA : DataW.TrodAll enc Try.prog W 0 (fun _ => true) true Try.f4.params.toList args.toList ds p := hA0
  rw [Try.params4] at hA hval
  obtain ⟨v0, vs0, d0, ds0, p0, q0, hargs, rfl, rfl, h0, r0⟩ := trodAll_cons hA
  obtain ⟨rfl, rfl, rfl⟩ := trodAll_nil r0
  obtain rfl : args = #[v0] := by cases args; simp_all
  obtain ⟨rfl, rfl⟩ := trodVars_none hV
  obtain ⟨a0, rfl, rfl, rfl, w0⟩ := open_string Try.underlying9 (hval 0 9 v0 rfl rfl) h0
  clear hA0 hval0
  simp only [List.append_nil] at hW'
  refine (walk a0 w0 W).mono fun e W' ⟨he, bel⟩ => ?_
  subst he
  exact ⟨_, rfl, _, _, _, [], _, [], hW', trodAll_mk1 (shut_bool Try.underlying4 _), (trodAll_cons_mk (shut_string Try.underlying9 w0) trodAll_mk0), rfl, bel.frame _, fun h => by cases h⟩

theorem over : Rows.fnAnchorCaseRow.holds Try.pinned (OpenSpec.ofChange Rows.fnAnchorCaseSpec) :=
  OpenClaim.holds_of_wide 4 Try.f4 rfl rfl rfl rfl rfl rfl rfl ⟨rfl, rfl, rfl, rfl, rfl⟩ rfl rfl rfl rfl rfl (by kernel_rfl) Try.func4 (by kernel_rfl)
    (of_decide_eq_true (by kernel_rfl)) (by unfold Func.isWrapper; first | (rw [if_pos (by decide +kernel)]; kernel_rfl) | (rw [if_neg (by decide +kernel)]; exact ⟨rfl, rfl⟩))
    (fun os started H enc _ => lifted os started H enc)

theorem proved : Rows.FnAnchorCaseSaid := over
#print axioms proved
end Go.Proofs.Ytljoldjfmipaaaa.fnAnchorCase
