/- Punctuation: Process, of any text whose tags are closed. -/
import Derived.Test.YtghmbpogniopoaaDoorFE
import Derived.Deep.RegionWith
import Derived.Deep.QuietTactic
import Derived.BigQuiet
namespace Go.Proofs.YtghmbpogniopoaaDoor
open Go.RowKit
set_option linter.unusedVariables false

theorem neqFn_w (Fn : FuncId) (a b : Array Value) (w : World) : (binOp .neq 41 (.func (.func Fn) a b) .nilFunc).run Tryd.prog w = .ok (.bool true) w := by kernel_rfl
theorem ham_of {F : Fl} {q : Nat} {am : Value} {w : World} (h : AmpOK w q am (!F.an) F.nb) : ∃ b1 b2 b3 : Nat, am = .func (.func 27) #[] #[.pointer (some ⟨b1, 0, none⟩), .pointer (some ⟨b2, 0, none⟩), .pointer (some ⟨b3, 0, none⟩)] := by
  obtain ⟨b1, b2, b3, e, -⟩ := h
  exact ⟨b1, b2, b3, e⟩
/-- The k-th round's place. -/
def At (F : Fl) (n : Nat) (f : Nat → Int) (k mr i : Nat) (s d : Bool) (out : List Int) : Prop := runP F n f k = ⟨mr, i, s, d, out⟩ ∧ k ≤ i ∧ out.length ≤ 6000 * k
theorem At.zero (F : Fl) (n : Nat) (f : Nat → Int) : At F n f 0 0 0 false false [] := ⟨rfl, Nat.le_refl _, by simp⟩
theorem At.none {F : Fl} {n : Nat} {f : Nat → Int} {k mr i : Nat} {s d : Bool} {out : List Int} (h : At F n f k mr i s d out) (hi : i < n) (ha : actR F (f i) (n - i) (fun j => f (i + j)) (prevC f i) s d = none) : At F n f (k + 1) mr (i + 1) s d out := by
  obtain ⟨h1, h2, h3⟩ := h
  refine ⟨?_, by omega, by omega⟩
  show stepP F n f (runP F n f k) = _
  rw [h1]
  exact step_none (S := ⟨mr, i, s, d, out⟩) hi ha
theorem At.some {F : Fl} {n : Nat} {f : Nat → Int} {k mr i : Nat} {s d : Bool} {out : List Int} {R : HR} (h : At F n f k mr i s d out) (hn : n ≤ 1000) (hi : i < n) (ha : actR F (f i) (n - i) (fun j => f (i + j)) (prevC f i) s d = some R) (hR : R.out.length ≤ 4000) : At F n f (k + 1) (i + R.k + 1) (i + R.k + 1) R.s R.d (out ++ seg f mr i ++ R.out) := by
  obtain ⟨h1, h2, h3⟩ := h
  refine ⟨?_, by omega, ?_⟩
  · show stepP F n f (runP F n f k) = _
    rw [h1]
    exact step_some (S := ⟨mr, i, s, d, out⟩) hi ha
  · rw [List.length_append, List.length_append, seg_len]; omega
theorem At.stop {F : Fl} {n : Nat} {f : Nat → Int} {k mr : Nat} {s d : Bool} {out : List Int} (h : At F n f k mr n s d out) : outP F n f = out ++ seg f mr n := by
  have e := runP_stop (F := F) (n := n) (f := f) (k := k) (by rw [h.1]; exact Nat.le_refl _) (n - k)
  have : k + (n - k) = n := by have := h.2.1; omega
  rw [this, h.1] at e
  unfold outP
  rw [e]
theorem segSrc {w : World} {b off n : Nat} {f : Nat → Int} (hc : ∀ j, j < n → w.cell? ⟨b, off + j, none⟩ = some (.int .u8 (f j))) (i k : Nat) (hk : k ≤ n) : ∀ j v, (seg f i k)[j]? = some v → w.cell? ((⟨b, off + i, none⟩ : Addr).add j) = some (.int .u8 v) := by
  intro j v hj
  rcases Nat.lt_or_ge i k with h | h
  · exact rangeSrc (k := k - i) hc i (by omega) j v hj
  · have : seg f i k = [] := List.eq_nil_of_length_eq_zero (by rw [seg_len]; omega)
    rw [this] at hj; simp at hj
/-- Process is through. -/
def Done (F : Fl) (q ob : Nat) (am : Value) (n : Nat) (f : Nat → Int) (w0 w' : World) : Prop := ∃ s d, LI F q ob am w'.heap.size s d (outP F n f) w0 w'
set_option maxHeartbeats 8000000 in
set_option maxRecDepth 100000 in
theorem process_any (F : Fl) (q ob : Nat) (am : Value) (b off n cap : Nat) (f : Nat → Int) (w0 : World) (E : Env F q ob am b off n cap f w0) (h0 : LI F q ob am w0.heap.size false false [] w0 w0) (hn : 1 ≤ n) (hcl : ∀ i, i < n → f i = 60 → ∃ j, i < j ∧ j < n ∧ f j = 62) :
    Calls Tryd.prog 12 #[.pointer (some ⟨q, 0, none⟩), .iface 38 (.pointer (some ⟨ob, 0, none⟩)), .slice (some ⟨b, off, none⟩) n cap] w0 fun e w' => e = .returned (.tuple #[]) ∧ Hid (Done F q ob am n f w0 w') := by
  have HE := Lib.hid E
  have H0 := Lib.hid h0
  have HCL := Lib.hid hcl
  have hcap := E.mc
  have hcm := E.cm
  have hle := E.nle
  unfold maxLen at hcm
  clear E h0 hcl
  have hna := nilAhead_w; have hme := method_w; have hnn := neqNil_w; have hnf := neqFn_w
  have hmf : ∀ (fn : Fn) (first cap : Array Value) (w : World), (Instr.makeFunc fn first cap).run Tryd.prog w = .ok (.func fn first cap) w := fun _ _ _ _ => rfl
  go_enter Tryd.func12, Tryd.ntmps12
  go_upto_block 0 with fail
  go_cut [6] (fun mv wx => ∃ (mr : Nat), mr ≤ n ∧ mv = .int .i64 mr ∧ Hid (∃ k s d out, At F n f k mr n s d out ∧ k ≤ n ∧ LI F q ob am wx.heap.size s d out w0 wx))
  case first =>
    go_wp2_with fail
    go_loopw [6, 7] (fun mv iv wr => ∃ mr i : Nat, mr ≤ i ∧ i ≤ n ∧ mv = .int .i64 mr ∧ iv = .int .i64 i ∧ Hid (∃ k s d out, At F n f k mr i s d out ∧ LI F q ob am wr.heap.size s d out w0 wr)) (fun _ iv _ => n - (intOf iv).toNat)
    case atStart => exact ⟨0, 0, by omega, by omega, rfl, rfl, Lib.hid ⟨0, _, _, _, At.zero F n f, H0.out⟩⟩
    case round =>
      obtain ⟨mr, i, hmi, hin, rfl, rfl, HX⟩ := hrel
      obtain ⟨k, s, d, out, hat, hli⟩ := HX.out
      have HA := Lib.hid hat
      have HL := Lib.hid hli
      clear hat hli HX
      by_cases hi : i < n
      case neg =>
        obtain rfl : i = n := by omega
        go_wp2_with fail
        go_meet
        exact ⟨mr, hmi, rfl, Lib.hid ⟨k, s, d, out, HA.out, by have := HA.out.2.1; omega, HL.out⟩⟩
      case pos =>
        have ki : wr.cell? ⟨b, off + i, none⟩ = some (.int .u8 (f i)) := HL.out.cell HE.out i hi
        have hrg := HE.out.rng i
        have hi0 : (0 : Int) ≤ i := by omega
        have hi1 : (i : Int) < n := by omega
        have h256 : f i < 256 := by omega
        have h00 : 0 ≤ f i := by omega
        have kt := HL.out.tab.cell (f i).toNat (by omega)
        have hform := act_form F q am (ham_of HE.out.amp) b (off + i) (n - i) (cap - i) (fun j => f (i + j)) (prevC f i) s d (by omega) (by omega) hrg (fun h => by
          obtain ⟨j, h1, h2, h3⟩ := HCL.out i hi h
          exact ⟨j - i, by omega, by show f (i + (j - i)) = 62; rw [show i + (j - i) = j by omega]; exact h3⟩)
        simp only [Nat.add_zero] at hform
        rcases hform with ⟨ha, hv⟩ | ⟨R, ha, hfine, hready⟩
        · have HAN := Lib.hid (HA.out.none hi ha)
          rw [hv] at kt
          clear ha hv
          go_wp2_with fail
          go_quiet (fail)
          go_wp2_with fail
          go_roundw
          case rel => exact ⟨mr, i + 1, by omega, by omega, rfl, by go_num, Lib.hid ⟨k + 1, s, d, out, HAN.out, HL.out.drewN _⟩⟩
          case measure => simp [intOf]; omega
        · have HAS := Lib.hid (HA.out.some hle hi ha hfine.2)
          have HLen : Hid (out.length ≤ 6000 * k ∧ k ≤ i) := Lib.hid ⟨HA.out.2.2, HA.out.2.1⟩
          have hki : R.k + i < n := by have := hfine.1; omega
          have HFi := Lib.hid hfine
          clear ha hfine
          rcases hready with ⟨Fn, hv, hcf, hcall⟩ | ⟨Fn, b1, b2, b3, hv, hcf, hcall⟩
          all_goals
            have HC := Lib.hid hcall
            rw [hv] at kt
            clear hv hcall
            go_wp2_with fail
            go_quiet (fail)
            have HL1 := Lib.hid (HL.out.drewN nq)
            go_upto_if 30 with fail
            go_cut [] (fun wx => Hid (LI F q ob am wx.heap.size s d (out ++ seg f mr i) w0 wx))
            case first =>
              by_cases hmi2 : mr < i
              · have hmi3 : (mr : Int) < i := by omega
                have HW := fun (j : Nat) => writeL w0.heap.size wr.heap.size ob out (seg f mr i) (some ⟨b, off + mr, none⟩) (i - mr) (cap - mr) (wr.drewN j) (HL.out.drewN j).out (by have := HE.out.obq; have := HE.out.qK; omega) HL.out.KM (Nat.le_refl _) (seg_len f mr i)
                  (.inr ⟨_, rfl, HE.out.bo, .inl HE.out.bK, segSrc ((HL.out.drewN j).cell HE.out) mr i (by omega)⟩) (by have := HLen.out; omega) (by omega)
                go_wp2_with fail
                go_region_with (go_at_call 36; refine (HW _).mono ?_; rintro e w1 ⟨rfl, ho, hk⟩)
                all_goals
                  go_wp2_with fail
                  go_meet
                  exact Lib.hid ((HL.out.drewN _).wrote HE.out ho hk)
              · have hmi3 : ¬ (mr : Int) < i := by omega
                have hseg : seg f mr i = [] := List.eq_nil_of_length_eq_zero (by rw [seg_len]; omega)
                have HSG := Lib.hid hseg
                clear hseg
                go_wp2_with fail
                go_meet
                exact Lib.hid (by rw [HSG.out, List.append_nil]; exact HL1.out)
            case rest =>
              rename World => wy
              have HL2 := hcut
              clear hcut
              go_upto_if 41 with fail
              go_cut [9] (fun pv wx => pv = .int .u8 (prevC f i) ∧ wx = wy)
              case first =>
                by_cases hz : 0 < i
                · obtain ⟨i', rfl⟩ : ∃ i', i = i' + 1 := ⟨i - 1, by omega⟩
                  have ck : wy.cell? ⟨b, off + i', none⟩ = some (.int .u8 (f i')) := HL2.out.cell HE.out i' (by omega)
                  have hz2 : (0 : Int) < ((i' + 1 : Nat) : Int) := by omega
                  have hpc : prevC f (i' + 1) = f i' := by simp [prevC]
                  have HPC := Lib.hid hpc
                  clear hpc
                  go_wp2_with fail
                  go_meet
                  exact ⟨by rw [HPC.out], rfl⟩
                · obtain rfl : i = 0 := by omega
                  go_wp2_with fail
                  go_meet
                  exact ⟨rfl, rfl⟩
              case rest =>
                obtain ⟨rfl, e⟩ := hcut
                subst e
                rename World => wy
                have HP := Lib.hid (HL2.out.pre HE.out i hi)
                have HAm : Hid (AmpOK (wy.alloc zeroBuf) q am (!F.an) F.nb) := Lib.hid ((HL2.out.amp HE.out).below ((Below.refl _ wy).alloc (Nat.le_refl _) _))
                go_wp2_with fail
                refine (HC.out wy.heap.size _ HP.out HAm.out).mono ?_
                rintro e w3 ⟨rfl, hp⟩
                have HL3 := Lib.hid (HL2.out.acted HE.out hp.out)
                have HBy := bytesL wy.heap.size R.out w3 hp.out.1
                have HWr := fun (j : Nat) (A : Option Addr) (c : Nat) (hA : Hid (R.out.length = 0 ∨ ∃ a : Addr, A = some a ∧ wy.heap.size ≤ a.block ∧ (∀ j v, R.out[j]? = some v → w3.cell? (a.add j) = some (.int .u8 v)))) =>
                  writeL w0.heap.size wy.heap.size ob (out ++ seg f mr i) R.out A R.out.length c (w3.drewN j) (HL3.out.drewN j).out (by have := HE.out.obq; have := HE.out.qK; omega) HL2.out.KM HL3.out.Ms rfl
                    (hA.out.imp id (fun ⟨a, h1, h2, h3⟩ => ⟨a, h1, by have := HE.out.obq; have := HE.out.qK; have := HL2.out.KM; omega, .inr h2, h3⟩)) (by have := HLen.out; rw [List.length_append, seg_len]; omega) (by have := HFi.out.2; omega)
                clear hp
                go_wp2_with fail
                go_region_with (first
                  | (go_at_call 14; refine (HBy _).mono ?_; rintro e w4 ⟨A4, c4, rfl, hA4, k4, rfl⟩)
                  | (go_at_call 36; refine (HWr _ _ _ hA4).mono ?_; rintro e w5 ⟨rfl, ho5, hk5⟩))
                all_goals
                  go_wp2_with fail
                  go_roundw
                  case rel => exact ⟨i + R.k + 1, i + R.k + 1, Nat.le_refl _, by omega, by first | go_num | (congr 1; omega), by first | go_num | (congr 1; omega), Lib.hid ⟨k + 1, R.s, R.d, _, HAS.out, (HL3.out.drewN _).wrote HE.out ho5 hk5⟩⟩
                  case measure => simp [intOf]; omega
  case rest =>
    obtain ⟨mr, hmr, rfl, HX⟩ := hcut
    rename World => wx
    by_cases hmn : mr < n
    · have hmi : (mr : Int) < n := by omega
      have hne : ¬ cap = mr := by omega
      have HW : Hid (∀ j : Nat, Calls Tryd.prog 36 #[.pointer (some ⟨ob, 0, none⟩), .slice (some ⟨b, off + mr, none⟩) (n - mr) (cap - mr)] (wx.drewN j) fun e w' => e = .returned (.tuple #[.int .i64 ((n - mr : Nat) : Int), .nilIface]) ∧ Hid (Done F q ob am n f w0 w')) := Lib.hid fun j => by
        obtain ⟨k, s, d, out, hat, hkn, hli⟩ := HX.out
        refine (writeL w0.heap.size wx.heap.size ob out (seg f mr n) (some ⟨b, off + mr, none⟩) (n - mr) (cap - mr) (wx.drewN j) (hli.drewN j).out (by have := HE.out.obq; have := HE.out.qK; omega) hli.KM (Nat.le_refl _) (seg_len f mr n)
          (.inr ⟨_, rfl, HE.out.bo, .inl HE.out.bK, segSrc ((hli.drewN j).cell HE.out) mr n (Nat.le_refl _)⟩) (by have := hat.2.2; omega) (by omega)).mono ?_
        rintro e w1 ⟨rfl, ho, hk⟩
        exact ⟨rfl, Lib.hid ⟨s, d, by rw [hat.stop]; exact (hli.drewN j).wrote HE.out ho hk⟩⟩
      go_wp2_with fail
      go_region_with (go_at_call 36; refine (HW.out _).mono ?_; rintro e w1 ⟨rfl, ho⟩)
      all_goals
        go_end0
        exact ⟨rfl, ho⟩
    · have hmi : ¬ (mr : Int) < n := by omega
      obtain rfl : mr = n := by omega
      have HO : Hid (Done F q ob am mr f w0 wx) := Lib.hid (by
        obtain ⟨k, s, d, out, hat, hkn, hli⟩ := HX.out
        refine ⟨s, d, ?_⟩
        have : seg f mr mr = [] := List.eq_nil_of_length_eq_zero (by rw [seg_len]; omega)
        rw [hat.stop, this, List.append_nil]
        exact hli)
      go_wp2_with fail
      go_end0
      exact ⟨rfl, HO⟩
end Go.Proofs.YtghmbpogniopoaaDoor
