/- Comments: the package's end of one, the reference's. -/
import Derived.Test.YtepomhngebfapaaDoorP0
import Derived.Test.YtepomhngebfapaaDoorP1
import Derived.Test.YtepomhngebfapaaDoorE1
namespace Go.Proofs.YtepomhngebfapaaDoor
open Go.RowKit
set_option linter.unusedVariables false

/-- 1 where two hyphens and a greater-than sign stand. -/
def dd (f : Nat → Int) (i : Nat) : Int := if f i = 45 ∧ f (i + 1) = 45 ∧ f (i + 2) = 62 then 1 else 0
def opensC (f : Nat → Int) : Prop := f 0 = 60 ∧ f 1 = 33 ∧ f 2 = 45 ∧ f 3 = 45
instance (f : Nat → Int) : Decidable (opensC f) := by unfold opensC; infer_instance
/-- The end of the comment, or 0. -/
def cmF (n : Nat) (f : Nat → Int) : Nat := if n < 5 ∨ ¬ opensC f then 0 else if scan (isB 1) (n - 2) (dd f) 3 < n - 2 then scan (isB 1) (n - 2) (dd f) 3 + 3 else 0
theorem cm_not {n : Nat} {f : Nat → Int} (h : n < 5 ∨ ¬ opensC f) : cmF n f = 0 := by unfold cmF; rw [if_pos h]
theorem cm_hit {n : Nat} {f : Nat → Int} {i : Nat} (hn : ¬ n < 5) (ho : opensC f) (hs : scan (isB 1) (n - 2) (dd f) 3 = scan (isB 1) (n - 2) (dd f) i) (hi : i + 2 < n) (h : f i = 45 ∧ f (i + 1) = 45 ∧ f (i + 2) = 62) : cmF n f = i + 3 := by
  unfold cmF
  rw [if_neg (by rintro (h | h); exact hn h; exact h ho), hs, scan_hit (by unfold isB dd; rw [if_pos h]; rfl), if_pos (by omega)]
theorem cm_go {n : Nat} {f : Nat → Int} {i : Nat} (hi : i + 2 < n) (h : ¬ (f i = 45 ∧ f (i + 1) = 45 ∧ f (i + 2) = 62)) (hs : scan (isB 1) (n - 2) (dd f) 3 = scan (isB 1) (n - 2) (dd f) i) : scan (isB 1) (n - 2) (dd f) 3 = scan (isB 1) (n - 2) (dd f) (i + 1) :=
  hs.trans (scan_go (by omega) (by unfold isB dd; rw [if_neg h]; rfl))
theorem cm_end {n : Nat} {f : Nat → Int} {i : Nat} (hs : scan (isB 1) (n - 2) (dd f) 3 = scan (isB 1) (n - 2) (dd f) i) (hi : n ≤ i + 2) : cmF n f = 0 := by
  unfold cmF
  split
  · rfl
  · rw [hs, scan_end (by omega), if_neg (by omega)]
theorem cnb {a b : Int} (h : a ≠ b) : (a != b) = true ∧ (a == b) = false := ⟨by simpa using h, by simpa using h⟩
theorem ceb {a b : Int} (h : a = b) : (a != b) = false ∧ (a == b) = true := ⟨by simpa using h, by simpa using h⟩
theorem retc {a b : Int} (h : a = b) : Ending.returned (.int .i64 a) = .returned (.int .i64 b) := by rw [h]

set_option maxHeartbeats 4000000 in
set_option maxRecDepth 100000 in
theorem comment_any (q : Option Addr) (A : Option Addr) (n cap : Nat) (f : Nat → Int) (w : World) (B : Nat) (h : RB w B A n cap f) (hn : n ≤ 100000) :
    Calls Tryd.prog 11 #[.pointer q, .slice A n cap] w fun e w' => e = .returned (.int .i64 (cmF n f)) ∧ w = w' := by
  by_cases h5 : n < 5
  · have HO := Lib.hid (cm_not (f := f) (.inl h5))
    clear h
    go_enter Tryd.func11, Tryd.ntmps11
    go_wp2
    go_ret
    exact ⟨retc (by rw [HO.out]; rfl), rfl⟩
  obtain ⟨b, off, rfl, hB, hcell⟩ := h.2.2.2 (by omega)
  have hcap := h.cap
  have H5 := Lib.hid h5
  have hn5 : 5 ≤ n := by omega
  have HC := Lib.hid hcell; have HR := Lib.hid h.rng
  have hc0 : w.cell? ⟨b, off, none⟩ = some (.int .u8 (f 0)) := hcell 0 (by omega)
  have hc1 := hcell 1 (by omega)
  have hc2 := hcell 2 (by omega)
  have hc3 := hcell 3 (by omega)
  clear h hcell h5
  by_cases h0 : f 0 = 60
  case neg =>
    have HO := Lib.hid (cm_not (n := n) (f := f) (.inr fun h => h0 h.1))
    have d0 := (cnb h0).1
    clear h0
    go_enter Tryd.func11, Tryd.ntmps11
    go_wp2
    go_ret
    exact ⟨retc (by rw [HO.out]; rfl), rfl⟩
  by_cases h1 : f 1 = 33
  case neg =>
    have HO := Lib.hid (cm_not (n := n) (f := f) (.inr fun h => h1 h.2.1))
    have d0 := (ceb h0).1; have d1 := (cnb h1).1
    clear h0 h1
    go_enter Tryd.func11, Tryd.ntmps11
    go_wp2
    go_ret
    exact ⟨retc (by rw [HO.out]; rfl), rfl⟩
  by_cases h2 : f 2 = 45
  case neg =>
    have HO := Lib.hid (cm_not (n := n) (f := f) (.inr fun h => h2 h.2.2.1))
    have d0 := (ceb h0).1; have d1 := (ceb h1).1; have d2 := (cnb h2).1
    clear h0 h1 h2
    go_enter Tryd.func11, Tryd.ntmps11
    go_wp2
    go_ret
    exact ⟨retc (by rw [HO.out]; rfl), rfl⟩
  by_cases h3 : f 3 = 45
  case neg =>
    have HO := Lib.hid (cm_not (n := n) (f := f) (.inr fun h => h3 h.2.2.2))
    have d0 := (ceb h0).1; have d1 := (ceb h1).1; have d2 := (ceb h2).1; have d3 := (cnb h3).1
    clear h0 h1 h2 h3
    go_enter Tryd.func11, Tryd.ntmps11
    go_wp2
    go_ret
    exact ⟨retc (by rw [HO.out]; rfl), rfl⟩
  have HP : Hid (opensC f) := Lib.hid ⟨h0, h1, h2, h3⟩
  have d0 := (ceb h0).1; have d1 := (ceb h1).1; have d2 := (ceb h2).1; have d3 := (ceb h3).1
  clear h0 h1 h2 h3
  go_enter Tryd.func11, Tryd.ntmps11
  go_wp2
  go_loop [5] (fun iv => ∃ i : Nat, Hid (scan (isB 1) (n - 2) (dd f) 3 = scan (isB 1) (n - 2) (dd f) (i - 2)) ∧ 5 ≤ i ∧ i ≤ n ∧ iv = .int .i64 i) (fun iv => n - (intOf iv).toNat)
  case atStart => exact ⟨5, Lib.hid rfl, by omega, by omega, rfl⟩
  case round =>
    obtain ⟨i, HS, hi1, hi2, rfl⟩ := hrel
    by_cases hil : i < n
    · have k0 := HC.out (i - 2) (by omega)
      have k1 := HC.out (i - 1) (by omega)
      have k2 := HC.out i hil
      have e1 : i - 2 + 1 = i - 1 := by omega
      have e2 : i - 2 + 2 = i := by omega
      by_cases hm : f (i - 2) = 45 ∧ f (i - 1) = 45 ∧ f i = 62
      · have HO := Lib.hid (cm_hit H5.out HP.out HS.out (by omega) (by rw [e1, e2]; exact hm))
        have a1 := (ceb hm.1).2; have a2 := (ceb hm.2.1).2; have a3 := (ceb hm.2.2).2
        clear hm e1 e2
        go_wp2
        go_ret
        exact ⟨retc (by rw [HO.out]; omega), rfl⟩
      · have HS' : Hid (scan (isB 1) (n - 2) (dd f) 3 = scan (isB 1) (n - 2) (dd f) (i + 1 - 2)) := Lib.hid (by
          have := cm_go (n := n) (f := f) (i := i - 2) (by omega) (by rw [e1, e2]; exact hm) HS.out
          rw [show i + 1 - 2 = i - 2 + 1 from by omega]
          exact this)
        have h3 : f (i - 2) ≠ 45 ∨ (f (i - 2) = 45 ∧ f (i - 1) ≠ 45) ∨ (f (i - 2) = 45 ∧ f (i - 1) = 45 ∧ f i ≠ 62) := by omega
        clear hm e1 e2
        rcases h3 with h | ⟨h, g⟩ | ⟨h, g, k⟩
        · have a1 := (cnb h).2
          clear h
          go_wp2
          go_round
          case rel => exact ⟨i + 1, HS', by omega, by omega, by go_num⟩
          case measure => simp [intOf]; omega
        · have a1 := (ceb h).2; have a2 := (cnb g).2
          clear h g
          go_wp2
          go_round
          case rel => exact ⟨i + 1, HS', by omega, by omega, by go_num⟩
          case measure => simp [intOf]; omega
        · have a1 := (ceb h).2; have a2 := (ceb g).2; have a3 := (cnb k).2
          clear h g k
          go_wp2
          go_round
          case rel => exact ⟨i + 1, HS', by omega, by omega, by go_num⟩
          case measure => simp [intOf]; omega
    · have HO := Lib.hid (cm_end HS.out (by omega))
      go_wp2
      go_ret
      exact ⟨retc (by rw [HO.out]; rfl), rfl⟩

theorem open_bytes {f : Nat → Int} {n : Nat} : begB n f 4 (fun j => [60, 33, 45, 45].getD j 0) = decide (4 ≤ n ∧ opensC f) := by
  unfold begB opensC
  congr 1
  apply propext
  constructor
  · rintro ⟨a, b⟩
    exact ⟨a, b 0 (by omega), b 1 (by omega), b 2 (by omega), b 3 (by omega)⟩
  · rintro ⟨a, b0, b1, b2, b3⟩
    refine ⟨a, fun j hj => ?_⟩
    rcases j with _ | _ | _ | _ | j
    · exact b0
    · exact b1
    · exact b2
    · exact b3
    · omega
theorem close_bytes {f : Nat → Int} {n i : Nat} (hi : i + 3 ≤ n) : begB (n - i) (fun q => f (i + q)) 3 (fun j => [45, 45, 62].getD j 0) = decide (f i = 45 ∧ f (i + 1) = 45 ∧ f (i + 2) = 62) := by
  unfold begB
  congr 1
  apply propext
  constructor
  · rintro ⟨a, b⟩
    exact ⟨b 0 (by omega), b 1 (by omega), b 2 (by omega)⟩
  · rintro ⟨b0, b1, b2⟩
    refine ⟨by omega, fun j hj => ?_⟩
    rcases j with _ | _ | _ | j
    · exact b0
    · exact b1
    · exact b2
    · omega

set_option maxHeartbeats 4000000 in
set_option maxRecDepth 100000 in
theorem commentSpec_any (A : Option Addr) (n cap : Nat) (f : Nat → Int) (w : World) (B : Nat) (h : RB w B A n cap f) (hn : n ≤ 100000) :
    Calls Tryd.prog 6 #[.slice A n cap] w fun e w' => e = .returned (.int .i64 (cmF n f)) ∧ w = w' := by
  have HH := Lib.hid h
  have hcap := h.cap
  have hg4 : ∀ j : Nat, 0 ≤ [60, 33, 45, 45].getD j (0 : Int) ∧ [60, 33, 45, 45].getD j (0 : Int) ≤ 255 := by
    intro j; rcases j with _ | _ | _ | _ | j <;> simp
  have hg3 : ∀ j : Nat, 0 ≤ [45, 45, 62].getD j (0 : Int) ∧ [45, 45, 62].getD j (0 : Int) ≤ 255 := by
    intro j; rcases j with _ | _ | _ | j <;> simp
  have B4 := Lib.hid (begins_any A n cap f ⟨#[60, 33, 45, 45]⟩ (fun j => [60, 33, 45, 45].getD j 0) w B h (by decide) hg4 (by decide) (by omega) (by decide))
  have HG3 := Lib.hid hg3
  clear h hg4 hg3
  go_enter Tryd.func6, Tryd.ntmps6
  go_wp2_with fail
  refine B4.out.mono ?_
  rintro e w' ⟨rfl, rfl⟩
  rw [show begB n f (ByteArray.size ⟨#[60, 33, 45, 45]⟩) (fun j => [60, 33, 45, 45].getD j 0) = decide (4 ≤ n ∧ opensC f) from open_bytes]
  by_cases ho : 4 ≤ n ∧ opensC f
  · rw [decide_eq_true ho]
    have HP := Lib.hid ho.2
    have hn4 := ho.1
    obtain ⟨b, off, rfl, hB, hcell⟩ := HH.out.2.2.2 (by omega)
    clear hcell ho
    have HCUT : ∀ i, i < n → Hid (RB w B (some ⟨b, off + i, none⟩) (n - i) (cap - i) (fun q => f (i + q))) := fun i hi => Lib.hid (by
      have := HH.out.cut (lo := i) (hi := n) (by omega) (Nat.le_refl _)
      rw [if_neg (by omega), Option.map_some, add_lit] at this
      exact this)
    go_wp2_with fail
    go_loop [3] (fun iv => ∃ i : Nat, Hid (scan (isB 1) (n - 2) (dd f) 3 = scan (isB 1) (n - 2) (dd f) i) ∧ 3 ≤ i ∧ i ≤ n ∧ iv = .int .i64 i) (fun iv => n - (intOf iv).toNat)
    case atStart => exact ⟨3, Lib.hid rfl, by omega, by omega, rfl⟩
    case round =>
      obtain ⟨i, HS, hi1, hi2, rfl⟩ := hrel
      by_cases hil : i + 3 ≤ n
      · go_wp2_with fail
        refine (begins_any _ (n - i) _ (fun q => f (i + q)) ⟨#[45, 45, 62]⟩ (fun j => [45, 45, 62].getD j 0) w B (by exact HCUT i (by omega)) (by decide) HG3.out (by decide) (by omega) (by decide)).mono ?_
        rintro e w' ⟨rfl, rfl⟩
        rw [show begB (n - i) (fun q => f (i + q)) (ByteArray.size ⟨#[45, 45, 62]⟩) (fun j => [45, 45, 62].getD j 0) = decide (f i = 45 ∧ f (i + 1) = 45 ∧ f (i + 2) = 62) from close_bytes hil]
        by_cases hm : f i = 45 ∧ f (i + 1) = 45 ∧ f (i + 2) = 62
        · rw [decide_eq_true hm]
          have HO := Lib.hid (cm_hit (n := n) (by omega) HP.out HS.out (by omega) hm)
          clear hm
          go_wp2_with fail
          go_ret
          exact ⟨retc (by rw [HO.out]; omega), rfl⟩
        · rw [decide_eq_false hm]
          have HS' := Lib.hid (cm_go (by omega) hm HS.out)
          clear hm
          go_wp2_with fail
          go_round
          case rel => exact ⟨i + 1, HS', by omega, by omega, by go_num⟩
          case measure => simp [intOf]; omega
      · have HO := Lib.hid (cm_end HS.out (by omega))
        go_wp2_with fail
        go_ret
        exact ⟨retc (by rw [HO.out]; rfl), rfl⟩
  · rw [decide_eq_false ho]
    have HO : Hid (cmF n f = 0) := Lib.hid (cm_not (by
      by_cases h5 : n < 5
      · exact .inl h5
      · exact .inr fun hp => ho ⟨by omega, hp⟩))
    clear ho
    go_wp2_with fail
    go_ret
    exact ⟨retc (by rw [HO.out]; rfl), rfl⟩
end Go.Proofs.YtepomhngebfapaaDoor
