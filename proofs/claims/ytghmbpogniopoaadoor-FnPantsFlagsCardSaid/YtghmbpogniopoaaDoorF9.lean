/- Punctuation: tags, fractions of any numbers. -/
import Derived.Test.YtghmbpogniopoaaDoorF5
namespace Go.Proofs.YtghmbpogniopoaaDoor
open Go.RowKit
set_option linter.unusedVariables false
set_option linter.unusedSimpArgs false

/-- The first place from i on, ahead of n more, whose byte is not of P. -/
def scan (P : Int → Bool) (f : Nat → Int) : Nat → Nat → Nat
  | 0, i => i
  | n + 1, i => if P (f i) then scan P f n (i + 1) else i
def scanTo (P : Int → Bool) (f : Nat → Int) (m i : Nat) : Nat := scan P f (m - i) i
theorem scan_step {P : Int → Bool} {f : Nat → Int} {m i : Nat} (hi : i < m) (h : P (f i) = true) : scanTo P f m (i + 1) = scanTo P f m i := by
  unfold scanTo
  rw [show m - i = (m - (i + 1)) + 1 by omega, scan, if_pos h]
theorem scan_stop {P : Int → Bool} {f : Nat → Int} {m i : Nat} (h : i < m → P (f i) = false) : scanTo P f m i = i := by
  unfold scanTo
  rcases Nat.lt_or_ge i m with hi | hi
  · rw [show m - i = (m - (i + 1)) + 1 by omega, scan, if_neg (by rw [h hi]; decide)]
  · rw [show m - i = 0 by omega, scan]
theorem scan_spec (P : Int → Bool) (f : Nat → Int) : ∀ (n i : Nat), i ≤ scan P f n i ∧ scan P f n i ≤ i + n ∧ (∀ j, i ≤ j → j < scan P f n i → P (f j) = true)
  | 0, i => ⟨Nat.le_refl _, Nat.le_refl _, fun j h1 h2 => absurd h2 (by simp only [scan]; omega)⟩
  | n + 1, i => by
    rw [scan]
    cases h : P (f i)
    · rw [if_neg (by decide)]; exact ⟨Nat.le_refl _, by omega, fun j h1 h2 => by omega⟩
    · rw [if_pos rfl]
      obtain ⟨a, b, c⟩ := scan_spec P f n (i + 1)
      refine ⟨by omega, by omega, fun j h1 h2 => ?_⟩
      rcases Nat.eq_or_lt_of_le h1 with e | e
      · rw [← e]; exact h
      · exact c j e h2
theorem scanTo_le {P : Int → Bool} {f : Nat → Int} {m i : Nat} (hi : i ≤ m) : i ≤ scanTo P f m i ∧ scanTo P f m i ≤ m := by
  have := scan_spec P f (m - i) i
  unfold scanTo; omega
def lt62 (c : Int) : Bool := decide (c ≠ 62)
def angR (m : Nat) (f : Nat → Int) (s d : Bool) : HR := ⟨scanTo lt62 f m 0, (List.range (scanTo lt62 f m 0 + 1)).map f, s, d⟩
theorem angR_lt {m : Nat} {f : Nat → Int} (h : ∃ j, j < m ∧ f j = 62) : scanTo lt62 f m 0 < m := by
  obtain ⟨j, h1, h2⟩ := h
  have hs := scan_spec lt62 f (m - 0) 0
  rcases Nat.lt_or_ge j (scanTo lt62 f m 0) with h3 | h3
  · have := hs.2.2 j (by omega) h3
    rw [h2] at this; exact absurd this (by decide)
  · omega
theorem rangeSrc {w : World} {b off m k : Nat} {f : Nat → Int} (hc : ∀ j, j < m → w.cell? ⟨b, off + j, none⟩ = some (.int .u8 (f j))) (i : Nat) (hk : i + k ≤ m) : ∀ j v, ((List.range k).map fun j => f (i + j))[j]? = some v → w.cell? ((⟨b, off + i, none⟩ : Addr).add j) = some (.int .u8 v) := by
  intro j v hj
  obtain ⟨h1, h2⟩ := List.getElem?_eq_some_iff.1 hj
  simp at h1 h2
  subst h2
  rw [add_lit, Nat.add_assoc]
  exact hc (i + j) (by omega)
set_option maxHeartbeats 8000000 in
set_option maxRecDepth 100000 in
theorem ang_any (q tb : Nat) (s d : Bool) (T : Nat → Value) (b off m c : Nat) (f : Nat → Int) (p : Int) (w : World) (h : HPre q tb s d T b off m c f w) (hgt : ∃ j, j < m ∧ f j = 62) (hm : m ≤ 100000) :
    Calls Tryd.prog 25 #[.pointer (some ⟨q, 0, none⟩), .pointer (some ⟨tb, 0, none⟩), .int .u8 p, .slice (some ⟨b, off, none⟩) m c] w fun e w' => HPost q tb T (angR m f s d) w e w' := by
  have HH := Lib.hid h
  have HG := Lib.hid (angR_lt hgt)
  have hmc := h.mc
  have hcm := h.cm
  unfold maxLen at hcm
  clear h hgt
  go_enter Tryd.func25, Tryd.ntmps25
  go_wp2_with fail
  go_loop [9] (fun iv => ∃ i : Nat, i ≤ m ∧ iv = .int .i64 i ∧ Hid (scanTo lt62 f m i = scanTo lt62 f m 0)) (fun iv => m - (intOf iv).toNat)
  case atStart => exact ⟨0, by omega, rfl, Lib.hid rfl⟩
  case round =>
    obtain ⟨i, hi, rfl, HS⟩ := hrel
    by_cases hin : i < m
    · have ci : w.cell? ⟨b, off + i, none⟩ = some (.int .u8 (f i)) := HH.out.cell i hin
      have hin' : (i : Int) < m := by omega
      by_cases he : f i = 62
      · have HK : Hid (scanTo lt62 f m 0 = i) := Lib.hid (by rw [← HS.out]; exact scan_stop (fun _ => by rw [he]; decide))
        clear HS
        go_wp2_with fail
        refine (wW tb [] ((List.range (i + 1)).map fun j => f (0 + j)) ⟨b, off, none⟩ (i + 1) _ w HH.out.buf (by simp) (by show b ≠ tb; have := HH.out.btb; omega) (rangeSrc HH.out.cell 0 (by omega)) (by decide) (by omega)).mono ?_
        rintro e w1 ⟨rfl, HT1, hb1⟩
        have HB1 := Lib.hid hb1
        clear hb1
        go_wp2_with fail
        go_ret
        exact leaf i (by unfold angR; rw [HK.out]; simp only [Nat.zero_add, List.nil_append]) rfl HT1.out HB1.out HH.out.tab HH.out.qtb
      · have HS' : Hid (scanTo lt62 f m (i + 1) = scanTo lt62 f m 0) := Lib.hid ((scan_step hin (by simp [lt62, he])).trans HS.out)
        go_wp2_with fail
        go_round
        case rel => exact ⟨i + 1, by omega, by go_num, HS'⟩
        case measure => simp [intOf]; omega
    · exact absurd (HS.out.symm.trans (scan_stop (fun h => absurd h hin))) (by have := HG.out; omega)
end Go.Proofs.YtghmbpogniopoaaDoor
