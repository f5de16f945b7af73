/- Punctuation: ampersands, double quotes. -/
import Derived.Test.YtghmbpogniopoaaDoorF5
namespace Go.Proofs.YtghmbpogniopoaaDoor
open Go.RowKit
set_option linter.unusedVariables false
set_option linter.unusedSimpArgs false

def quotL : List Int := [38, 113, 117, 111, 116, 59]
def nulL : List Int := [38, 35, 48, 59]
def preB (m : Nat) (f : Nat → Int) (l : List Int) : Bool := Lib.hasPrefix (Lib.bytesOf ((List.range m).map f)) (Lib.bytesOf l)
theorem preB_len {m : Nat} {f : Nat → Int} {l : List Int} (h : preB m f l = true) : l.length ≤ m := by
  unfold preB Lib.hasPrefix at h
  have h1 := (List.isPrefixOf_iff_prefix.1 h).length_le
  simpa [Lib.bytesOf] using h1
def ampR (qu : Int) (nb : Bool) (m : Nat) (f : Nat → Int) (p : Int) (s d : Bool) : HR :=
  if preB m f quotL then ⟨5, qout qu (qop p (if 7 ≤ m then f 6 else 0) d) nb, s, qop p (if 7 ≤ m then f 6 else 0) d⟩
  else if preB m f nulL then ⟨3, [], s, d⟩
  else ⟨0, [38], s, d⟩
def dqR (qu : Int) (m : Nat) (f : Nat → Int) (p : Int) (s d : Bool) : HR := ⟨0, qout qu (qop p (if 2 ≤ m then f 1 else 0) d) false, s, qop p (if 2 ≤ m then f 1 else 0) d⟩
theorem pre_call (b off m c g : Nat) (l : List Int) (f : Nat → Int) (w : World) (hmc : m ≤ c) (hc : ∀ j, j < m → w.cell? ⟨b, off + j, none⟩ = some (.int .u8 (f j))) (hl : ∀ j, j < l.length → w.cell? ⟨g, 0 + j, none⟩ = some (.int .u8 (l.getD j 0))) (d : Nat) :
    Calls Tryd.prog 37 #[.slice (some ⟨b, off, none⟩) m c, .slice (some ⟨g, 0, none⟩) l.length d] w fun e w' => e = .returned (.bool (preB m f l)) ∧ w' = w :=
  Tryd.bytes_HasPrefix b off m c g 0 l.length d ((List.range m).map f) l w (by simp) rfl hmc (fun i hi => by rw [hc i hi]; simp [hi]) hl
theorem HPre.alloc {q tb : Nat} {s d : Bool} {T : Nat → Value} {b off m c : Nat} {f : Nat → Int} {w : World} (h : HPre q tb s d T b off m c f w) (o : Obj) : HPre q tb s d T b off m c f (w.alloc o) := h.below ((Below.refl _ w).alloc (Nat.le_refl _) _)
theorem lit_cells (w : World) (l : List Int) (e : TypeId) (fz : Nat × Nat) : ∀ j, j < l.length → (w.alloc (.cells (l.map (Value.int .u8)).toArray e fz)).cell? ⟨w.heap.size, 0 + j, none⟩ = some (.int .u8 (l.getD j 0)) := fun j hj => by
  rw [Nat.zero_add, World.cell?_alloc_mark]
  simp [hj]
set_option maxHeartbeats 8000000 in
set_option maxRecDepth 100000 in
theorem ampV_any (q tb : Nat) (s d : Bool) (T : Nat → Value) (b off m c : Nat) (f : Nat → Int) (p qu : Int) (nb : Bool) (w : World) (h : HPre q tb s d T b off m c f w) :
    Calls Tryd.prog 28 #[.pointer (some ⟨q, 0, none⟩), .pointer (some ⟨tb, 0, none⟩), .int .u8 p, .slice (some ⟨b, off, none⟩) m c, .int .u8 qu, .bool nb] w fun e w' => HPost q tb T (ampR qu nb m f p s d) w e w' := by
  have HH := Lib.hid h
  have hmc := h.mc
  have hcm := h.cm
  have hqt := h.qtb
  unfold maxLen at hcm
  have kc := fun (w : World) (C : Array Value) (n c : Nat) => Lib.run_convert_bytes_const (P := Tryd.prog) w 22 5 C n c Tryd.underlying22 Tryd.underlying5
  obtain ⟨w1, hw1⟩ : ∃ w1, w1 = w.alloc (.cells (quotL.map (Value.int .u8)).toArray 5 (6, 7)) := ⟨_, rfl⟩
  have HW1 : Hid (w.alloc (.cells #[.int .u8 38, .int .u8 113, .int .u8 117, .int .u8 111, .int .u8 116, .int .u8 59] 5 (6, 7)) = w1) := Lib.hid (by rw [hw1]; rfl)
  have H1 : Hid (HPre q tb s d T b off m c f w1) := Lib.hid (by rw [hw1]; exact h.alloc _)
  have HC1 : Hid (∀ j, j < quotL.length → w1.cell? ⟨w.heap.size, 0 + j, none⟩ = some (.int .u8 (quotL.getD j 0))) := Lib.hid (by rw [hw1]; exact lit_cells w quotL _ _)
  have HB1 : Hid (Below tb w w1) := Lib.hid (by rw [hw1]; exact ((Below.refl tb w).alloc (Nat.le_of_lt h.buf.lt) _))
  clear hw1 h
  cases hq : preB m f quotL
  · have HQ := Lib.hid hq
    clear hq
    obtain ⟨w2, hw2⟩ : ∃ w2, w2 = w1.alloc (.cells (nulL.map (Value.int .u8)).toArray 5 (4, 5)) := ⟨_, rfl⟩
    have HW2 : Hid (w1.alloc (.cells #[.int .u8 38, .int .u8 35, .int .u8 48, .int .u8 59] 5 (4, 5)) = w2) := Lib.hid (by rw [hw2]; rfl)
    have H2 : Hid (HPre q tb s d T b off m c f w2) := Lib.hid (by rw [hw2]; exact H1.out.alloc _)
    have HC2 : Hid (∀ j, j < nulL.length → w2.cell? ⟨w1.heap.size, 0 + j, none⟩ = some (.int .u8 (nulL.getD j 0))) := Lib.hid (by rw [hw2]; exact lit_cells w1 nulL _ _)
    have HB2 : Hid (Below tb w w2) := Lib.hid (by rw [hw2]; exact HB1.out.alloc (Nat.le_of_lt (H1.out.buf.lt)) _)
    clear hw2
    go_enter Tryd.func28, Tryd.ntmps28
    go_wp2_with fail
    rw [HW1.out]
    refine (pre_call b off m c _ quotL f w1 hmc H1.out.cell HC1.out _).mono ?_
    rintro e w' ⟨rfl, rfl⟩
    rw [HQ.out]
    go_wp2_with fail
    rw [HW2.out]
    refine (pre_call b off m c _ nulL f w2 hmc H2.out.cell HC2.out _).mono ?_
    rintro e w' ⟨rfl, rfl⟩
    cases hn : preB m f nulL
    · have HN := Lib.hid hn
      clear hn
      go_wp2_with fail
      refine (wB tb [] 38 _ H2.out.buf (by decide)).mono ?_
      rintro e w3 ⟨rfl, HT3, hb3⟩
      have HB3 := Lib.hid (HB2.out.trans hb3)
      clear hb3
      go_wp2_with fail
      go_ret
      exact leaf 0 (by unfold ampR; rw [HQ.out, HN.out]; rfl) rfl HT3.out HB3.out HH.out.tab HH.out.qtb
    · have HN := Lib.hid hn
      clear hn
      go_wp2_with fail
      go_ret
      exact leaf 3 (by unfold ampR; rw [HQ.out, HN.out]; rfl) rfl H2.out.buf HB2.out HH.out.tab HH.out.qtb
  · have HQ := Lib.hid hq
    have h6 : 6 ≤ m := preB_len hq
    clear hq
    rcases (by omega : m = 6 ∨ 7 ≤ m) with rfl | h7
    · go_enter Tryd.func28, Tryd.ntmps28
      go_wp2_with fail
      rw [HW1.out]
      refine (pre_call b off 6 c _ quotL f w1 hmc H1.out.cell HC1.out _).mono ?_
      rintro e w' ⟨rfl, rfl⟩
      rw [HQ.out]
      go_wp2_with fail
      refine (helper_any tb q 1 _ _ _ d _ [] _ H1.out.buf hqt H1.out.tab.cellD (H1.out.tab.frozen 1) (by decide)).mono ?_
      rintro e w2 ⟨rfl, HT2, hb2⟩
      have HQ1 := Lib.hid hb2
      clear hb2
      go_wp2
      go_ret
      exact leafD 5 (by unfold ampR; rw [HQ.out]; rfl) rfl HT2.out HB1.out HQ1.out HH.out.tab HH.out.qtb
    · have c6 : w1.cell? ⟨b, off + 6, none⟩ = some (.int .u8 (f 6)) := H1.out.cell 6 (by omega)
      have hmi : (7 : Int) ≤ m := by omega
      go_enter Tryd.func28, Tryd.ntmps28
      go_wp2_with fail
      rw [HW1.out]
      refine (pre_call b off m c _ quotL f w1 hmc H1.out.cell HC1.out _).mono ?_
      rintro e w' ⟨rfl, rfl⟩
      rw [HQ.out]
      go_wp2_with fail
      refine (helper_any tb q 1 _ _ _ d _ [] _ H1.out.buf hqt H1.out.tab.cellD (H1.out.tab.frozen 1) (by decide)).mono ?_
      rintro e w2 ⟨rfl, HT2, hb2⟩
      have HQ1 := Lib.hid hb2
      clear hb2
      go_wp2
      go_ret
      exact leafD 5 (by unfold ampR; rw [HQ.out, if_pos rfl, if_pos h7]; rfl) rfl HT2.out HB1.out HQ1.out HH.out.tab HH.out.qtb
set_option maxHeartbeats 2000000 in
theorem amp_any (q tb : Nat) (s d : Bool) (T : Nat → Value) (b off m c : Nat) (f : Nat → Int) (p qu : Int) (nb : Bool) (b1 b2 b3 : Nat) (w : World) (h : HPre q tb s d T b off m c f w) (h1 : w.cell? ⟨b1, 0, none⟩ = some (.pointer (some ⟨q, 0, none⟩))) (h2 : w.cell? ⟨b2, 0, none⟩ = some (.int .u8 qu)) (h3 : w.cell? ⟨b3, 0, none⟩ = some (.bool nb)) :
    Calls Tryd.prog 27 #[.pointer (some ⟨tb, 0, none⟩), .int .u8 p, .slice (some ⟨b, off, none⟩) m c, .pointer (some ⟨b1, 0, none⟩), .pointer (some ⟨b2, 0, none⟩), .pointer (some ⟨b3, 0, none⟩)] w fun e w' => HPost q tb T (ampR qu nb m f p s d) w e w' := by
  have HH := Lib.hid h
  clear h
  go_enter Tryd.func27, Tryd.ntmps27
  go_wp2_with fail
  refine (ampV_any q tb s d T b off m c f p qu nb w HH.out).mono ?_
  rintro e w' ⟨rfl, hp⟩
  go_wp2_with fail
  go_ret
  exact ⟨rfl, hp⟩
set_option maxHeartbeats 2000000 in
theorem dqV_any (q tb : Nat) (s d : Bool) (T : Nat → Value) (b off m c : Nat) (f : Nat → Int) (p qu : Int) (w : World) (h : HPre q tb s d T b off m c f w) (hm : 1 ≤ m) :
    Calls Tryd.prog 29 #[.pointer (some ⟨q, 0, none⟩), .pointer (some ⟨tb, 0, none⟩), .int .u8 p, .slice (some ⟨b, off, none⟩) m c, .int .u8 qu] w fun e w' => HPost q tb T (dqR qu m f p s d) w e w' := by
  have HH := Lib.hid h
  have hmc := h.mc
  have hcm := h.cm
  unfold maxLen at hcm
  have hcell := h.cell
  clear h
  have HB := Lib.hid (Below.refl tb w)
  rcases (by omega : m = 1 ∨ 2 ≤ m) with rfl | h2
  · clear hcell
    go_enter Tryd.func29, Tryd.ntmps29
    go_wp2_with fail
    refine (helper_any tb q 1 _ _ _ d _ [] _ HH.out.buf HH.out.qtb HH.out.tab.cellD (HH.out.tab.frozen 1) (by decide)).mono ?_
    rintro e w2 ⟨rfl, HT2, hb2⟩
    have HQ1 := Lib.hid hb2
    clear hb2
    go_wp2
    go_ret
    exact leafD 0 rfl rfl HT2.out HB.out HQ1.out HH.out.tab HH.out.qtb
  · have c1 : w.cell? ⟨b, off + 1, none⟩ = some (.int .u8 (f 1)) := hcell 1 (by omega)
    have hmi : (2 : Int) ≤ m := by omega
    clear hcell
    go_enter Tryd.func29, Tryd.ntmps29
    go_wp2_with fail
    refine (helper_any tb q 1 _ _ _ d _ [] _ HH.out.buf HH.out.qtb HH.out.tab.cellD (HH.out.tab.frozen 1) (by decide)).mono ?_
    rintro e w2 ⟨rfl, HT2, hb2⟩
    have HQ1 := Lib.hid hb2
    clear hb2
    go_wp2
    go_ret
    exact leafD 0 (by unfold dqR; rw [if_pos h2]; rfl) rfl HT2.out HB.out HQ1.out HH.out.tab HH.out.qtb
set_option maxHeartbeats 2000000 in
theorem dq_any (q tb : Nat) (s d : Bool) (T : Nat → Value) (b off m c : Nat) (f : Nat → Int) (p : Int) (w : World) (h : HPre q tb s d T b off m c f w) (hm : 1 ≤ m) :
    Calls Tryd.prog 16 #[.pointer (some ⟨q, 0, none⟩), .pointer (some ⟨tb, 0, none⟩), .int .u8 p, .slice (some ⟨b, off, none⟩) m c] w fun e w' => HPost q tb T (dqR 100 m f p s d) w e w' := by
  have HH := Lib.hid h
  clear h
  go_enter Tryd.func16, Tryd.ntmps16
  go_wp2_with fail
  refine (dqV_any q tb s d T b off m c f p 100 w HH.out hm).mono ?_
  rintro e w' ⟨rfl, hp⟩
  go_wp2_with fail
  go_ret
  exact ⟨rfl, hp⟩
set_option maxHeartbeats 2000000 in
theorem adq_any (q tb : Nat) (s d : Bool) (T : Nat → Value) (b off m c : Nat) (f : Nat → Int) (p : Int) (w : World) (h : HPre q tb s d T b off m c f w) (hm : 1 ≤ m) :
    Calls Tryd.prog 17 #[.pointer (some ⟨q, 0, none⟩), .pointer (some ⟨tb, 0, none⟩), .int .u8 p, .slice (some ⟨b, off, none⟩) m c] w fun e w' => HPost q tb T (dqR 97 m f p s d) w e w' := by
  have HH := Lib.hid h
  clear h
  go_enter Tryd.func17, Tryd.ntmps17
  go_wp2_with fail
  refine (dqV_any q tb s d T b off m c f p 97 w HH.out hm).mono ?_
  rintro e w' ⟨rfl, hp⟩
  go_wp2_with fail
  go_ret
  exact ⟨rfl, hp⟩
end Go.Proofs.YtghmbpogniopoaaDoor
