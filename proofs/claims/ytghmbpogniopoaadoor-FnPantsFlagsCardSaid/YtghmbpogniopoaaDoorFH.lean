/- Punctuation: the door's function on closed texts; the reference's test of them. -/
import Derived.Test.YtghmbpogniopoaaDoorFF
import Derived.Test.YtghmbpogniopoaaDoorFG
namespace Go.Proofs.YtghmbpogniopoaaDoor
open Go.RowKit
set_option linter.unusedVariables false

/-- What Process shall write, into a new buffer. -/
def Wrote2 (x : Int) (n : Nat) (f : Nat → Int) (L : List Int) : Prop :=
  ∀ (q ob : Nat) (am : Value) (A : Option Addr) (cap : Nat) (w : World), Tab w q false false (T4 q am (fAN x) (fDS x) (fLX x) (fFR x)) → AmpOK w q am (!fAN x) (fNB x) → RB w w.heap.size A n cap f → Lib.IsBuffer 33 5 ob ob [] w → w.cell? ⟨ob, 0, none⟩ = some (.slice none 0 0) → (∀ a, A = some a → q < a.block) → ob < q →
    Calls Tryd.prog 12 #[.pointer (some ⟨q, 0, none⟩), .iface 38 (.pointer (some ⟨ob, 0, none⟩)), .slice A n cap] w fun e w' => e = .returned (.tuple #[]) ∧ Hid (Lib.IsBuffer 33 5 ob ob (L.map (Value.int .u8)) w') ∧ Below ob w w'
/-- Each tag that begins ends. -/
def Closed (n : Nat) (f : Nat → Int) : Prop := ∀ i, i < n → f i = 60 → ∃ j, i < j ∧ j < n ∧ f j = 62
theorem closed_wrote (x : Int) (n : Nat) (f : Nat → Int) (hn : n ≤ 1000) (hcl : Closed n f) : Wrote2 x n f (outP (flOf x) n f) := by
  intro q ob am A cap w hT hA hR hI hz hqa hoq
  have hqK := hT.lt
  rcases Nat.eq_zero_or_pos n with h0 | h1
  · subst h0
    refine (processQuiet q ob false false _ A 0 cap f w _ hT hR (by omega) (fun j hj => absurd hj (by omega)) hI (fun a e => by have := hqa a e; omega)).mono ?_
    rintro e w' ⟨rfl, h1, h2⟩
    exact ⟨rfl, h1, h2⟩
  · obtain ⟨b, off, rfl, hbB, hcell⟩ := hR.2.2.2 h1
    have hbq := hqa _ rfl
    simp only at hbq
    have E : Env (flOf x) q ob am b off n cap f w := ⟨hA, hoq, hqK, hbB, by omega, by omega, hR.1, hR.2.1, hcell, hR.2.2.1, hn⟩
    have hli : LI (flOf x) q ob am w.heap.size false false [] w w := ⟨Fr2.refl _ _ _ _, hT, OutB.of_nil hI hz, Nat.le_refl _, Nat.le_refl _⟩
    refine (process_any (flOf x) q ob am b off n cap f w E hli h1 hcl).mono ?_
    rintro e w' ⟨rfl, hd⟩
    obtain ⟨s, d, hl⟩ := hd.out
    exact ⟨rfl, Lib.hid (hl.out.isBuffer (by omega)), ⟨hl.fr.os, hl.fr.tape, hl.fr.output, hl.fr.size, fun k hk => hl.fr.block k (by omega) (by omega) (by omega)⟩⟩
theorem act_len {F : Fl} {c : Int} {m : Nat} {f : Nat → Int} {p : Int} {s d : Bool} {R : HR} (hm : 1 ≤ m) (hmx : m ≤ 1000) (h : actR F c m f p s d = some R) : R.out.length ≤ 4000 := by
  unfold actR at h
  by_cases h0 : c = 60
  · rw [if_pos h0] at h
    cases h; simp only [angR, List.length_map, List.length_range]; have := (scanTo_le (P := lt62) (f := f) (Nat.zero_le m)).2; omega
  rw [if_neg h0] at h
  by_cases h1 : c = 96
  · rw [if_pos h1] at h
    cases h; exact (fine_back hm).2
  rw [if_neg h1] at h
  by_cases h2 : c = 46
  · rw [if_pos h2] at h
    cases h; exact (fine_period hm).2
  rw [if_neg h2] at h
  by_cases h3 : F.fr = true ∧ (c = 49 ∨ c = 51)
  · rw [if_pos h3] at h
    cases h; exact (fine_num hm).2
  rw [if_neg h3] at h
  by_cases h4 : F.fr = false ∧ 49 ≤ c ∧ c ≤ 57
  · rw [if_pos h4] at h
    cases h; exact (fine_gen hm hmx).2
  rw [if_neg h4] at h
  by_cases h5 : c = 39
  · rw [if_pos h5] at h
    cases h; exact (fine_sing hm).2
  rw [if_neg h5] at h
  by_cases h6 : c = 40
  · rw [if_pos h6] at h
    cases h; exact (fine_parens hm).2
  rw [if_neg h6] at h
  by_cases h7 : c = 45
  · rw [if_pos h7] at h
    cases hds : F.ds <;> rw [hds] at h
    · cases h
    · rw [if_pos rfl] at h
      cases hlx : F.lx <;> rw [hlx] at h
      · rw [if_neg (by decide)] at h; cases h; exact (fine_latex hm).2
      · rw [if_pos rfl] at h; cases h; exact (fine_dash hm).2
  rw [if_neg h7] at h
  by_cases h8 : c = 38
  · rw [if_pos h8] at h
    cases h; exact (fine_amp hm).2
  rw [if_neg h8] at h
  by_cases h9 : c = 34
  · rw [if_pos h9] at h
    cases h
    cases F.an
    · exact (fine_dq hm).2
    · exact (fine_dq hm).2
  rw [if_neg h9] at h
  cases h
theorem run_len {F : Fl} {n : Nat} {f : Nat → Int} (hn : n ≤ 1000) : ∀ k, (runP F n f k).out.length ≤ 5000 * k
  | 0 => Nat.le_refl _
  | k + 1 => by
    have ih := run_len (F := F) (n := n) (f := f) hn k
    show (stepP F n f (runP F n f k)).out.length ≤ _
    generalize runP F n f k = S at ih ⊢
    unfold stepP
    split
    · rename_i hi
      split
      · simp only []; omega
      · rename_i R hR
        have := act_len (by omega) (by omega) hR
        simp only [List.length_append, seg_len]
        omega
    · omega
theorem out_small {F : Fl} {n : Nat} {f : Nat → Int} (hn : n ≤ 1000) : (outP F n f).length ≤ 140737488351232 := by
  have := run_len (F := F) (n := n) (f := f) hn n
  unfold outP
  rw [List.length_append, seg_len]
  omega
/-- Whether a tag is open ahead of a place. -/
def opn (f : Nat → Int) : Nat → Bool
  | 0 => false
  | k + 1 => (opn f k && (f k != 62)) || (f k == 60)
theorem opn_closed {f : Nat → Int} : ∀ n, opn f n = false → Closed n f
  | 0, _ => fun i hi _ => absurd hi (by omega)
  | n + 1, h => fun i hi h60 => by
    rw [opn] at h
    simp at h
    obtain ⟨h1, h2⟩ := h
    by_cases h62 : f n = 62
    · rcases Nat.lt_or_ge i n with h | h
      · exact ⟨n, h, by omega, h62⟩
      · obtain rfl : i = n := by omega
        omega
    · have ho : opn f n = false := by
        cases ho : opn f n
        · rfl
        · exact absurd (h1 ho) h62
      rcases Nat.lt_or_ge i n with h | h
      · obtain ⟨j, a, b, c⟩ := opn_closed n ho i h h60
        exact ⟨j, a, by omega, c⟩
      · obtain rfl : i = n := by omega
        exact absurd h60 h2
set_option maxHeartbeats 4000000 in
theorem isClosed_any (A : Option Addr) (n cap : Nat) (f : Nat → Int) (w : World) (B : Nat) (h : RB w B A n cap f) (hn : n ≤ 100000) :
    Calls Tryd.prog 6 #[.slice A n cap] w fun e w' => e = .returned (.bool (!opn f n)) ∧ w = w' := by
  have HH := Lib.hid h
  have hcap := h.cap
  clear h
  go_enter Tryd.func6, Tryd.ntmps6
  go_wp2_with fail
  go_loop [3, 8] (fun ov iv => ∃ (i : Nat) (o : Bool), i ≤ n ∧ ov = .bool o ∧ iv = .int .i64 i ∧ Hid (opn f i = o)) (fun _ iv => n - (intOf iv).toNat)
  case atStart => exact ⟨0, false, by omega, rfl, rfl, Lib.hid rfl⟩
  case round =>
    obtain ⟨i, o, hi, rfl, rfl, HO⟩ := hrel
    by_cases hin : i < n
    · obtain ⟨b, off, rfl, hbB, hcell⟩ := HH.out.2.2.2 (by omega)
      have ki := hcell i hin
      clear hcell
      have hi0 : (0 : Int) ≤ i := by omega
      have hi1 : (i : Int) < n := by omega
      cases h62 : (f i != 62)
      all_goals cases h60 : (f i == 60)
      all_goals cases o
      all_goals
        have HN : Hid (opn f (i + 1) = _) := Lib.hid (show opn f (i + 1) = ((opn f i && (f i != 62)) || (f i == 60)) from rfl)
        rw [HO.out, h62, h60] at HN
        go_wp2_with fail
        go_round
        case rel => exact ⟨i + 1, _, by omega, rfl, by go_num, Lib.hid HN.out⟩
        case measure => simp [intOf]; omega
    · obtain rfl : i = n := by omega
      go_wp2_with fail
      go_ret
      exact ⟨by rw [HO.out]; rfl, rfl⟩
set_option maxHeartbeats 4000000 in
set_option maxRecDepth 100000 in
theorem pants_of2 (x : Int) (h0 : 0 ≤ x) (h1 : x < 524288) (n : Nat) (f : Nat → Int) (L : List Int) (hg : Rng L) (hn : n ≤ 100000) (hm : L.length ≤ 140737488351232) (HP : Wrote2 x n f L) (w : World) (A : Option Addr) (c : Nat) (h : RB w w.heap.size A n c f) :
    Calls Tryd.prog 7 #[.int .i64 x, .slice A n c] w fun e w' => ∃ A' c', e = .returned (.slice A' L.length c') ∧ Hid (RB w' w'.heap.size A' L.length c' (fun j => L.getD j 0)) ∧ Below w.heap.size w w' := by
  have HH := Lib.hid h
  have HP' := Lib.hid HP
  clear h HP
  have hfb := Lib.hid (Lib.fresh_isBuffer 33 5 w)
  have hz0 : Hid ((w.alloc (.cells #[.slice none 0 0, .int .i64 0, .int .i8 0] 33)).cell? ⟨w.heap.size, 0, none⟩ = some (.slice none 0 0)) := Lib.hid (by rw [World.cell?_alloc_mark]; rfl)
  go_enter Tryd.func7, Tryd.ntmps7
  go_wp2_with fail
  refine (newPants_any _ x h0 h1).mono ?_
  rintro e w1 ⟨⟨q, am, rfl, ht1, ha1, hq1⟩, hb1⟩
  have hs1 : w.heap.size + 1 ≤ w1.heap.size := by have := hb1.size; simpa using this
  have hqo : w.heap.size < q := by simp at hq1; omega
  have HF1 := Lib.hid (hfb.out.old hb1)
  have HZ1 : Hid (w1.cell? ⟨w.heap.size, 0, none⟩ = some (.slice none 0 0)) := Lib.hid ((hb1.cell (p := ⟨w.heap.size, 0, none⟩) (by simp)).trans hz0.out)
  have hqL : q < w1.heap.size := ht1.lt
  have HB1 : Hid (Below w.heap.size w w1) := Lib.hid (((Below.refl _ w).alloc (Nat.le_refl _) _).trans (hb1.mono (by simp)))
  have HR1 := Lib.hid ((HH.out.below HB1.out).more (by omega : w.heap.size ≤ w1.heap.size))
  have HT1 := Lib.hid ht1; have HA1 := Lib.hid ha1
  clear hb1 ht1 ha1 hq1 hfb hz0
  go_wp2_with fail
  refine (own_any A n c f w1 HR1.out (by omega)).mono ?_
  rintro e w2 ⟨A2, c2, rfl, hc2, hb2⟩
  have hs2 : w1.heap.size ≤ w2.heap.size := hb2.size
  have HF2 := Lib.hid (HF1.out.old hb2)
  have HZ2 : Hid (w2.cell? ⟨w.heap.size, 0, none⟩ = some (.slice none 0 0)) := Lib.hid ((hb2.cell (p := ⟨w.heap.size, 0, none⟩) (by show w.heap.size < w1.heap.size; omega)).trans HZ1.out)
  have HT2 := Lib.hid (HT1.out.below hb2)
  have HA2 := Lib.hid (HA1.out.below hb2)
  have HB2 : Hid (Below w.heap.size w w2) := Lib.hid (HB1.out.trans (hb2.mono (by omega)))
  clear HF1 HT1 HA1 HZ1 hb2
  have hne2 : ∀ a, A2 = some a → q < a.block := fun a e => by
    have := (own_ge hc2.out.1 a.block (by rw [e]; rfl)).1
    omega
  have hpr := HP'.out q w.heap.size am A2 c2 w2 HT2.out HA2.out hc2.out.2.1 HF2.out HZ2.out hne2 hqo
  have HPR := Lib.hid hpr
  clear hpr
  go_wp2_with fail
  refine HPR.out.mono ?_
  rintro e w3 ⟨rfl, hf3, hb3⟩
  have hs3 : w2.heap.size ≤ w3.heap.size := hb3.size
  have HB3 : Hid (Below w.heap.size w w3) := Lib.hid (HB2.out.trans hb3)
  have hby := Lib.hid (Tryd.Buffer_Bytes w.heap.size w.heap.size _ w3 hf3.out)
  clear hb3 HPR
  go_wp2_with fail
  refine hby.out.mono ?_
  rintro e w4 ⟨v, rfl, hown, k, rfl⟩
  obtain ⟨A4, c4, rfl⟩ := own_form hown
  rw [List.length_map] at hown
  have HRB : Hid (RB (w3.drewN k) (w3.drewN k).heap.size A4 L.length c4 (fun j => L.getD j 0)) := Lib.hid (RB.of_own hown hg)
  clear hown
  try simp only [List.length_map]
  go_wp2_with fail
  refine (own_any A4 L.length c4 _ _ HRB.out (by omega)).mono ?_
  rintro e w5 ⟨A5, c5, rfl, hc5, hb5⟩
  go_wp2_with fail
  go_ret
  exact ⟨A5, c5, rfl, Lib.hid hc5.out.2.1, (HB3.out.trans (below_drewN _ _ _)).trans (hb5.mono (by simp; omega))⟩
end Go.Proofs.YtghmbpogniopoaaDoor
