/- Safe links in plain words; the functions that compare the beginning of a slice of bytes. -/
import Derived.Test.YtljoldjfmipaaaaB1
import Derived.Test.YtljoldjfmipaaaaA1
import Derived.Deep.RegionWith
namespace Go.Proofs.Ytljoldjfmipaaaa
open Go.RowKit
set_option linter.unusedVariables false

/-- The slice begins with the bytes p; so it does when capital letters are small ones. -/
def begB (n : Nat) (f : Nat → Int) (m : Nat) (g : Nat → Int) : Bool := decide (m ≤ n ∧ ∀ j, j < m → f j = g j)
def begF (n : Nat) (f : Nat → Int) (m : Nat) (g : Nat → Int) : Bool := decide (m ≤ n ∧ ∀ j, j < m → low (f j) = g j)
theorem low_rng2 {c : Int} (h : 0 ≤ c ∧ c ≤ 255) : 0 ≤ low c ∧ low c ≤ 255 := by unfold low; split <;> omega

theorem str_of (s : ByteArray) (g : Nat → Int) (hg : ∀ i (h : i < s.size), ((s[i]'h).toNat : Int) = g i) (hr : ∀ j, 0 ≤ g j ∧ g j ≤ 255) : s = strOf ((List.range s.size).map g) := by
  obtain ⟨h1, h2⟩ := strOf_at s.size g hr
  apply ByteArray.ext
  apply Array.ext
  · show s.size = (strOf ((List.range s.size).map g)).size
    rw [h1]
  · intro i hi hi2
    have a := hg i hi
    have b := h2 i hi2
    have : (s[i]'hi) = ((strOf ((List.range s.size).map g))[i]'hi2) := by
      apply UInt8.toNat_inj.1
      omega
    exact this

set_option maxHeartbeats 400000 in
theorem begins_any (A : Option Addr) (n c : Nat) (f : Nat → Int) (s : ByteArray) (g : Nat → Int) (w : World) (B : Nat) (h : RB w B A n c f) (hg : ∀ i (h : i < s.size), ((s[i]'h).toNat : Int) = g i) (hr : ∀ j, 0 ≤ g j ∧ g j ≤ 255) (hs : 0 < s.size) (hn : n ≤ 140737488351232) (hs2 : s.size ≤ 100000) :
    Calls Try.prog 24 #[.slice A n c, .string s] w fun e w' => e = .returned (.bool (begB n f s.size g)) ∧ w = w' := by
  have hcap := h.cap
  by_cases hle : s.size ≤ n
  · have hcv := (h.upto hle).conv (P := Try.prog) 25 9 5 Try.underlying25 Try.underlying5 Try.underlying9
    obtain ⟨b, off, rfl, hB, hc⟩ := h.2.2.2 (by omega)
    have he := str_of s g hg hr
    have HR := Lib.hid h.rng; have HG := Lib.hid hr
    by_cases hb : ∀ j, j < s.size → f j = g j
    · have e := strOf_ext (n := s.size) rfl hb
      rw [← he] at e
      rw [e] at hcv
      have HB : Hid (begB n f s.size g = true) := Lib.hid (by simp [begB]; exact ⟨hle, hb⟩)
      clear h hg hr he hc hb e
      go_enter Try.func24, Try.ntmps24
      go_wp2
      go_ret
      exact ⟨ret_bool (by rw [HB.out]), rfl⟩
    · have hne : strOf ((List.range s.size).map f) ≠ s := fun e => hb (by
        rw [he] at e
        have := strOf_inj h.rng hr (by simpa [strOf_size] using e)
        exact this.2)
      have HB : Hid (begB n f s.size g = false) := Lib.hid (by simp only [begB, decide_eq_false_iff_not]; exact fun h => hb h.2)
      generalize strOf ((List.range s.size).map f) = t at hcv hne
      have HN := Lib.hid hne
      clear h hg hr he hc hb hne
      go_enter Try.func24, Try.ntmps24
      go_wp2
      go_ret
      refine ⟨ret_bool ?_, rfl⟩
      rw [HB.out]
      have h1 := HN.out
      simp
      intro he
      rw [Lib.toList_data, Lib.toList_data] at he
      exact h1 (ByteArray.ext (Array.ext' he))
  · have HB : Hid (begB n f s.size g = false) := Lib.hid (by simp only [begB, decide_eq_false_iff_not]; exact fun h => hle h.1)
    clear h hg hr
    go_enter Try.func24, Try.ntmps24
    go_wp2
    go_ret
    exact ⟨ret_bool (by rw [HB.out]), rfl⟩

set_option maxHeartbeats 800000 in
theorem beginsFolded_any (A : Option Addr) (n c : Nat) (f : Nat → Int) (s : ByteArray) (g : Nat → Int) (w : World) (B : Nat) (h : RB w B A n c f) (hg : ∀ i (h : i < s.size), ((s[i]'h).toNat : Int) = g i) (hs : 0 < s.size) (hn : n ≤ 140737488351232) (hs2 : s.size ≤ 100000) :
    Calls Try.prog 25 #[.slice A n c, .string s] w fun e w' => e = .returned (.bool (begF n f s.size g)) ∧ w = w' := by
  by_cases hle : s.size ≤ n
  · obtain ⟨b, off, rfl, hB, hc⟩ := h.2.2.2 (by omega)
    have HR := Lib.hid h.rng; have HC := Lib.hid hc
    clear h hc
    go_enter Try.func25, Try.ntmps25
    go_wp2
    go_loop [14] (fun i => ∃ (k : Nat), Hid (∀ j, j < k → low (f j) = g j) ∧ k ≤ s.size ∧ i = .int .i64 k) (fun i => s.size - (intOf i).toNat)
    case atStart => exact ⟨0, fun j hj => absurd hj (by omega), Nat.zero_le _, rfl⟩
    case round =>
      obtain ⟨k, HP, hk, rfl⟩ := hrel
      by_cases hlt : k < s.size
      · have hck := HC.out k (by omega)
        have hrk := HR.out k
        have hcap : f k < 65 ∨ 90 < f k → low (f k) = f k := fun h => by unfold low; rw [if_neg (by omega)]
        have hcup : 65 ≤ f k → f k ≤ 90 → low (f k) = f k + 32 := fun h1 h2 => by unfold low; rw [if_pos ⟨h1, h2⟩]
        have HL := Lib.hid (And.intro hcap hcup); clear hcap hcup
        by_cases he : low (f k) = g k
        · have HN : Hid (∀ j, j < k + 1 → low (f j) = g j) := Lib.hid (fun j hj => by
            rcases Nat.lt_or_ge j k with h | h
            · exact HP.out j h
            · obtain rfl : j = k := by omega
              exact he)
          have HE := Lib.hid he
          clear he
          by_cases h1 : 65 ≤ f k
          · by_cases h2 : f k ≤ 90
            · have e : (f k + 32 != g k) = false := by have := HL.out.2 h1 h2; have := HE.out; simp; omega
              go_wp2
              go_round
              case rel => exact ⟨k + 1, HN, by omega, by go_num⟩
              case measure => simp [intOf]; omega
            · have e : (f k != g k) = false := by have := HL.out.1 (by omega); have := HE.out; simp; omega
              go_wp2
              go_round
              case rel => exact ⟨k + 1, HN, by omega, by go_num⟩
              case measure => simp [intOf]; omega
          · have e : (f k != g k) = false := by have := HL.out.1 (by omega); have := HE.out; simp; omega
            go_wp2
            go_round
            case rel => exact ⟨k + 1, HN, by omega, by go_num⟩
            case measure => simp [intOf]; omega
        · have HB : Hid (begF n f s.size g = false) := Lib.hid (by simp only [begF, decide_eq_false_iff_not]; exact fun h => he (h.2 k hlt))
          have HE := Lib.hid he
          clear he
          by_cases h1 : 65 ≤ f k
          · by_cases h2 : f k ≤ 90
            · have e : (f k + 32 != g k) = true := by have := HL.out.2 h1 h2; have := HE.out; simp; omega
              go_wp2
              go_ret
              exact ⟨ret_bool (by rw [HB.out]), rfl⟩
            · have e : (f k != g k) = true := by have := HL.out.1 (by omega); have := HE.out; simp; omega
              go_wp2
              go_ret
              exact ⟨ret_bool (by rw [HB.out]), rfl⟩
          · have e : (f k != g k) = true := by have := HL.out.1 (by omega); have := HE.out; simp; omega
            go_wp2
            go_ret
            exact ⟨ret_bool (by rw [HB.out]), rfl⟩
      · obtain rfl : k = s.size := by omega
        have HB : Hid (begF n f s.size g = true) := Lib.hid (by simp only [begF, decide_eq_true_eq]; exact ⟨hle, HP.out⟩)
        go_wp2
        go_ret
        exact ⟨ret_bool (by rw [HB.out]), rfl⟩
  · have HB : Hid (begF n f s.size g = false) := Lib.hid (by simp only [begF, decide_eq_false_iff_not]; exact fun h => hle h.1)
    clear h hg
    go_enter Try.func25, Try.ntmps25
    go_wp2
    go_ret
    exact ⟨ret_bool (by rw [HB.out]), rfl⟩

theorem tolower_any (c : Int) (w : World) (hc : 0 ≤ c ∧ c ≤ 255) :
    Calls Try.prog 35 #[.int .u8 c] w fun e w' => e = .returned (.int .u8 (low c)) ∧ w = w' := by
  go_enter Try.func35, Try.ntmps35
  go_wp2
  all_goals go_ret
  all_goals exact ⟨ret_int (by unfold low; split <;> omega), rfl⟩

/-- A row of n bytes of which the first k are written. -/
def lowT (f : Nat → Int) (k j : Nat) : Int := if j < k then low (f j) else 0
theorem low_step {wr : World} {base e n g : Nat} {f : Nat → Int} {k : Nat} (h : wr.ownsRow base e 1 (.slice (some ⟨g, 0, none⟩) n n) n (((List.range n).map (lowT f k)).map (Value.int .u8))) (hk : k < n) :
    (wr.setCell ⟨g, k, none⟩ (.int .u8 (low (f k)))).ownsRow base e 1 (.slice (some ⟨g, 0, none⟩) n n) n (((List.range n).map (lowT f (k + 1))).map (Value.int .u8)) := by
  have hs := h.stored k (.int .u8 (low (f k)))
  have e1 : (((List.range n).map (lowT f k)).map (Value.int .u8)).set k (.int .u8 (low (f k))) = ((List.range n).map (lowT f (k + 1))).map (Value.int .u8) := by
    apply List.ext_getElem
    · simp
    · intro i h1 h2
      simp only [List.getElem_set, List.getElem_map, List.getElem_range]
      split
      · rename_i e; subst e; simp [lowT]
      · unfold lowT
        by_cases hi : i < k
        · rw [if_pos hi, if_pos (by omega)]
        · rw [if_neg hi, if_neg (by omega)]
  rw [← e1]
  exact hs.1
set_option maxHeartbeats 800000 in
theorem zzLower_any (A : Option Addr) (n c : Nat) (f : Nat → Int) (w : World) (h : RB w w.heap.size A n c f) (hn : n ≤ 100000) :
    Calls Try.prog 33 #[.slice A n c] w fun e w' => ∃ A' c', e = .returned (.slice A' n c') ∧ Hid (RB w' w'.heap.size A' n c' (fun j => low (f j))) ∧ Below w.heap.size w w' := by
  obtain ⟨i0, hi, hz0, hz1, hz2⟩ := info_parts Try.infoB
  have HR := Lib.hid h
  clear h
  go_enter Try.func33, Try.ntmps33
  go_wp2_with (at_make; refine wpList_make_full _ rfl _ _ 25 rfl w.heap.size 5 i0 (.int .u8 0) 1 Try.underlying25 hi hz0 hz1 _ _ _ _ n rfl rfl rfl rfl (by rw [hz2]; omega) (by unfold maxLen; omega) (Nat.le_refl _) ?_; intro w0 hown0 hg0)
  have hb0 := (Below.refl w.heap.size w).grown hg0 (Nat.le_refl _) (fun k hk => by cases hk)
  have hown1 : w0.ownsRow w.heap.size 5 1 (.slice (some ⟨w.heap.size, 0, none⟩) n n) n (((List.range n).map (lowT f 0)).map (Value.int .u8)) := by
    have e : ((List.range n).map (lowT f 0)).map (Value.int .u8) = (madeCells (Value.cells (.int .u8 0)) (n * 1)).toList := by
      have : Value.cells (.int .u8 0) = #[.int .u8 0] := rfl
      rw [this, toList_madeCells_one, Nat.mul_one]
      apply List.ext_getElem
      · simp
      · intro i h1 h2; simp [lowT]
    rw [e]; exact hown0
  clear hg0 hown0
  go_loopw [11] (fun i wr => ∃ (k : Nat), k ≤ n ∧ i = .int .i64 k ∧ Hid (wr.ownsRow w.heap.size 5 1 (.slice (some ⟨w.heap.size, 0, none⟩) n n) n (((List.range n).map (lowT f k)).map (Value.int .u8))) ∧ Below w.heap.size w wr)
    (fun i _ => n - (intOf i).toNat)
  case atStart => exact ⟨0, Nat.zero_le _, rfl, hown1, hb0⟩
  case round =>
    obtain ⟨k, hk, rfl, HO, hbl⟩ := hrel
    by_cases hlt : k < n
    · obtain ⟨b, off, rfl, hB, hc⟩ := (HR.out.below hbl).2.2.2 (by omega)
      have hck := hc k hlt
      have hrk := HR.out.rng k
      have hold : wr.cell? ⟨w.heap.size, k, none⟩ = some (.int .u8 0) := by
        rw [HO.out.cellAt k (by omega)]
        simp [hlt, lowT]
      have hfz := HO.out.frozenAt k
      clear hc
      go_wp2_with (go_at_call 35; refine (tolower_any _ _ hrk).mono ?_; rintro e w' ⟨rfl, rfl⟩)
      go_roundw
      case rel => exact ⟨k + 1, by omega, by go_num, Lib.hid (low_step HO.out hlt), hbl.setCell (Nat.le_refl _) _⟩
      case measure => simp [intOf]; omega
    · obtain rfl : k = n := by omega
      have hrb : RB wr wr.heap.size (some ⟨w.heap.size, 0, none⟩) k k (fun j => low (f j)) := by
        have hl : ((List.range k).map (lowT f k)).length = k := by simp
        have ho := HO.out
        have := RB.of_own (xs := (List.range k).map (lowT f k)) (by rw [hl]; exact ho) (by intro x hx; simp only [List.mem_map, List.mem_range] at hx; obtain ⟨j, hj, rfl⟩ := hx; unfold lowT; rw [if_pos hj]; exact low_rng2 (HR.out.rng j))
        rw [hl] at this
        exact this.same (fun j hj => by simp [hj, lowT]) (fun j => low_rng2 (HR.out.rng j))
      have HB := Lib.hid hrb
      clear hrb
      go_wp2
      go_ret
      exact ⟨_, _, rfl, HB, hbl⟩
end Go.Proofs.Ytljoldjfmipaaaa
