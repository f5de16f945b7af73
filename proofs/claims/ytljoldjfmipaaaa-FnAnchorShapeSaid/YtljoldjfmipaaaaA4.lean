/- The shape of an anchor, in plain words; the function that looks for a gap. -/
import Derived.Test.YtljoldjfmipaaaaA3
namespace Go.Proofs.Ytljoldjfmipaaaa
open Go.RowKit

/-- No dash at the ends, nor next to another one; else small letters and digits alone. -/
def Shaped (o : List Int) : Prop := ∀ i, i < o.length →
  (o.getD i 0 = 45 → 0 < i ∧ i + 1 < o.length ∧ o.getD (i - 1) 0 ≠ 45) ∧ (o.getD i 0 ≠ 45 → (97 ≤ o.getD i 0 ∧ o.getD i 0 ≤ 122) ∨ (48 ≤ o.getD i 0 ∧ o.getD i 0 ≤ 57))
theorem getD_left (o : List Int) (x : Int) (i : Nat) (h : i < o.length) : (o ++ [x]).getD i 0 = o.getD i 0 := by
  simp [List.getD, List.getElem?_append_left h]
theorem getD_last (o : List Int) (x : Int) : (o ++ [x]).getD o.length 0 = x := by simp [List.getD]
theorem shaped_word {o : List Int} {x : Int} (h : Shaped o) (hx : (97 ≤ x ∧ x ≤ 122) ∨ (48 ≤ x ∧ x ≤ 57)) : Shaped (o ++ [x]) := by
  intro i hi
  simp only [List.length_append, List.length_singleton] at hi ⊢
  rcases Nat.lt_or_ge i o.length with hl | hl
  · obtain ⟨h1, h2⟩ := h i hl
    rw [getD_left _ _ _ hl]
    refine ⟨fun e => ?_, h2⟩
    obtain ⟨a, b, c⟩ := h1 e
    exact ⟨a, by omega, by rw [getD_left _ _ _ (by omega)]; exact c⟩
  · obtain rfl : i = o.length := by omega
    rw [getD_last]
    exact ⟨fun e => by omega, fun _ => hx⟩
theorem shaped_dash {o : List Int} {x : Int} (h : Shaped o) (hl : 0 < o.length) (hx : (97 ≤ x ∧ x ≤ 122) ∨ (48 ≤ x ∧ x ≤ 57)) : Shaped (o ++ [45] ++ [x]) := by
  intro i hi
  simp only [List.length_append, List.length_singleton] at hi ⊢
  have e2 : (o ++ [45]).length = o.length + 1 := by simp
  rcases Nat.lt_or_ge i o.length with hl' | hl'
  · obtain ⟨h1, h2⟩ := h i hl'
    rw [getD_left _ _ _ (by omega), getD_left _ _ _ hl']
    refine ⟨fun e => ?_, h2⟩
    obtain ⟨a, b, c⟩ := h1 e
    exact ⟨a, by omega, by rw [getD_left _ _ _ (by omega), getD_left _ _ _ (by omega)]; exact c⟩
  · rcases Nat.lt_or_ge i (o.length + 1) with hm | hm
    · obtain rfl : i = o.length := by omega
      rw [getD_left _ _ _ (by omega), getD_last]
      refine ⟨fun _ => ⟨hl, by omega, ?_⟩, fun e => absurd rfl e⟩
      rw [getD_left _ _ _ (by omega), getD_left _ _ _ (by omega)]
      intro e
      have := ((h (o.length - 1) (by omega)).1 e).2.1
      omega
    · obtain rfl : i = o.length + 1 := by omega
      have e3 := getD_last (o ++ [45]) x
      rw [e2] at e3
      rw [e3]
      exact ⟨fun e => by omega, fun _ => hx⟩
theorem low_small (c : Int) (h : isw c = true) : (97 ≤ low c ∧ low c ≤ 122) ∨ (48 ≤ low c ∧ low c ≤ 57) := by
  simp [isw] at h; unfold low; split <;> omega
theorem shaped_aT (f : Nat → Int) : ∀ k, Shaped (aT f k).1
  | 0 => by intro i hi; simp [aT, iter] at hi
  | k + 1 => by
    have ih := shaped_aT f k
    obtain ⟨o, g, e⟩ : ∃ o g, aT f k = (o, g) := ⟨_, _, rfl⟩
    rw [e] at ih
    by_cases hw : isw (f k) = true
    · by_cases hd : g = true ∧ 0 < o.length
      · obtain ⟨rfl, hl⟩ := hd
        rw [a_dash e hw hl]
        exact shaped_dash ih hl (low_small _ hw)
      · rw [a_word e hw (by cases g; exact .inl rfl; right; simp at hd; simp [hd])]
        exact shaped_word ih (low_small _ hw)
    · rw [a_skip e (by simpa using hw)]
      exact ih
theorem gap_nil (f : Nat → Int) : ∀ k, (∀ j, j < k → isw (f j) = false) → (aT f k).1 = []
  | 0, _ => rfl
  | k + 1, h => by
    have ih := gap_nil f k (fun j hj => h j (by omega))
    obtain ⟨o, g, e⟩ : ∃ o g, aT f k = (o, g) := ⟨_, _, rfl⟩
    rw [e] at ih
    rw [a_skip e (h k (by omega))]
    exact ih

set_option maxHeartbeats 400000 in
theorem isGap_any (s : ByteArray) (f : Nat → Int) (hf : ∀ n (h : n < s.size), ((s[n]'h).toNat : Int) = f n) (hs : s.size ≤ 100000) (w : World) :
    Calls Try.prog 12 #[.string s] w fun e w' => e = .returned (.bool (isGap f s.size)) ∧ w = w' := by
  go_enter Try.func12, Try.ntmps12
  go_wp2
  go_loop [3] (fun i => ∃ (k : Nat), Hid (∀ j, j < k → f j < 128 ∧ isw (f j) = false) ∧ k ≤ s.size ∧ i = .int .i64 k) (fun i => s.size - (intOf i).toNat)
  case atStart => exact ⟨0, fun j hj => absurd hj (by omega), Nat.zero_le _, rfl⟩
  case round =>
    obtain ⟨k, HP, hk, rfl⟩ := hrel
    by_cases hlt : k < s.size
    · by_cases hp : f k < 128
      · by_cases hw : isw (f k) = true
        · have HN : Hid (isGap f s.size = false) := Lib.hid (by simp [isGap]; exact ⟨k, hlt, fun _ => hw⟩)
          go_wp2_with (go_at_call 20; refine (isWordByte_any _ _).mono ?_; rintro e w' ⟨rfl, rfl⟩)
          go_ret
          exact ⟨ret_bool (by rw [HN.out]), rfl⟩
        · have hw' : isw (f k) = false := by simpa using hw
          clear hw
          have HN : Hid (∀ j, j < k + 1 → f j < 128 ∧ isw (f j) = false) := Lib.hid (fun j hj => by
            rcases Nat.lt_or_ge j k with h | h
            · exact HP.out j h
            · obtain rfl : j = k := by omega
              exact ⟨hp, hw'⟩)
          go_wp2_with (go_at_call 20; refine (isWordByte_any _ _).mono ?_; rintro e w' ⟨rfl, rfl⟩)
          go_round
          case rel => exact ⟨k + 1, HN, by omega, by go_num⟩
          case measure => simp [intOf]; omega
      · have HN : Hid (isGap f s.size = false) := Lib.hid (by simp [isGap]; exact ⟨k, hlt, fun h => absurd h hp⟩)
        have hp' : 128 ≤ f k := by omega
        clear hp
        go_wp2
        go_ret
        exact ⟨ret_bool (by rw [HN.out]), rfl⟩
    · obtain rfl : k = s.size := by omega
      have HN : Hid (isGap f s.size = true) := Lib.hid (by simpa [isGap] using HP.out)
      go_wp2
      go_ret
      exact ⟨ret_bool (by rw [HN.out]), rfl⟩
end Go.Proofs.Ytljoldjfmipaaaa
