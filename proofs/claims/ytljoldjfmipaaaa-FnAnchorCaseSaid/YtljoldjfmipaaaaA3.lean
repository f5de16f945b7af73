/- Contracts of what the anchor's statements call besides. -/
import Derived.Test.YtljoldjfmipaaaaA2
namespace Go.Proofs.Ytljoldjfmipaaaa
open Go.RowKit

/-- ASCII characters alone, in the first n places. -/
def isPlain (f : Nat → Int) (n : Nat) : Bool := decide (∀ k, k < n → f k < 128)
def isGap (f : Nat → Int) (n : Nat) : Bool := decide (∀ k, k < n → f k < 128 ∧ isw (f k) = false)

set_option maxHeartbeats 400000 in
theorem isPlain_any (s : ByteArray) (f : Nat → Int) (hf : ∀ n (h : n < s.size), ((s[n]'h).toNat : Int) = f n) (hs : s.size ≤ 100000) (w : World) :
    Calls Try.prog 8 #[.string s] w fun e w' => e = .returned (.bool (isPlain f s.size)) ∧ w = w' := by
  go_enter Try.func8, Try.ntmps8
  go_wp2
  go_loop [3] (fun i => ∃ (k : Nat), Hid (∀ j, j < k → f j < 128) ∧ k ≤ s.size ∧ i = .int .i64 k) (fun i => s.size - (intOf i).toNat)
  case atStart => exact ⟨0, fun j hj => absurd hj (by omega), Nat.zero_le _, rfl⟩
  case round =>
    obtain ⟨k, HP, hk, rfl⟩ := hrel
    by_cases hlt : k < s.size
    · by_cases hp : f k < 128
      · have HN : Hid (∀ j, j < k + 1 → f j < 128) := Lib.hid (fun j hj => by
          rcases Nat.lt_or_ge j k with h | h
          · exact HP.out j h
          · obtain rfl : j = k := by omega
            exact hp)
        go_wp2
        go_round
        case rel => exact ⟨k + 1, HN, by omega, by go_num⟩
        case measure => simp [intOf]; omega
      · have HN : Hid (isPlain f s.size = false) := Lib.hid (by simp [isPlain]; exact ⟨k, hlt, by omega⟩)
        have hp' : 128 ≤ f k := by omega
        clear hp
        go_wp2
        go_ret
        exact ⟨ret_bool (by rw [HN.out]), rfl⟩
    · obtain rfl : k = s.size := by omega
      have HN : Hid (isPlain f s.size = true) := Lib.hid (by simpa [isPlain] using HP.out)
      go_wp2
      go_ret
      exact ⟨ret_bool (by rw [HN.out]), rfl⟩

theorem implAnchor_any (s : ByteArray) (f : Nat → Int) (hf : ∀ n (h : n < s.size), ((s[n]'h).toNat : Int) = f n) (hr : ∀ k, k < s.size → 0 ≤ f k ∧ f k ≤ 127) (hs : s.size ≤ 100000) (w : World) :
    Calls Try.prog 10 #[.string s] w fun e w' => e = .returned (.string (strOf (aT f s.size).1)) ∧ Below w.heap.size w w' := by
  have C := fun W => Lib.hid (sanitized_any s f hf hr hs W)
  clear hf hr
  go_enter Try.func10, Try.ntmps10
  go_wp2_with (go_at_call 19; refine (C _).out.mono ?_; rintro e w' ⟨rfl, hb⟩)
  go_ret
  exact ⟨rfl, hb⟩

def helloWorld : ByteArray := ⟨#[72, 101, 108, 108, 111, 44, 32, 87, 111, 114, 108, 100, 33]⟩
theorem hello_anchor : strOf (aT (bt helloWorld.data.toList) 13).1 = ⟨#[104, 101, 108, 108, 111, 45, 119, 111, 114, 108, 100]⟩ := by decide +kernel
theorem hello_rng : ∀ k, k < 13 → 0 ≤ bt helloWorld.data.toList k ∧ bt helloWorld.data.toList k ≤ 127 := by decide +kernel

theorem implAnchor_hello (w : World) :
    Calls Try.prog 10 #[.string ⟨#[72, 101, 108, 108, 111, 44, 32, 87, 111, 114, 108, 100, 33]⟩] w fun e w' => e = .returned (.string ⟨#[104, 101, 108, 108, 111, 45, 119, 111, 114, 108, 100]⟩) ∧ Below w.heap.size w w' := by
  have h := implAnchor_any helloWorld (bt helloWorld.data.toList) (bt_str helloWorld) hello_rng (by decide) w
  exact h.mono fun e w' ⟨h1, h2⟩ => ⟨by rw [h1]; exact ret_str hello_anchor, h2⟩

theorem anchorAwake_any (w : World) :
    Calls Try.prog 9 #[] w fun e w' => e = .returned (.bool true) ∧ Below w.heap.size w w' := by
  go_enter Try.func9, Try.ntmps9
  go_wp2_with (go_at_call 10; refine (implAnchor_hello _).mono ?_; rintro e w' ⟨rfl, hb⟩)
  go_ret
  exact ⟨rfl, hb⟩
end Go.Proofs.Ytljoldjfmipaaaa
