/- How a slice of bytes begins. -/
import Derived.Test.YtepomhngebfapaaDoorB1
import Derived.Deep.RegionWith
namespace Go.Proofs.YtepomhngebfapaaDoor
open Go.RowKit
set_option linter.unusedVariables false

def begB (n : Nat) (f : Nat → Int) (m : Nat) (g : Nat → Int) : Bool := decide (m ≤ n ∧ ∀ j, j < m → f j = g j)
theorem str_of (s : ByteArray) (g : Nat → Int) (hg : ∀ i (h : i < s.size), ((s[i]'h).toNat : Int) = g i) (hr : ∀ j, 0 ≤ g j ∧ g j ≤ 255) : s = strOf ((List.range s.size).map g) := by
  obtain ⟨h1, h2⟩ := strOf_at s.size g hr
  apply ByteArray.ext
  apply Array.ext
  · show s.size = (strOf ((List.range s.size).map g)).size
    rw [h1]
  · intro i hi hi2
    have a := hg i hi
    have b := h2 i hi2
    have : (s[i]'hi) = ((strOf ((List.range s.size).map g))[i]'hi2) := by
      apply UInt8.toNat_inj.1
      omega
    exact this

set_option maxHeartbeats 400000 in
theorem begins_any (A : Option Addr) (n c : Nat) (f : Nat → Int) (s : ByteArray) (g : Nat → Int) (w : World) (B : Nat) (h : RB w B A n c f) (hg : ∀ i (h : i < s.size), ((s[i]'h).toNat : Int) = g i) (hr : ∀ j, 0 ≤ g j ∧ g j ≤ 255) (hs : 0 < s.size) (hn : n ≤ 140737488351232) (hs2 : s.size ≤ 100000) :
    Calls Tryd.prog 10 #[.slice A n c, .string s] w fun e w' => e = .returned (.bool (begB n f s.size g)) ∧ w = w' := by
  have hcap := h.cap
  by_cases hle : s.size ≤ n
  · have hcv := (h.upto hle).conv (P := Tryd.prog) 22 9 5 Tryd.underlying22 Tryd.underlying5 Tryd.underlying9
    obtain ⟨b, off, rfl, hB, hc⟩ := h.2.2.2 (by omega)
    have he := str_of s g hg hr
    have HR := Lib.hid h.rng; have HG := Lib.hid hr
    by_cases hb : ∀ j, j < s.size → f j = g j
    · have e := strOf_ext (n := s.size) rfl hb
      rw [← he] at e
      rw [e] at hcv
      have HB : Hid (begB n f s.size g = true) := Lib.hid (by simp [begB]; exact ⟨hle, hb⟩)
      clear h hg hr he hc hb e
      go_enter Tryd.func10, Tryd.ntmps10
      go_wp2
      go_ret
      exact ⟨ret_bool (by rw [HB.out]), rfl⟩
    · have hne : strOf ((List.range s.size).map f) ≠ s := fun e => hb (by
        rw [he] at e
        have := strOf_inj h.rng hr (by simpa [strOf_size] using e)
        exact this.2)
      have HB : Hid (begB n f s.size g = false) := Lib.hid (by simp only [begB, decide_eq_false_iff_not]; exact fun h => hb h.2)
      generalize strOf ((List.range s.size).map f) = t at hcv hne
      have HN := Lib.hid hne
      clear h hg hr he hc hb hne
      go_enter Tryd.func10, Tryd.ntmps10
      go_wp2
      go_ret
      refine ⟨ret_bool ?_, rfl⟩
      rw [HB.out]
      have h1 := HN.out
      simp
      intro he
      rw [Lib.toList_data, Lib.toList_data] at he
      exact h1 (ByteArray.ext (Array.ext' he))
  · have HB : Hid (begB n f s.size g = false) := Lib.hid (by simp only [begB, decide_eq_false_iff_not]; exact fun h => hle h.1)
    clear h hg hr
    go_enter Tryd.func10, Tryd.ntmps10
    go_wp2
    go_ret
    exact ⟨ret_bool (by rw [HB.out]), rfl⟩

end Go.Proofs.YtepomhngebfapaaDoor
