/- The contract of bytes.Equal. -/
import Derived.Test.YtghmbpogniopoaaDoorB1
namespace Go.Proofs.YtghmbpogniopoaaDoor
open Go.RowKit
set_option linter.unusedVariables false

/-- bytes.Equal: the same length, the same bytes. -/
def sameB (n m : Nat) (f g : Nat → Int) : Bool := decide (n = m ∧ ∀ j, j < n → f j = g j)
set_option maxHeartbeats 400000 in
theorem equal_any (A A2 : Option Addr) (n c m c2 : Nat) (f g : Nat → Int) (w : World) (B : Nat) (h : RB w B A n c f) (h2 : RB w B A2 m c2 g) :
    Calls Tryd.prog 9 #[.slice A n c, .slice A2 m c2] w fun e w' => e = .returned (.bool (sameB n m f g)) ∧ w = w' := by
  have q1 := h.conv (P := Tryd.prog) 22 9 5 Tryd.underlying22 Tryd.underlying5 Tryd.underlying9
  have q2 := h2.conv (P := Tryd.prog) 22 9 5 Tryd.underlying22 Tryd.underlying5 Tryd.underlying9
  have HR := Lib.hid h.rng; have HR2 := Lib.hid h2.rng
  clear h h2
  by_cases hs : sameB n m f g = true
  · have hs' : n = m ∧ ∀ j, j < n → f j = g j := by simpa [sameB] using hs
    have e := strOf_ext hs'.1 hs'.2
    rw [← e] at q2
    clear hs' e
    generalize strOf ((List.range n).map f) = t at q1 q2
    have HS := Lib.hid hs; clear hs
    go_enter Tryd.func9, Tryd.ntmps9
    go_wp2
    go_ret
    exact ⟨ret_bool (by rw [HS.out]), rfl⟩
  · have hne : strOf ((List.range n).map f) ≠ strOf ((List.range m).map g) := fun e => hs (by
      have := strOf_inj HR.out HR2.out e
      simpa [sameB] using this)
    have hs' : sameB n m f g = false := by simpa using hs
    generalize strOf ((List.range n).map f) = t at q1 hne
    generalize strOf ((List.range m).map g) = u at q2 hne
    have HS := Lib.hid hs'; clear hs hs'
    have HN := Lib.hid hne; clear hne
    go_enter Tryd.func9, Tryd.ntmps9
    go_wp2
    go_ret
    refine ⟨ret_bool ?_, rfl⟩
    rw [HS.out]
    have h1 := HN.out
    simp
    intro he
    rw [Lib.toList_data, Lib.toList_data] at he
    exact h1 (ByteArray.ext (Array.ext' he))
end Go.Proofs.YtghmbpogniopoaaDoor
