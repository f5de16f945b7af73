/- Contracts of the functions that classify one character. -/
import Derived.Test.YtljoldjfmipaaaaRows
import Derived.Test.YtljoldjfmipaaaaMem
namespace Go.Proofs.Ytljoldjfmipaaaa
open Go.RowKit

/-- An ASCII letter or digit. -/
def isw (c : Int) : Bool := decide (48 ≤ c ∧ c ≤ 57) || decide (97 ≤ c ∧ c ≤ 122) || decide (65 ≤ c ∧ c ≤ 90)
/-- A capital ASCII letter becomes a small one. -/
def low (c : Int) : Int := if 65 ≤ c ∧ c ≤ 90 then c + 32 else c

theorem isWordByte_any (c : Int) (w : World) :
    Calls Try.prog 20 #[.int .u8 c] w fun e w' => e = .returned (.bool (isw c)) ∧ w = w' := by
  go_enter Try.func20, Try.ntmps20
  go_wp2
  all_goals go_ret
  all_goals exact ⟨ret_bool (by rw [Bool.eq_iff_iff]; simp [isw]; omega), rfl⟩
theorem zzIsAlnum_any (c : Int) (w : World) :
    Calls Try.prog 26 #[.int .i32 c] w fun e w' => e = .returned (.bool (isw c)) ∧ w = w' := by
  go_enter Try.func26, Try.ntmps26
  go_wp2
  all_goals go_ret
  all_goals exact ⟨ret_bool (by rw [Bool.eq_iff_iff]; simp [isw]; omega), rfl⟩
theorem zzToLower_any (c : Int) (w : World) :
    Calls Try.prog 27 #[.int .i32 c] w fun e w' => e = .returned (.int .i32 (low c)) ∧ w = w' := by
  go_enter Try.func27, Try.ntmps27
  go_wp2
  all_goals go_ret
  all_goals exact ⟨ret_int (by unfold low; split <;> omega), rfl⟩
end Go.Proofs.Ytljoldjfmipaaaa
