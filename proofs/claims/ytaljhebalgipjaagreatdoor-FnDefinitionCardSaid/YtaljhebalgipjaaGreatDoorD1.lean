/- Reference definitions: the link and its title. -/
import Derived.Test.YtaljhebalgipjaaGreatDoorMem2
import Derived.Test.YtaljhebalgipjaaGreatDoorProg
import Derived.LoopN
import Derived.Handy
import Derived.ProofKit
import Derived.Deep.DeepCutAuto
import Derived.Deep.CutBlock
namespace Go.Proofs.YtaljhebalgipjaaGreatDoor
open Go.RowKit
set_option linter.unusedVariables false

theorem lnb {a b : Int} (h : a ≠ b) : (a != b) = true ∧ (a == b) = false := ⟨by simpa using h, by simpa using h⟩
theorem leb {a b : Int} (h : a = b) : (a != b) = false ∧ (a == b) = true := ⟨by simpa using h, by simpa using h⟩
/-- Five results. -/
theorem results_tmp5 {fn : Func} {t u v x y : Tmp} (h : fn.results = #[.tmp t, .tmp u, .tmp v, .tmp x, .tmp y]) (tmps : Array Value) (P : Program) (w : World) :
    (results fn tmps).run P w = .ok (.tuple #[tmps.getD t undef, tmps.getD u undef, tmps.getD v undef, tmps.getD x undef, tmps.getD y undef]) w := by
  simp [results, h]
/-- No blank, no end of a line. -/
def inkB (c : Int) : Prop := c ≠ 32 ∧ c ≠ 9 ∧ c ≠ 10 ∧ c ≠ 13
def quoB (c : Int) : Prop := c = 39 ∨ c = 34 ∨ c = 40
/-- The title in [T, T + t), and the end of the definition. -/
structure Tit (f : Nat → Int) (n U T R Z : Nat) : Prop where
  quo : quoB (f U)
  hT : T = U + 1
  hR : T < R
  hZ : Z = R + 1
  body : ∀ j, T ≤ j → j < Z → f j ≠ 10 ∧ f j ≠ 13
  z10 : f Z = 10
  zn : Z + 1 < n
  z13 : f (Z + 1) ≠ 13
  shut : f R = 39 ∨ f R = 34 ∨ f R = 41
end Go.Proofs.YtaljhebalgipjaaGreatDoor
