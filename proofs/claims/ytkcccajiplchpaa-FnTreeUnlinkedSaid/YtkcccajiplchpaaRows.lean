/-
  No cell of these rows narrows 'for every input' (looked for: loops, veiled, ifaces, maps, wideKeys, modest, calm, conditions, laid).
  DERIVED. THE GIVEN ROWS OF THIS SEAT. 2 by the template 'for every input the law returns true; each argument reads behind the call as it read before'; 0 by the template 'total and deterministic' (their statements: YtkcccajiplchpaaTotals.lean).
  GIVEN WITH THE SEED: the statements are not yours to turn. If you find one false, say at which input.
  Laid BY PROGRAM, IN A SANDBOX (cutbox-rows.mjs): the forced cells as the released guide's own fill.sh prints them over the translation c53ac4252bc33ad1… (all of the seat's roots in one cut). By AI agents, Wed Nov 11 2026. No macro, syntax, notation, axiom, sorry.
-/
import Derived.Test.YtkcccajiplchpaaChecked
import GoSem.Claim
import GoSem.ClaimJoined
import GoSem.ClaimMapViews
import Derived.JoinedTies
import Derived.KernelRfl
namespace Go.Proofs.Ytkcccajiplchpaa
/- THE CELL 'sum', in the pinned program and in every row, IS THE sha256 OF THE DUMP (.gsa) THAT YtkcccajiplchpaaProg.lean LOADS. Nothing in Lean hashes anything: it is a label: what it is worth is what the hold of that sum in a sandbox is worth. -/
noncomputable def Try.pinned : Pinned := { name := "ytkcccajiplchpaa", sum := "c53ac4252bc33ad1e878ba19aa71e2c378174ab4d84e3254785aff46de3a3e30", checked := Try.checked }
namespace Rows
def none {H : Type} : Left H := { results := [], args := [] }

/-- 'laws.FnTreeSteps': WHATEVER THE INPUT: true; the input reads as it did. -/
def fnTreeStepsSpec : ChangeSpec := { name := "fnTreeSteps", fn := fun _ => fun
  | [d] => { results := [.lit (.bool true)], args := [d] }
  | _ => none }
def fnTreeStepsRow : OpenClaim := { program := "ytkcccajiplchpaa", sum := "c53ac4252bc33ad1e878ba19aa71e2c378174ab4d84e3254785aff46de3a3e30", func := "pub-pamphlet/laws.FnTreeSteps", spec := "fnTreeSteps", apart := false }
def FnTreeStepsSaid : Prop := fnTreeStepsRow.holds Try.pinned (OpenSpec.ofChange fnTreeStepsSpec)

/-- ITS FALSE NEIGHBOUR: 'it returns false'. Refute it at one input. -/
def fnTreeStepsWrong : ChangeSpec := { name := "fnTreeSteps", fn := fun _ => fun
  | [d] => { results := [.lit (.bool false)], args := [d] }
  | _ => none }
def FnTreeStepsWrongFalsely : Prop := fnTreeStepsRow.holds Try.pinned (OpenSpec.ofChange fnTreeStepsWrong)

/-- 'laws.FnTreeUnlinked': WHATEVER THE INPUT: true; the input reads as it did. -/
def fnTreeUnlinkedSpec : ChangeSpec := { name := "fnTreeUnlinked", fn := fun _ => fun
  | [d1, d2, d3] => { results := [.lit (.bool true)], args := [d1, d2, d3] }
  | _ => none }
def fnTreeUnlinkedRow : OpenClaim := { program := "ytkcccajiplchpaa", sum := "c53ac4252bc33ad1e878ba19aa71e2c378174ab4d84e3254785aff46de3a3e30", func := "pub-pamphlet/laws.FnTreeUnlinked", spec := "fnTreeUnlinked", apart := false }
def FnTreeUnlinkedSaid : Prop := fnTreeUnlinkedRow.holds Try.pinned (OpenSpec.ofChange fnTreeUnlinkedSpec)

/-- ITS FALSE NEIGHBOUR: 'it returns false'. Refute it at one input. -/
def fnTreeUnlinkedWrong : ChangeSpec := { name := "fnTreeUnlinked", fn := fun _ => fun
  | [d1, d2, d3] => { results := [.lit (.bool false)], args := [d1, d2, d3] }
  | _ => none }
def FnTreeUnlinkedWrongFalsely : Prop := fnTreeUnlinkedRow.holds Try.pinned (OpenSpec.ofChange fnTreeUnlinkedWrong)

/- THE SECOND FORM. 'bulk': how many values and letters a reading holds, each counted each time it is reached (what is shared counts as often as it is met; a slice's spare places count too). A statement '..UptoSaid' is the law's where the arguments, and the package variables that the reading takes, are together of bulk at most 1048576: NARROWER than '..Said'. Prove '..Said' where nothing that the law and all that it calls make is longer than what came in: it says more and counts as full. Else prove '..UptoSaid'. A law counts once. -/
mutual
def uptoBulk {H : Type} : DataW H → Nat
  | .lit (.string bytes) => bytes.length + 1
  | .lit _ => 1
  | .nil => 1
  | .ptr d => uptoBulk d + 1
  | .slice elems spare => uptoBulkAll elems + uptoBulkAll spare + 1
  | .agg parts => uptoBulkAll parts + 1
  | .iface _ d => uptoBulk d + 1
  | .map entries => uptoBulkEntries entries + 1
  | .held _ => 1
def uptoBulkAll {H : Type} : List (DataW H) → Nat
  | [] => 0
  | d :: r => uptoBulk d + uptoBulkAll r
def uptoBulkEntries {H : Type} : List (Lit × DataW H) → Nat
  | [] => 0
  | x :: r => uptoBulkEntry x + uptoBulkEntries r
def uptoBulkEntry {H : Type} : Lit × DataW H → Nat
  | (.string bytes, d) => bytes.length + uptoBulk d + 1
  | (_, d) => uptoBulk d + 1
 end
def uptoSmall : (H : Type) → List (DataW H) → Bool := fun _ ds => decide (uptoBulkAll ds ≤ 1048576)
def OpenSpec.upto (s : _root_.Go.ChangeSpec) : _root_.Go.OpenSpec := { _root_.Go.OpenSpec.ofChange s with cond := some uptoSmall }

/-- 'laws.FnTreeSteps', WHERE WHAT IT READS IS OF BULK AT MOST 1048576: true; the input reads as it did. -/
def fnTreeStepsUptoRow : OpenClaim := { program := "ytkcccajiplchpaa", sum := "c53ac4252bc33ad1e878ba19aa71e2c378174ab4d84e3254785aff46de3a3e30", func := "pub-pamphlet/laws.FnTreeSteps", spec := "fnTreeSteps", apart := false, narrowed := true }
def FnTreeStepsUptoSaid : Prop := fnTreeStepsUptoRow.holds Try.pinned (OpenSpec.upto fnTreeStepsSpec)

/-- 'laws.FnTreeUnlinked', WHERE WHAT IT READS IS OF BULK AT MOST 1048576: true; the input reads as it did. -/
def fnTreeUnlinkedUptoRow : OpenClaim := { program := "ytkcccajiplchpaa", sum := "c53ac4252bc33ad1e878ba19aa71e2c378174ab4d84e3254785aff46de3a3e30", func := "pub-pamphlet/laws.FnTreeUnlinked", spec := "fnTreeUnlinked", apart := false, narrowed := true }
def FnTreeUnlinkedUptoSaid : Prop := fnTreeUnlinkedUptoRow.holds Try.pinned (OpenSpec.upto fnTreeUnlinkedSpec)

end Rows
end Go.Proofs.Ytkcccajiplchpaa
