/-
  No cell of these rows narrows 'for every input' (looked for: loops, veiled, ifaces, maps, wideKeys, modest, calm, conditions, laid).
  DERIVED. THE GIVEN ROWS OF THIS SEAT. 5 by the template 'for every input the law returns true; each argument reads behind the call as it read before'; 0 by the template 'total and deterministic' (their statements: YtljoldjfmipaaaaTotals.lean).
  GIVEN WITH THE SEED: the statements are not yours to turn. If you find one false, say at which input.
  Laid BY PROGRAM, IN A SANDBOX (cutbox-rows.mjs): the forced cells as the released guide's own fill.sh prints them over the translation 5da6510a7211c762… (all of the seat's roots in one cut). By AI agents, Wed Nov 11 2026. No macro, syntax, notation, axiom, sorry.
-/
import Derived.Test.YtljoldjfmipaaaaChecked
import GoSem.Claim
import GoSem.ClaimJoined
import GoSem.ClaimMapViews
import Derived.JoinedTies
import Derived.KernelRfl
namespace Go.Proofs.Ytljoldjfmipaaaa
/- THE CELL 'sum', in the pinned program and in every row, IS THE sha256 OF THE DUMP (.gsa) THAT YtljoldjfmipaaaaProg.lean LOADS. Nothing in Lean hashes anything: it is a label: what it is worth is what the hold of that sum in a sandbox is worth. -/
noncomputable def Try.pinned : Pinned := { name := "ytljoldjfmipaaaa", sum := "5da6510a7211c76298e593d7e6aa0dfe773f67b78315cedeba6173363f3cfd8c", checked := Try.checked }
namespace Rows
def none {H : Type} : Left H := { results := [], args := [] }

/-- 'laws.FnAnchor': WHATEVER THE INPUT: true; the input reads as it did. -/
def fnAnchorSpec : ChangeSpec := { name := "fnAnchor", fn := fun _ => fun
  | [d] => { results := [.lit (.bool true)], args := [d] }
  | _ => none }
def fnAnchorRow : OpenClaim := { program := "ytljoldjfmipaaaa", sum := "5da6510a7211c76298e593d7e6aa0dfe773f67b78315cedeba6173363f3cfd8c", func := "pub-pamphlet/laws.FnAnchor", spec := "fnAnchor", apart := false }
def FnAnchorSaid : Prop := fnAnchorRow.holds Try.pinned (OpenSpec.ofChange fnAnchorSpec)

/-- ITS FALSE NEIGHBOUR: 'it returns false'. Refute it at one input. -/
def fnAnchorWrong : ChangeSpec := { name := "fnAnchor", fn := fun _ => fun
  | [d] => { results := [.lit (.bool false)], args := [d] }
  | _ => none }
def FnAnchorWrongFalsely : Prop := fnAnchorRow.holds Try.pinned (OpenSpec.ofChange fnAnchorWrong)

/-- 'laws.FnAnchorCase': WHATEVER THE INPUT: true; the input reads as it did. -/
def fnAnchorCaseSpec : ChangeSpec := { name := "fnAnchorCase", fn := fun _ => fun
  | [d] => { results := [.lit (.bool true)], args := [d] }
  | _ => none }
def fnAnchorCaseRow : OpenClaim := { program := "ytljoldjfmipaaaa", sum := "5da6510a7211c76298e593d7e6aa0dfe773f67b78315cedeba6173363f3cfd8c", func := "pub-pamphlet/laws.FnAnchorCase", spec := "fnAnchorCase", apart := false }
def FnAnchorCaseSaid : Prop := fnAnchorCaseRow.holds Try.pinned (OpenSpec.ofChange fnAnchorCaseSpec)

/-- ITS FALSE NEIGHBOUR: 'it returns false'. Refute it at one input. -/
def fnAnchorCaseWrong : ChangeSpec := { name := "fnAnchorCase", fn := fun _ => fun
  | [d] => { results := [.lit (.bool false)], args := [d] }
  | _ => none }
def FnAnchorCaseWrongFalsely : Prop := fnAnchorCaseRow.holds Try.pinned (OpenSpec.ofChange fnAnchorCaseWrong)

/-- 'laws.FnAnchorShape': WHATEVER THE INPUT: true; the input reads as it did. -/
def fnAnchorShapeSpec : ChangeSpec := { name := "fnAnchorShape", fn := fun _ => fun
  | [d] => { results := [.lit (.bool true)], args := [d] }
  | _ => none }
def fnAnchorShapeRow : OpenClaim := { program := "ytljoldjfmipaaaa", sum := "5da6510a7211c76298e593d7e6aa0dfe773f67b78315cedeba6173363f3cfd8c", func := "pub-pamphlet/laws.FnAnchorShape", spec := "fnAnchorShape", apart := false }
def FnAnchorShapeSaid : Prop := fnAnchorShapeRow.holds Try.pinned (OpenSpec.ofChange fnAnchorShapeSpec)

/-- ITS FALSE NEIGHBOUR: 'it returns false'. Refute it at one input. -/
def fnAnchorShapeWrong : ChangeSpec := { name := "fnAnchorShape", fn := fun _ => fun
  | [d] => { results := [.lit (.bool false)], args := [d] }
  | _ => none }
def FnAnchorShapeWrongFalsely : Prop := fnAnchorShapeRow.holds Try.pinned (OpenSpec.ofChange fnAnchorShapeWrong)

/-- 'laws.FnSlug': WHATEVER THE INPUT: true; the input reads as it did. -/
def fnSlugSpec : ChangeSpec := { name := "fnSlug", fn := fun _ => fun
  | [d] => { results := [.lit (.bool true)], args := [d] }
  | _ => none }
def fnSlugRow : OpenClaim := { program := "ytljoldjfmipaaaa", sum := "5da6510a7211c76298e593d7e6aa0dfe773f67b78315cedeba6173363f3cfd8c", func := "pub-pamphlet/laws.FnSlug", spec := "fnSlug", apart := false }
def FnSlugSaid : Prop := fnSlugRow.holds Try.pinned (OpenSpec.ofChange fnSlugSpec)

/-- ITS FALSE NEIGHBOUR: 'it returns false'. Refute it at one input. -/
def fnSlugWrong : ChangeSpec := { name := "fnSlug", fn := fun _ => fun
  | [d] => { results := [.lit (.bool false)], args := [d] }
  | _ => none }
def FnSlugWrongFalsely : Prop := fnSlugRow.holds Try.pinned (OpenSpec.ofChange fnSlugWrong)

/-- 'laws.FnSafe': WHATEVER THE INPUT: true; the input reads as it did. -/
def fnSafeSpec : ChangeSpec := { name := "fnSafe", fn := fun _ => fun
  | [d] => { results := [.lit (.bool true)], args := [d] }
  | _ => none }
def fnSafeRow : OpenClaim := { program := "ytljoldjfmipaaaa", sum := "5da6510a7211c76298e593d7e6aa0dfe773f67b78315cedeba6173363f3cfd8c", func := "pub-pamphlet/laws.FnSafe", spec := "fnSafe", apart := false }
def FnSafeSaid : Prop := fnSafeRow.holds Try.pinned (OpenSpec.ofChange fnSafeSpec)

/-- ITS FALSE NEIGHBOUR: 'it returns false'. Refute it at one input. -/
def fnSafeWrong : ChangeSpec := { name := "fnSafe", fn := fun _ => fun
  | [d] => { results := [.lit (.bool false)], args := [d] }
  | _ => none }
def FnSafeWrongFalsely : Prop := fnSafeRow.holds Try.pinned (OpenSpec.ofChange fnSafeWrong)

/- THE SECOND FORM. 'bulk': how many values and letters a reading holds, each counted each time it is reached (what is shared counts as often as it is met; a slice's spare places count too). A statement '..UptoSaid' is the law's where the arguments, and the package variables that the reading takes, are together of bulk at most 1048576: NARROWER than '..Said'. Prove '..Said' where nothing that the law and all that it calls make is longer than what came in: it says more and counts as full. Else prove '..UptoSaid'. A law counts once. -/
mutual
def uptoBulk {H : Type} : DataW H → Nat
  | .lit (.string bytes) => bytes.length + 1
  | .lit _ => 1
  | .nil => 1
  | .ptr d => uptoBulk d + 1
  | .slice elems spare => uptoBulkAll elems + uptoBulkAll spare + 1
  | .agg parts => uptoBulkAll parts + 1
  | .iface _ d => uptoBulk d + 1
  | .map entries => uptoBulkEntries entries + 1
  | .held _ => 1
def uptoBulkAll {H : Type} : List (DataW H) → Nat
  | [] => 0
  | d :: r => uptoBulk d + uptoBulkAll r
def uptoBulkEntries {H : Type} : List (Lit × DataW H) → Nat
  | [] => 0
  | x :: r => uptoBulkEntry x + uptoBulkEntries r
def uptoBulkEntry {H : Type} : Lit × DataW H → Nat
  | (.string bytes, d) => bytes.length + uptoBulk d + 1
  | (_, d) => uptoBulk d + 1
 end
def uptoSmall : (H : Type) → List (DataW H) → Bool := fun _ ds => decide (uptoBulkAll ds ≤ 1048576)
def OpenSpec.upto (s : _root_.Go.ChangeSpec) : _root_.Go.OpenSpec := { _root_.Go.OpenSpec.ofChange s with cond := some uptoSmall }

/-- 'laws.FnAnchor', WHERE WHAT IT READS IS OF BULK AT MOST 1048576: true; the input reads as it did. -/
def fnAnchorUptoRow : OpenClaim := { program := "ytljoldjfmipaaaa", sum := "5da6510a7211c76298e593d7e6aa0dfe773f67b78315cedeba6173363f3cfd8c", func := "pub-pamphlet/laws.FnAnchor", spec := "fnAnchor", apart := false, narrowed := true }
def FnAnchorUptoSaid : Prop := fnAnchorUptoRow.holds Try.pinned (OpenSpec.upto fnAnchorSpec)

/-- 'laws.FnAnchorCase', WHERE WHAT IT READS IS OF BULK AT MOST 1048576: true; the input reads as it did. -/
def fnAnchorCaseUptoRow : OpenClaim := { program := "ytljoldjfmipaaaa", sum := "5da6510a7211c76298e593d7e6aa0dfe773f67b78315cedeba6173363f3cfd8c", func := "pub-pamphlet/laws.FnAnchorCase", spec := "fnAnchorCase", apart := false, narrowed := true }
def FnAnchorCaseUptoSaid : Prop := fnAnchorCaseUptoRow.holds Try.pinned (OpenSpec.upto fnAnchorCaseSpec)

/-- 'laws.FnAnchorShape', WHERE WHAT IT READS IS OF BULK AT MOST 1048576: true; the input reads as it did. -/
def fnAnchorShapeUptoRow : OpenClaim := { program := "ytljoldjfmipaaaa", sum := "5da6510a7211c76298e593d7e6aa0dfe773f67b78315cedeba6173363f3cfd8c", func := "pub-pamphlet/laws.FnAnchorShape", spec := "fnAnchorShape", apart := false, narrowed := true }
def FnAnchorShapeUptoSaid : Prop := fnAnchorShapeUptoRow.holds Try.pinned (OpenSpec.upto fnAnchorShapeSpec)

/-- 'laws.FnSlug', WHERE WHAT IT READS IS OF BULK AT MOST 1048576: true; the input reads as it did. -/
def fnSlugUptoRow : OpenClaim := { program := "ytljoldjfmipaaaa", sum := "5da6510a7211c76298e593d7e6aa0dfe773f67b78315cedeba6173363f3cfd8c", func := "pub-pamphlet/laws.FnSlug", spec := "fnSlug", apart := false, narrowed := true }
def FnSlugUptoSaid : Prop := fnSlugUptoRow.holds Try.pinned (OpenSpec.upto fnSlugSpec)

/-- 'laws.FnSafe', WHERE WHAT IT READS IS OF BULK AT MOST 1048576: true; the input reads as it did. -/
def fnSafeUptoRow : OpenClaim := { program := "ytljoldjfmipaaaa", sum := "5da6510a7211c76298e593d7e6aa0dfe773f67b78315cedeba6173363f3cfd8c", func := "pub-pamphlet/laws.FnSafe", spec := "fnSafe", apart := false, narrowed := true }
def FnSafeUptoSaid : Prop := fnSafeUptoRow.holds Try.pinned (OpenSpec.upto fnSafeSpec)

end Rows
end Go.Proofs.Ytljoldjfmipaaaa
