/-
  No cell of these rows narrows 'for every input' (looked for: loops, veiled, ifaces, maps, wideKeys, modest, calm, conditions, laid).
  DERIVED. THE GIVEN ROWS OF THIS SEAT. 2 by the template 'for every input the law returns true; each argument reads behind the call as it read before'; 0 by the template 'total and deterministic' (their statements: YtkkkdcfidoecnaaTotals.lean).
  GIVEN WITH THE SEED: the statements are not yours to turn. If you find one false, say at which input.
  Laid BY PROGRAM, IN A SANDBOX (cutbox-rows.mjs): the forced cells as the released guide's own fill.sh prints them over the translation 8fbe4df51060d94f… (all of the seat's roots in one cut). By AI agents, Wed Nov 11 2026. No macro, syntax, notation, axiom, sorry.
-/
import Derived.Test.YtkkkdcfidoecnaaChecked
import GoSem.Claim
import GoSem.ClaimJoined
import GoSem.ClaimMapViews
import Derived.JoinedTies
import Derived.KernelRfl
namespace Go.Proofs.Ytkkkdcfidoecnaa
/- THE CELL 'sum', in the pinned program and in every row, IS THE sha256 OF THE DUMP (.gsa) THAT YtkkkdcfidoecnaaProg.lean LOADS. Nothing in Lean hashes anything: it is a label: what it is worth is what the hold of that sum in a sandbox is worth. -/
noncomputable def Try.pinned : Pinned := { name := "ytkkkdcfidoecnaa", sum := "8fbe4df51060d94f3b84f4b7a4c5f941d646e4bc180c1508325f8d8b3629090e", checked := Try.checked }
namespace Rows
def none {H : Type} : Left H := { results := [], args := [] }

/-- 'laws.FnFindEmphasis': WHATEVER THE INPUT: true; the input reads as it did. -/
def fnFindEmphasisSpec : ChangeSpec := { name := "fnFindEmphasis", fn := fun _ => fun
  | [d1, d2] => { results := [.lit (.bool true)], args := [d1, d2] }
  | _ => none }
def fnFindEmphasisRow : OpenClaim := { program := "ytkkkdcfidoecnaa", sum := "8fbe4df51060d94f3b84f4b7a4c5f941d646e4bc180c1508325f8d8b3629090e", func := "pub-pamphlet/laws.FnFindEmphasis", spec := "fnFindEmphasis", unfollowed := true, recurses := true, apart := false }
def FnFindEmphasisSaid : Prop := fnFindEmphasisRow.holds Try.pinned (OpenSpec.ofChange fnFindEmphasisSpec)

/-- ITS FALSE NEIGHBOUR: 'it returns false'. Refute it at one input. -/
def fnFindEmphasisWrong : ChangeSpec := { name := "fnFindEmphasis", fn := fun _ => fun
  | [d1, d2] => { results := [.lit (.bool false)], args := [d1, d2] }
  | _ => none }
def FnFindEmphasisWrongFalsely : Prop := fnFindEmphasisRow.holds Try.pinned (OpenSpec.ofChange fnFindEmphasisWrong)

/-- 'laws.FnTag': WHATEVER THE INPUT: true; the input reads as it did. -/
def fnTagSpec : ChangeSpec := { name := "fnTag", fn := fun _ => fun
  | [d] => { results := [.lit (.bool true)], args := [d] }
  | _ => none }
def fnTagRow : OpenClaim := { program := "ytkkkdcfidoecnaa", sum := "8fbe4df51060d94f3b84f4b7a4c5f941d646e4bc180c1508325f8d8b3629090e", func := "pub-pamphlet/laws.FnTag", spec := "fnTag", inPlace := ["internal/bytealg.IndexByte"], unfollowed := true, recurses := true, apart := false }
def FnTagSaid : Prop := fnTagRow.holds Try.pinned (OpenSpec.ofChange fnTagSpec)

/-- ITS FALSE NEIGHBOUR: 'it returns false'. Refute it at one input. -/
def fnTagWrong : ChangeSpec := { name := "fnTag", fn := fun _ => fun
  | [d] => { results := [.lit (.bool false)], args := [d] }
  | _ => none }
def FnTagWrongFalsely : Prop := fnTagRow.holds Try.pinned (OpenSpec.ofChange fnTagWrong)

/- THE SECOND FORM. 'bulk': how many values and letters a reading holds, each counted each time it is reached (what is shared counts as often as it is met; a slice's spare places count too). A statement '..UptoSaid' is the law's where the arguments, and the package variables that the reading takes, are together of bulk at most 1048576: NARROWER than '..Said'. Prove '..Said' where nothing that the law and all that it calls make is longer than what came in: it says more and counts as full. Else prove '..UptoSaid'. A law counts once. -/
mutual
def uptoBulk {H : Type} : DataW H → Nat
  | .lit (.string bytes) => bytes.length + 1
  | .lit _ => 1
  | .nil => 1
  | .ptr d => uptoBulk d + 1
  | .slice elems spare => uptoBulkAll elems + uptoBulkAll spare + 1
  | .agg parts => uptoBulkAll parts + 1
  | .iface _ d => uptoBulk d + 1
  | .map entries => uptoBulkEntries entries + 1
  | .held _ => 1
def uptoBulkAll {H : Type} : List (DataW H) → Nat
  | [] => 0
  | d :: r => uptoBulk d + uptoBulkAll r
def uptoBulkEntries {H : Type} : List (Lit × DataW H) → Nat
  | [] => 0
  | x :: r => uptoBulkEntry x + uptoBulkEntries r
def uptoBulkEntry {H : Type} : Lit × DataW H → Nat
  | (.string bytes, d) => bytes.length + uptoBulk d + 1
  | (_, d) => uptoBulk d + 1
 end
def uptoSmall : (H : Type) → List (DataW H) → Bool := fun _ ds => decide (uptoBulkAll ds ≤ 1048576)
def OpenSpec.upto (s : _root_.Go.ChangeSpec) : _root_.Go.OpenSpec := { _root_.Go.OpenSpec.ofChange s with cond := some uptoSmall }

/-- 'laws.FnFindEmphasis', WHERE WHAT IT READS IS OF BULK AT MOST 1048576: true; the input reads as it did. -/
def fnFindEmphasisUptoRow : OpenClaim := { program := "ytkkkdcfidoecnaa", sum := "8fbe4df51060d94f3b84f4b7a4c5f941d646e4bc180c1508325f8d8b3629090e", func := "pub-pamphlet/laws.FnFindEmphasis", spec := "fnFindEmphasis", unfollowed := true, recurses := true, apart := false, narrowed := true }
def FnFindEmphasisUptoSaid : Prop := fnFindEmphasisUptoRow.holds Try.pinned (OpenSpec.upto fnFindEmphasisSpec)

/-- 'laws.FnTag', WHERE WHAT IT READS IS OF BULK AT MOST 1048576: true; the input reads as it did. -/
def fnTagUptoRow : OpenClaim := { program := "ytkkkdcfidoecnaa", sum := "8fbe4df51060d94f3b84f4b7a4c5f941d646e4bc180c1508325f8d8b3629090e", func := "pub-pamphlet/laws.FnTag", spec := "fnTag", inPlace := ["internal/bytealg.IndexByte"], unfollowed := true, recurses := true, apart := false, narrowed := true }
def FnTagUptoSaid : Prop := fnTagUptoRow.holds Try.pinned (OpenSpec.upto fnTagSpec)

end Rows
end Go.Proofs.Ytkkkdcfidoecnaa
