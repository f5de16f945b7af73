/-
  NARROWER THAN 'FOR EVERY INPUT', by the rows' own cells (each row's printed sentence says how): FnLineCode: laid · FnLineNumber: laid · FnLineOne: laid · FnLineRule: laid · FnLineUnderline: laid.
  DERIVED. THE GIVEN ROWS OF THIS SEAT. 5 by the template 'for every input the law returns true; each argument reads behind the call as it read before'; 0 by the template 'total and deterministic' (their statements: YtcelfpgkknfnhaaGreatDoorTotals.lean).
  GIVEN WITH THE SEED: the statements are not yours to turn. If you find one false, say at which input.
  Laid BY PROGRAM, IN A SANDBOX (cutbox-rows.mjs): the forced cells as the released guide's own fill.sh prints them over the translation 7e952486def3b401… (all of the seat's roots in one cut). By AI agents, Wed Nov 11 2026. No macro, syntax, notation, axiom, sorry.
-/
import Derived.Test.YtcelfpgkknfnhaaGreatDoorChecked
import GoSem.Claim
import GoSem.ClaimJoined
import GoSem.ClaimMapViews
import Derived.JoinedTies
import Derived.KernelRfl
namespace Go.Proofs.YtcelfpgkknfnhaaGreatDoor
/- THE CELL 'sum', in the pinned program and in every row, IS THE sha256 OF THE DUMP (.gsa) THAT YtcelfpgkknfnhaaGreatDoorProg.lean LOADS. Nothing in Lean hashes anything: it is a label: what it is worth is what the hold of that sum in a sandbox is worth. -/
noncomputable def Tryz.pinned : Pinned := { name := "ytcelfpgkknfnhaagreatdoor", sum := "7e952486def3b401c750dbbf9caba03df362de0c446f5c913420999c76d5ba97", checked := Tryz.checked }
namespace Rows
def none {H : Type} : Left H := { results := [], args := [] }

/- WHAT THE LISTED PACKAGE-LEVEL VARIABLES READ AS WHEN THE CALL BEGINS. Each datum BY PROGRAM (the guide's laid-datum.mjs) off the statement by which the dump's own 'gosem.cut.vars' lays the variable. In a bare row this is a premise. The card (YtcelfpgkknfnhaaGreatDoorCards.lean) ties it to the program's text. -/
def laid_math_bits_deBruijn32tab {H : Type} : DataW H := .agg [.lit (.int .u8 0), .lit (.int .u8 1), .lit (.int .u8 28), .lit (.int .u8 2), .lit (.int .u8 29), .lit (.int .u8 14), .lit (.int .u8 24), .lit (.int .u8 3), .lit (.int .u8 30), .lit (.int .u8 22), .lit (.int .u8 20), .lit (.int .u8 15), .lit (.int .u8 25), .lit (.int .u8 17), .lit (.int .u8 4), .lit (.int .u8 8), .lit (.int .u8 31), .lit (.int .u8 27), .lit (.int .u8 13), .lit (.int .u8 23), .lit (.int .u8 21), .lit (.int .u8 19), .lit (.int .u8 16), .lit (.int .u8 7), .lit (.int .u8 26), .lit (.int .u8 12), .lit (.int .u8 18), .lit (.int .u8 6), .lit (.int .u8 11), .lit (.int .u8 5), .lit (.int .u8 10), .lit (.int .u8 9)]
def laid_math_bits_deBruijn64tab {H : Type} : DataW H := .agg [.lit (.int .u8 0), .lit (.int .u8 1), .lit (.int .u8 56), .lit (.int .u8 2), .lit (.int .u8 57), .lit (.int .u8 49), .lit (.int .u8 28), .lit (.int .u8 3), .lit (.int .u8 61), .lit (.int .u8 58), .lit (.int .u8 42), .lit (.int .u8 50), .lit (.int .u8 38), .lit (.int .u8 29), .lit (.int .u8 17), .lit (.int .u8 4), .lit (.int .u8 62), .lit (.int .u8 47), .lit (.int .u8 59), .lit (.int .u8 36), .lit (.int .u8 45), .lit (.int .u8 43), .lit (.int .u8 51), .lit (.int .u8 22), .lit (.int .u8 53), .lit (.int .u8 39), .lit (.int .u8 33), .lit (.int .u8 30), .lit (.int .u8 24), .lit (.int .u8 18), .lit (.int .u8 12), .lit (.int .u8 5), .lit (.int .u8 63), .lit (.int .u8 55), .lit (.int .u8 48), .lit (.int .u8 27), .lit (.int .u8 60), .lit (.int .u8 41), .lit (.int .u8 37), .lit (.int .u8 16), .lit (.int .u8 46), .lit (.int .u8 35), .lit (.int .u8 44), .lit (.int .u8 21), .lit (.int .u8 52), .lit (.int .u8 32), .lit (.int .u8 23), .lit (.int .u8 11), .lit (.int .u8 54), .lit (.int .u8 26), .lit (.int .u8 40), .lit (.int .u8 15), .lit (.int .u8 34), .lit (.int .u8 20), .lit (.int .u8 31), .lit (.int .u8 10), .lit (.int .u8 25), .lit (.int .u8 14), .lit (.int .u8 19), .lit (.int .u8 9), .lit (.int .u8 13), .lit (.int .u8 8), .lit (.int .u8 7), .lit (.int .u8 6)]
def laid_internal_strconv_uint64pow10 {H : Type} : DataW H := .agg [.lit (.int .u64 1), .lit (.int .u64 10), .lit (.int .u64 100), .lit (.int .u64 1000), .lit (.int .u64 10000), .lit (.int .u64 100000), .lit (.int .u64 1000000), .lit (.int .u64 10000000), .lit (.int .u64 100000000), .lit (.int .u64 1000000000), .lit (.int .u64 10000000000), .lit (.int .u64 100000000000), .lit (.int .u64 1000000000000), .lit (.int .u64 10000000000000), .lit (.int .u64 100000000000000), .lit (.int .u64 1000000000000000), .lit (.int .u64 10000000000000000), .lit (.int .u64 100000000000000000), .lit (.int .u64 1000000000000000000), .lit (.int .u64 10000000000000000000)]
def laid_bytes_ErrTooLarge {H : Type} : DataW H := .iface "*errors.errorString" (.ptr (.agg [.lit (.string [98, 121, 116, 101, 115, 46, 66, 117, 102, 102, 101, 114, 58, 32, 116, 111, 111, 32, 108, 97, 114, 103, 101])]))

/-- 'laws.FnLineCode': WHATEVER THE INPUT: true; the input reads as it did. -/
def fnLineCodeSpec : ChangeSpec := { name := "fnLineCode", fn := fun _ => fun
  | [d] => { results := [.lit (.bool true)], args := [d] }
  | _ => none }
def fnLineCodeRow : OpenClaim := { program := "ytcelfpgkknfnhaagreatdoor", sum := "7e952486def3b401c750dbbf9caba03df362de0c446f5c913420999c76d5ba97", func := "pub-pamphlet/laws.FnLineCode", spec := "fnLineCode", inPlace := ["internal/bytealg.IndexByte"], unfollowed := true, recurses := true, named := ["bytes.ErrTooLarge", "internal/strconv.uint64pow10", "math/bits.deBruijn32tab", "math/bits.deBruijn64tab"], apart := false, laid := [("math/bits.deBruijn32tab", laid_math_bits_deBruijn32tab), ("math/bits.deBruijn64tab", laid_math_bits_deBruijn64tab), ("internal/strconv.uint64pow10", laid_internal_strconv_uint64pow10), ("bytes.ErrTooLarge", laid_bytes_ErrTooLarge)] }
def FnLineCodeSaid : Prop := fnLineCodeRow.holds Tryz.pinned (OpenSpec.ofChange fnLineCodeSpec)

/-- ITS FALSE NEIGHBOUR: 'it returns false'. Refute it at one input. -/
def fnLineCodeWrong : ChangeSpec := { name := "fnLineCode", fn := fun _ => fun
  | [d] => { results := [.lit (.bool false)], args := [d] }
  | _ => none }
def FnLineCodeWrongFalsely : Prop := fnLineCodeRow.holds Tryz.pinned (OpenSpec.ofChange fnLineCodeWrong)

/-- 'laws.FnLineNumber': WHATEVER THE INPUT: true; the input reads as it did. -/
def fnLineNumberSpec : ChangeSpec := { name := "fnLineNumber", fn := fun _ => fun
  | [d] => { results := [.lit (.bool true)], args := [d] }
  | _ => none }
def fnLineNumberRow : OpenClaim := { program := "ytcelfpgkknfnhaagreatdoor", sum := "7e952486def3b401c750dbbf9caba03df362de0c446f5c913420999c76d5ba97", func := "pub-pamphlet/laws.FnLineNumber", spec := "fnLineNumber", inPlace := ["internal/bytealg.IndexByte"], unfollowed := true, recurses := true, named := ["bytes.ErrTooLarge", "internal/strconv.uint64pow10", "math/bits.deBruijn32tab", "math/bits.deBruijn64tab"], apart := false, laid := [("math/bits.deBruijn32tab", laid_math_bits_deBruijn32tab), ("math/bits.deBruijn64tab", laid_math_bits_deBruijn64tab), ("internal/strconv.uint64pow10", laid_internal_strconv_uint64pow10), ("bytes.ErrTooLarge", laid_bytes_ErrTooLarge)] }
def FnLineNumberSaid : Prop := fnLineNumberRow.holds Tryz.pinned (OpenSpec.ofChange fnLineNumberSpec)

/-- ITS FALSE NEIGHBOUR: 'it returns false'. Refute it at one input. -/
def fnLineNumberWrong : ChangeSpec := { name := "fnLineNumber", fn := fun _ => fun
  | [d] => { results := [.lit (.bool false)], args := [d] }
  | _ => none }
def FnLineNumberWrongFalsely : Prop := fnLineNumberRow.holds Tryz.pinned (OpenSpec.ofChange fnLineNumberWrong)

/-- 'laws.FnLineOne': WHATEVER THE INPUT: true; the input reads as it did. -/
def fnLineOneSpec : ChangeSpec := { name := "fnLineOne", fn := fun _ => fun
  | [d1, d2] => { results := [.lit (.bool true)], args := [d1, d2] }
  | _ => none }
def fnLineOneRow : OpenClaim := { program := "ytcelfpgkknfnhaagreatdoor", sum := "7e952486def3b401c750dbbf9caba03df362de0c446f5c913420999c76d5ba97", func := "pub-pamphlet/laws.FnLineOne", spec := "fnLineOne", inPlace := ["internal/bytealg.IndexByte"], unfollowed := true, recurses := true, named := ["bytes.ErrTooLarge", "internal/strconv.uint64pow10", "math/bits.deBruijn32tab", "math/bits.deBruijn64tab"], apart := false, laid := [("math/bits.deBruijn32tab", laid_math_bits_deBruijn32tab), ("math/bits.deBruijn64tab", laid_math_bits_deBruijn64tab), ("internal/strconv.uint64pow10", laid_internal_strconv_uint64pow10), ("bytes.ErrTooLarge", laid_bytes_ErrTooLarge)] }
def FnLineOneSaid : Prop := fnLineOneRow.holds Tryz.pinned (OpenSpec.ofChange fnLineOneSpec)

/-- ITS FALSE NEIGHBOUR: 'it returns false'. Refute it at one input. -/
def fnLineOneWrong : ChangeSpec := { name := "fnLineOne", fn := fun _ => fun
  | [d1, d2] => { results := [.lit (.bool false)], args := [d1, d2] }
  | _ => none }
def FnLineOneWrongFalsely : Prop := fnLineOneRow.holds Tryz.pinned (OpenSpec.ofChange fnLineOneWrong)

/-- 'laws.FnLineRule': WHATEVER THE INPUT: true; the input reads as it did. -/
def fnLineRuleSpec : ChangeSpec := { name := "fnLineRule", fn := fun _ => fun
  | [d] => { results := [.lit (.bool true)], args := [d] }
  | _ => none }
def fnLineRuleRow : OpenClaim := { program := "ytcelfpgkknfnhaagreatdoor", sum := "7e952486def3b401c750dbbf9caba03df362de0c446f5c913420999c76d5ba97", func := "pub-pamphlet/laws.FnLineRule", spec := "fnLineRule", inPlace := ["internal/bytealg.IndexByte"], unfollowed := true, recurses := true, named := ["bytes.ErrTooLarge", "internal/strconv.uint64pow10", "math/bits.deBruijn32tab", "math/bits.deBruijn64tab"], apart := false, laid := [("math/bits.deBruijn32tab", laid_math_bits_deBruijn32tab), ("math/bits.deBruijn64tab", laid_math_bits_deBruijn64tab), ("internal/strconv.uint64pow10", laid_internal_strconv_uint64pow10), ("bytes.ErrTooLarge", laid_bytes_ErrTooLarge)] }
def FnLineRuleSaid : Prop := fnLineRuleRow.holds Tryz.pinned (OpenSpec.ofChange fnLineRuleSpec)

/-- ITS FALSE NEIGHBOUR: 'it returns false'. Refute it at one input. -/
def fnLineRuleWrong : ChangeSpec := { name := "fnLineRule", fn := fun _ => fun
  | [d] => { results := [.lit (.bool false)], args := [d] }
  | _ => none }
def FnLineRuleWrongFalsely : Prop := fnLineRuleRow.holds Tryz.pinned (OpenSpec.ofChange fnLineRuleWrong)

/-- 'laws.FnLineUnderline': WHATEVER THE INPUT: true; the input reads as it did. -/
def fnLineUnderlineSpec : ChangeSpec := { name := "fnLineUnderline", fn := fun _ => fun
  | [d] => { results := [.lit (.bool true)], args := [d] }
  | _ => none }
def fnLineUnderlineRow : OpenClaim := { program := "ytcelfpgkknfnhaagreatdoor", sum := "7e952486def3b401c750dbbf9caba03df362de0c446f5c913420999c76d5ba97", func := "pub-pamphlet/laws.FnLineUnderline", spec := "fnLineUnderline", inPlace := ["internal/bytealg.IndexByte"], unfollowed := true, recurses := true, named := ["bytes.ErrTooLarge", "internal/strconv.uint64pow10", "math/bits.deBruijn32tab", "math/bits.deBruijn64tab"], apart := false, laid := [("math/bits.deBruijn32tab", laid_math_bits_deBruijn32tab), ("math/bits.deBruijn64tab", laid_math_bits_deBruijn64tab), ("internal/strconv.uint64pow10", laid_internal_strconv_uint64pow10), ("bytes.ErrTooLarge", laid_bytes_ErrTooLarge)] }
def FnLineUnderlineSaid : Prop := fnLineUnderlineRow.holds Tryz.pinned (OpenSpec.ofChange fnLineUnderlineSpec)

/-- ITS FALSE NEIGHBOUR: 'it returns false'. Refute it at one input. -/
def fnLineUnderlineWrong : ChangeSpec := { name := "fnLineUnderline", fn := fun _ => fun
  | [d] => { results := [.lit (.bool false)], args := [d] }
  | _ => none }
def FnLineUnderlineWrongFalsely : Prop := fnLineUnderlineRow.holds Tryz.pinned (OpenSpec.ofChange fnLineUnderlineWrong)

/- THE SECOND FORM. 'bulk': how many values and letters a reading holds, each counted each time it is reached (what is shared counts as often as it is met; a slice's spare places count too). A statement '..UptoSaid' is the law's where the arguments, and the package variables that the reading takes, are together of bulk at most 1048576: NARROWER than '..Said'. Prove '..Said' where nothing that the law and all that it calls make is longer than what came in: it says more and counts as full. Else prove '..UptoSaid'. A law counts once. -/
mutual
def uptoBulk {H : Type} : DataW H → Nat
  | .lit (.string bytes) => bytes.length + 1
  | .lit _ => 1
  | .nil => 1
  | .ptr d => uptoBulk d + 1
  | .slice elems spare => uptoBulkAll elems + uptoBulkAll spare + 1
  | .agg parts => uptoBulkAll parts + 1
  | .iface _ d => uptoBulk d + 1
  | .map entries => uptoBulkEntries entries + 1
  | .held _ => 1
def uptoBulkAll {H : Type} : List (DataW H) → Nat
  | [] => 0
  | d :: r => uptoBulk d + uptoBulkAll r
def uptoBulkEntries {H : Type} : List (Lit × DataW H) → Nat
  | [] => 0
  | x :: r => uptoBulkEntry x + uptoBulkEntries r
def uptoBulkEntry {H : Type} : Lit × DataW H → Nat
  | (.string bytes, d) => bytes.length + uptoBulk d + 1
  | (_, d) => uptoBulk d + 1
 end
def uptoSmall : (H : Type) → List (DataW H) → Bool := fun _ ds => decide (uptoBulkAll ds ≤ 1048576)
def OpenSpec.upto (s : _root_.Go.ChangeSpec) : _root_.Go.OpenSpec := { _root_.Go.OpenSpec.ofChange s with cond := some uptoSmall }

/-- 'laws.FnLineCode', WHERE WHAT IT READS IS OF BULK AT MOST 1048576: true; the input reads as it did. -/
def fnLineCodeUptoRow : OpenClaim := { program := "ytcelfpgkknfnhaagreatdoor", sum := "7e952486def3b401c750dbbf9caba03df362de0c446f5c913420999c76d5ba97", func := "pub-pamphlet/laws.FnLineCode", spec := "fnLineCode", inPlace := ["internal/bytealg.IndexByte"], unfollowed := true, recurses := true, named := ["bytes.ErrTooLarge", "internal/strconv.uint64pow10", "math/bits.deBruijn32tab", "math/bits.deBruijn64tab"], apart := false, laid := [("math/bits.deBruijn32tab", laid_math_bits_deBruijn32tab), ("math/bits.deBruijn64tab", laid_math_bits_deBruijn64tab), ("internal/strconv.uint64pow10", laid_internal_strconv_uint64pow10), ("bytes.ErrTooLarge", laid_bytes_ErrTooLarge)], narrowed := true }
def FnLineCodeUptoSaid : Prop := fnLineCodeUptoRow.holds Tryz.pinned (OpenSpec.upto fnLineCodeSpec)

/-- 'laws.FnLineNumber', WHERE WHAT IT READS IS OF BULK AT MOST 1048576: true; the input reads as it did. -/
def fnLineNumberUptoRow : OpenClaim := { program := "ytcelfpgkknfnhaagreatdoor", sum := "7e952486def3b401c750dbbf9caba03df362de0c446f5c913420999c76d5ba97", func := "pub-pamphlet/laws.FnLineNumber", spec := "fnLineNumber", inPlace := ["internal/bytealg.IndexByte"], unfollowed := true, recurses := true, named := ["bytes.ErrTooLarge", "internal/strconv.uint64pow10", "math/bits.deBruijn32tab", "math/bits.deBruijn64tab"], apart := false, laid := [("math/bits.deBruijn32tab", laid_math_bits_deBruijn32tab), ("math/bits.deBruijn64tab", laid_math_bits_deBruijn64tab), ("internal/strconv.uint64pow10", laid_internal_strconv_uint64pow10), ("bytes.ErrTooLarge", laid_bytes_ErrTooLarge)], narrowed := true }
def FnLineNumberUptoSaid : Prop := fnLineNumberUptoRow.holds Tryz.pinned (OpenSpec.upto fnLineNumberSpec)

/-- 'laws.FnLineOne', WHERE WHAT IT READS IS OF BULK AT MOST 1048576: true; the input reads as it did. -/
def fnLineOneUptoRow : OpenClaim := { program := "ytcelfpgkknfnhaagreatdoor", sum := "7e952486def3b401c750dbbf9caba03df362de0c446f5c913420999c76d5ba97", func := "pub-pamphlet/laws.FnLineOne", spec := "fnLineOne", inPlace := ["internal/bytealg.IndexByte"], unfollowed := true, recurses := true, named := ["bytes.ErrTooLarge", "internal/strconv.uint64pow10", "math/bits.deBruijn32tab", "math/bits.deBruijn64tab"], apart := false, laid := [("math/bits.deBruijn32tab", laid_math_bits_deBruijn32tab), ("math/bits.deBruijn64tab", laid_math_bits_deBruijn64tab), ("internal/strconv.uint64pow10", laid_internal_strconv_uint64pow10), ("bytes.ErrTooLarge", laid_bytes_ErrTooLarge)], narrowed := true }
def FnLineOneUptoSaid : Prop := fnLineOneUptoRow.holds Tryz.pinned (OpenSpec.upto fnLineOneSpec)

/-- 'laws.FnLineRule', WHERE WHAT IT READS IS OF BULK AT MOST 1048576: true; the input reads as it did. -/
def fnLineRuleUptoRow : OpenClaim := { program := "ytcelfpgkknfnhaagreatdoor", sum := "7e952486def3b401c750dbbf9caba03df362de0c446f5c913420999c76d5ba97", func := "pub-pamphlet/laws.FnLineRule", spec := "fnLineRule", inPlace := ["internal/bytealg.IndexByte"], unfollowed := true, recurses := true, named := ["bytes.ErrTooLarge", "internal/strconv.uint64pow10", "math/bits.deBruijn32tab", "math/bits.deBruijn64tab"], apart := false, laid := [("math/bits.deBruijn32tab", laid_math_bits_deBruijn32tab), ("math/bits.deBruijn64tab", laid_math_bits_deBruijn64tab), ("internal/strconv.uint64pow10", laid_internal_strconv_uint64pow10), ("bytes.ErrTooLarge", laid_bytes_ErrTooLarge)], narrowed := true }
def FnLineRuleUptoSaid : Prop := fnLineRuleUptoRow.holds Tryz.pinned (OpenSpec.upto fnLineRuleSpec)

/-- 'laws.FnLineUnderline', WHERE WHAT IT READS IS OF BULK AT MOST 1048576: true; the input reads as it did. -/
def fnLineUnderlineUptoRow : OpenClaim := { program := "ytcelfpgkknfnhaagreatdoor", sum := "7e952486def3b401c750dbbf9caba03df362de0c446f5c913420999c76d5ba97", func := "pub-pamphlet/laws.FnLineUnderline", spec := "fnLineUnderline", inPlace := ["internal/bytealg.IndexByte"], unfollowed := true, recurses := true, named := ["bytes.ErrTooLarge", "internal/strconv.uint64pow10", "math/bits.deBruijn32tab", "math/bits.deBruijn64tab"], apart := false, laid := [("math/bits.deBruijn32tab", laid_math_bits_deBruijn32tab), ("math/bits.deBruijn64tab", laid_math_bits_deBruijn64tab), ("internal/strconv.uint64pow10", laid_internal_strconv_uint64pow10), ("bytes.ErrTooLarge", laid_bytes_ErrTooLarge)], narrowed := true }
def FnLineUnderlineUptoSaid : Prop := fnLineUnderlineUptoRow.holds Tryz.pinned (OpenSpec.upto fnLineUnderlineSpec)

end Rows
end Go.Proofs.YtcelfpgkknfnhaaGreatDoor
