/-
  NARROWER THAN 'FOR EVERY INPUT', by the rows' own cells (each row's printed sentence says how): FnRecordForm: laid · FnBatchLast: laid · FnMessageForm: laid · FnBatchCut: laid · FnBatchSpoilt: laid · FnSetCut: laid · FnControl: laid · FnBatchForm: laid · FnSetForm: laid · FnVersions: laid.
  DERIVED. THE GIVEN ROWS OF THIS SEAT. 10 by the template 'for every input the law returns true; each argument reads behind the call as it read before'; 0 by the template 'total and deterministic' (their statements: YtmiflkccfieefaaGreatDoorTotals.lean).
  GIVEN WITH THE SEED: the statements are not yours to turn. If you find one false, say at which input.
  Laid BY PROGRAM, IN A SANDBOX (cutbox-rows.mjs): the forced cells as the released guide's own fill.sh prints them over the translation 4e51cd6f0b8c166c… (all of the seat's roots in one cut). By AI agents, Wed Nov 11 2026. No macro, syntax, notation, axiom, sorry.
-/
import Derived.Test.YtmiflkccfieefaaGreatDoorChecked
import GoSem.Claim
import GoSem.ClaimJoined
import GoSem.ClaimMapViews
import Derived.JoinedTies
import Derived.KernelRfl
namespace Go.Proofs.YtmiflkccfieefaaGreatDoor
/- THE CELL 'sum', in the pinned program and in every row, IS THE sha256 OF THE DUMP (.gsa) THAT YtmiflkccfieefaaGreatDoorProg.lean LOADS. Nothing in Lean hashes anything: it is a label: what it is worth is what the hold of that sum in a sandbox is worth. -/
noncomputable def Tryz.pinned : Pinned := { name := "ytmiflkccfieefaagreatdoor", sum := "4e51cd6f0b8c166c96a96313e077d92aca3c26bcfd386950bf9ce059cdf6ddbb", checked := Tryz.checked }
namespace Rows
def none {H : Type} : Left H := { results := [], args := [] }

/- WHAT THE LISTED PACKAGE-LEVEL VARIABLES READ AS WHEN THE CALL BEGINS. Each datum BY PROGRAM (the guide's laid-datum.mjs) off the statement by which the dump's own 'gosem.cut.vars' lays the variable. In a bare row this is a premise. The card (YtmiflkccfieefaaGreatDoorCards.lean) ties it to the program's text. -/
def laid_pub_kestrel_pub_sarama_ErrUnknownMessage {H : Type} : DataW H := .iface "*errors.errorString" (.ptr (.agg [.lit (.string [107, 97, 102, 107, 97, 58, 32, 117, 110, 107, 110, 111, 119, 110, 32, 112, 114, 111, 116, 111, 99, 111, 108, 32, 109, 101, 115, 115, 97, 103, 101, 32, 107, 101, 121])]))
def laid_math_bits_deBruijn32tab {H : Type} : DataW H := .agg [.lit (.int .u8 0), .lit (.int .u8 1), .lit (.int .u8 28), .lit (.int .u8 2), .lit (.int .u8 29), .lit (.int .u8 14), .lit (.int .u8 24), .lit (.int .u8 3), .lit (.int .u8 30), .lit (.int .u8 22), .lit (.int .u8 20), .lit (.int .u8 15), .lit (.int .u8 25), .lit (.int .u8 17), .lit (.int .u8 4), .lit (.int .u8 8), .lit (.int .u8 31), .lit (.int .u8 27), .lit (.int .u8 13), .lit (.int .u8 23), .lit (.int .u8 21), .lit (.int .u8 19), .lit (.int .u8 16), .lit (.int .u8 7), .lit (.int .u8 26), .lit (.int .u8 12), .lit (.int .u8 18), .lit (.int .u8 6), .lit (.int .u8 11), .lit (.int .u8 5), .lit (.int .u8 10), .lit (.int .u8 9)]
def laid_math_bits_deBruijn64tab {H : Type} : DataW H := .agg [.lit (.int .u8 0), .lit (.int .u8 1), .lit (.int .u8 56), .lit (.int .u8 2), .lit (.int .u8 57), .lit (.int .u8 49), .lit (.int .u8 28), .lit (.int .u8 3), .lit (.int .u8 61), .lit (.int .u8 58), .lit (.int .u8 42), .lit (.int .u8 50), .lit (.int .u8 38), .lit (.int .u8 29), .lit (.int .u8 17), .lit (.int .u8 4), .lit (.int .u8 62), .lit (.int .u8 47), .lit (.int .u8 59), .lit (.int .u8 36), .lit (.int .u8 45), .lit (.int .u8 43), .lit (.int .u8 51), .lit (.int .u8 22), .lit (.int .u8 53), .lit (.int .u8 39), .lit (.int .u8 33), .lit (.int .u8 30), .lit (.int .u8 24), .lit (.int .u8 18), .lit (.int .u8 12), .lit (.int .u8 5), .lit (.int .u8 63), .lit (.int .u8 55), .lit (.int .u8 48), .lit (.int .u8 27), .lit (.int .u8 60), .lit (.int .u8 41), .lit (.int .u8 37), .lit (.int .u8 16), .lit (.int .u8 46), .lit (.int .u8 35), .lit (.int .u8 44), .lit (.int .u8 21), .lit (.int .u8 52), .lit (.int .u8 32), .lit (.int .u8 23), .lit (.int .u8 11), .lit (.int .u8 54), .lit (.int .u8 26), .lit (.int .u8 40), .lit (.int .u8 15), .lit (.int .u8 34), .lit (.int .u8 20), .lit (.int .u8 31), .lit (.int .u8 10), .lit (.int .u8 25), .lit (.int .u8 14), .lit (.int .u8 19), .lit (.int .u8 9), .lit (.int .u8 13), .lit (.int .u8 8), .lit (.int .u8 7), .lit (.int .u8 6)]
def laid_internal_strconv_uint64pow10 {H : Type} : DataW H := .agg [.lit (.int .u64 1), .lit (.int .u64 10), .lit (.int .u64 100), .lit (.int .u64 1000), .lit (.int .u64 10000), .lit (.int .u64 100000), .lit (.int .u64 1000000), .lit (.int .u64 10000000), .lit (.int .u64 100000000), .lit (.int .u64 1000000000), .lit (.int .u64 10000000000), .lit (.int .u64 100000000000), .lit (.int .u64 1000000000000), .lit (.int .u64 10000000000000), .lit (.int .u64 100000000000000), .lit (.int .u64 1000000000000000), .lit (.int .u64 10000000000000000), .lit (.int .u64 100000000000000000), .lit (.int .u64 1000000000000000000), .lit (.int .u64 10000000000000000000)]

/-- 'laws.FnRecordForm': WHATEVER THE INPUT: true; the input reads as it did. -/
def fnRecordFormSpec : ChangeSpec := { name := "fnRecordForm", fn := fun _ => fun
  | [d1, d2] => { results := [.lit (.bool true)], args := [d1, d2] }
  | _ => none }
def fnRecordFormRow : OpenClaim := { program := "ytmiflkccfieefaagreatdoor", sum := "4e51cd6f0b8c166c96a96313e077d92aca3c26bcfd386950bf9ce059cdf6ddbb", func := "pub-kestrel/laws.FnRecordForm", spec := "fnRecordForm", unfollowed := true, recurses := true, named := ["pub-kestrel/pub/sarama.ErrUnknownMessage"], apart := false, laid := [("pub-kestrel/pub/sarama.ErrUnknownMessage", laid_pub_kestrel_pub_sarama_ErrUnknownMessage)] }
def FnRecordFormSaid : Prop := fnRecordFormRow.holds Tryz.pinned (OpenSpec.ofChange fnRecordFormSpec)

/-- ITS FALSE NEIGHBOUR: 'it returns false'. Refute it at one input. -/
def fnRecordFormWrong : ChangeSpec := { name := "fnRecordForm", fn := fun _ => fun
  | [d1, d2] => { results := [.lit (.bool false)], args := [d1, d2] }
  | _ => none }
def FnRecordFormWrongFalsely : Prop := fnRecordFormRow.holds Tryz.pinned (OpenSpec.ofChange fnRecordFormWrong)

/-- 'laws.FnBatchLast': WHATEVER THE INPUT: true; the input reads as it did. -/
def fnBatchLastSpec : ChangeSpec := { name := "fnBatchLast", fn := fun _ => fun
  | [d] => { results := [.lit (.bool true)], args := [d] }
  | _ => none }
def fnBatchLastRow : OpenClaim := { program := "ytmiflkccfieefaagreatdoor", sum := "4e51cd6f0b8c166c96a96313e077d92aca3c26bcfd386950bf9ce059cdf6ddbb", func := "pub-kestrel/laws.FnBatchLast", spec := "fnBatchLast", unfollowed := true, recurses := true, named := ["pub-kestrel/pub/sarama.ErrUnknownMessage"], apart := false, laid := [("pub-kestrel/pub/sarama.ErrUnknownMessage", laid_pub_kestrel_pub_sarama_ErrUnknownMessage)] }
def FnBatchLastSaid : Prop := fnBatchLastRow.holds Tryz.pinned (OpenSpec.ofChange fnBatchLastSpec)

/-- ITS FALSE NEIGHBOUR: 'it returns false'. Refute it at one input. -/
def fnBatchLastWrong : ChangeSpec := { name := "fnBatchLast", fn := fun _ => fun
  | [d] => { results := [.lit (.bool false)], args := [d] }
  | _ => none }
def FnBatchLastWrongFalsely : Prop := fnBatchLastRow.holds Tryz.pinned (OpenSpec.ofChange fnBatchLastWrong)

/-- 'laws.FnMessageForm': WHATEVER THE INPUT: true; the input reads as it did. -/
def fnMessageFormSpec : ChangeSpec := { name := "fnMessageForm", fn := fun _ => fun
  | [d1, d2] => { results := [.lit (.bool true)], args := [d1, d2] }
  | _ => none }
def fnMessageFormRow : OpenClaim := { program := "ytmiflkccfieefaagreatdoor", sum := "4e51cd6f0b8c166c96a96313e077d92aca3c26bcfd386950bf9ce059cdf6ddbb", func := "pub-kestrel/laws.FnMessageForm", spec := "fnMessageForm", unfollowed := true, recurses := true, named := ["pub-kestrel/pub/sarama.ErrUnknownMessage"], apart := false, laid := [("pub-kestrel/pub/sarama.ErrUnknownMessage", laid_pub_kestrel_pub_sarama_ErrUnknownMessage)] }
def FnMessageFormSaid : Prop := fnMessageFormRow.holds Tryz.pinned (OpenSpec.ofChange fnMessageFormSpec)

/-- ITS FALSE NEIGHBOUR: 'it returns false'. Refute it at one input. -/
def fnMessageFormWrong : ChangeSpec := { name := "fnMessageForm", fn := fun _ => fun
  | [d1, d2] => { results := [.lit (.bool false)], args := [d1, d2] }
  | _ => none }
def FnMessageFormWrongFalsely : Prop := fnMessageFormRow.holds Tryz.pinned (OpenSpec.ofChange fnMessageFormWrong)

/-- 'laws.FnBatchCut': WHATEVER THE INPUT: true; the input reads as it did. -/
def fnBatchCutSpec : ChangeSpec := { name := "fnBatchCut", fn := fun _ => fun
  | [d1, d2] => { results := [.lit (.bool true)], args := [d1, d2] }
  | _ => none }
def fnBatchCutRow : OpenClaim := { program := "ytmiflkccfieefaagreatdoor", sum := "4e51cd6f0b8c166c96a96313e077d92aca3c26bcfd386950bf9ce059cdf6ddbb", func := "pub-kestrel/laws.FnBatchCut", spec := "fnBatchCut", unfollowed := true, recurses := true, named := ["pub-kestrel/pub/sarama.ErrUnknownMessage"], apart := false, laid := [("pub-kestrel/pub/sarama.ErrUnknownMessage", laid_pub_kestrel_pub_sarama_ErrUnknownMessage)] }
def FnBatchCutSaid : Prop := fnBatchCutRow.holds Tryz.pinned (OpenSpec.ofChange fnBatchCutSpec)

/-- ITS FALSE NEIGHBOUR: 'it returns false'. Refute it at one input. -/
def fnBatchCutWrong : ChangeSpec := { name := "fnBatchCut", fn := fun _ => fun
  | [d1, d2] => { results := [.lit (.bool false)], args := [d1, d2] }
  | _ => none }
def FnBatchCutWrongFalsely : Prop := fnBatchCutRow.holds Tryz.pinned (OpenSpec.ofChange fnBatchCutWrong)

/-- 'laws.FnBatchSpoilt': WHATEVER THE INPUT: true; the input reads as it did. -/
def fnBatchSpoiltSpec : ChangeSpec := { name := "fnBatchSpoilt", fn := fun _ => fun
  | [d1, d2] => { results := [.lit (.bool true)], args := [d1, d2] }
  | _ => none }
def fnBatchSpoiltRow : OpenClaim := { program := "ytmiflkccfieefaagreatdoor", sum := "4e51cd6f0b8c166c96a96313e077d92aca3c26bcfd386950bf9ce059cdf6ddbb", func := "pub-kestrel/laws.FnBatchSpoilt", spec := "fnBatchSpoilt", unfollowed := true, recurses := true, named := ["pub-kestrel/pub/sarama.ErrUnknownMessage"], apart := false, laid := [("pub-kestrel/pub/sarama.ErrUnknownMessage", laid_pub_kestrel_pub_sarama_ErrUnknownMessage)] }
def FnBatchSpoiltSaid : Prop := fnBatchSpoiltRow.holds Tryz.pinned (OpenSpec.ofChange fnBatchSpoiltSpec)

/-- ITS FALSE NEIGHBOUR: 'it returns false'. Refute it at one input. -/
def fnBatchSpoiltWrong : ChangeSpec := { name := "fnBatchSpoilt", fn := fun _ => fun
  | [d1, d2] => { results := [.lit (.bool false)], args := [d1, d2] }
  | _ => none }
def FnBatchSpoiltWrongFalsely : Prop := fnBatchSpoiltRow.holds Tryz.pinned (OpenSpec.ofChange fnBatchSpoiltWrong)

/-- 'laws.FnSetCut': WHATEVER THE INPUT: true; the input reads as it did. -/
def fnSetCutSpec : ChangeSpec := { name := "fnSetCut", fn := fun _ => fun
  | [d1, d2] => { results := [.lit (.bool true)], args := [d1, d2] }
  | _ => none }
def fnSetCutRow : OpenClaim := { program := "ytmiflkccfieefaagreatdoor", sum := "4e51cd6f0b8c166c96a96313e077d92aca3c26bcfd386950bf9ce059cdf6ddbb", func := "pub-kestrel/laws.FnSetCut", spec := "fnSetCut", unfollowed := true, recurses := true, named := ["pub-kestrel/pub/sarama.ErrUnknownMessage"], apart := false, laid := [("pub-kestrel/pub/sarama.ErrUnknownMessage", laid_pub_kestrel_pub_sarama_ErrUnknownMessage)] }
def FnSetCutSaid : Prop := fnSetCutRow.holds Tryz.pinned (OpenSpec.ofChange fnSetCutSpec)

/-- ITS FALSE NEIGHBOUR: 'it returns false'. Refute it at one input. -/
def fnSetCutWrong : ChangeSpec := { name := "fnSetCut", fn := fun _ => fun
  | [d1, d2] => { results := [.lit (.bool false)], args := [d1, d2] }
  | _ => none }
def FnSetCutWrongFalsely : Prop := fnSetCutRow.holds Tryz.pinned (OpenSpec.ofChange fnSetCutWrong)

/-- 'laws.FnControl': WHATEVER THE INPUT: true; the input reads as it did. -/
def fnControlSpec : ChangeSpec := { name := "fnControl", fn := fun _ => fun
  | [d1, d2, d3, d4] => { results := [.lit (.bool true)], args := [d1, d2, d3, d4] }
  | _ => none }
def fnControlRow : OpenClaim := { program := "ytmiflkccfieefaagreatdoor", sum := "4e51cd6f0b8c166c96a96313e077d92aca3c26bcfd386950bf9ce059cdf6ddbb", func := "pub-kestrel/laws.FnControl", spec := "fnControl", unfollowed := true, recurses := true, named := ["pub-kestrel/pub/sarama.ErrUnknownMessage"], apart := false, laid := [("pub-kestrel/pub/sarama.ErrUnknownMessage", laid_pub_kestrel_pub_sarama_ErrUnknownMessage)] }
def FnControlSaid : Prop := fnControlRow.holds Tryz.pinned (OpenSpec.ofChange fnControlSpec)

/-- ITS FALSE NEIGHBOUR: 'it returns false'. Refute it at one input. -/
def fnControlWrong : ChangeSpec := { name := "fnControl", fn := fun _ => fun
  | [d1, d2, d3, d4] => { results := [.lit (.bool false)], args := [d1, d2, d3, d4] }
  | _ => none }
def FnControlWrongFalsely : Prop := fnControlRow.holds Tryz.pinned (OpenSpec.ofChange fnControlWrong)

/-- 'laws.FnBatchForm': WHATEVER THE INPUT: true; the input reads as it did. -/
def fnBatchFormSpec : ChangeSpec := { name := "fnBatchForm", fn := fun _ => fun
  | [d1, d2] => { results := [.lit (.bool true)], args := [d1, d2] }
  | _ => none }
def fnBatchFormRow : OpenClaim := { program := "ytmiflkccfieefaagreatdoor", sum := "4e51cd6f0b8c166c96a96313e077d92aca3c26bcfd386950bf9ce059cdf6ddbb", func := "pub-kestrel/laws.FnBatchForm", spec := "fnBatchForm", unfollowed := true, recurses := true, named := ["pub-kestrel/pub/sarama.ErrUnknownMessage"], apart := false, laid := [("pub-kestrel/pub/sarama.ErrUnknownMessage", laid_pub_kestrel_pub_sarama_ErrUnknownMessage)] }
def FnBatchFormSaid : Prop := fnBatchFormRow.holds Tryz.pinned (OpenSpec.ofChange fnBatchFormSpec)

/-- ITS FALSE NEIGHBOUR: 'it returns false'. Refute it at one input. -/
def fnBatchFormWrong : ChangeSpec := { name := "fnBatchForm", fn := fun _ => fun
  | [d1, d2] => { results := [.lit (.bool false)], args := [d1, d2] }
  | _ => none }
def FnBatchFormWrongFalsely : Prop := fnBatchFormRow.holds Tryz.pinned (OpenSpec.ofChange fnBatchFormWrong)

/-- 'laws.FnSetForm': WHATEVER THE INPUT: true; the input reads as it did. -/
def fnSetFormSpec : ChangeSpec := { name := "fnSetForm", fn := fun _ => fun
  | [d] => { results := [.lit (.bool true)], args := [d] }
  | _ => none }
def fnSetFormRow : OpenClaim := { program := "ytmiflkccfieefaagreatdoor", sum := "4e51cd6f0b8c166c96a96313e077d92aca3c26bcfd386950bf9ce059cdf6ddbb", func := "pub-kestrel/laws.FnSetForm", spec := "fnSetForm", unfollowed := true, recurses := true, named := ["pub-kestrel/pub/sarama.ErrUnknownMessage"], apart := false, laid := [("pub-kestrel/pub/sarama.ErrUnknownMessage", laid_pub_kestrel_pub_sarama_ErrUnknownMessage)] }
def FnSetFormSaid : Prop := fnSetFormRow.holds Tryz.pinned (OpenSpec.ofChange fnSetFormSpec)

/-- ITS FALSE NEIGHBOUR: 'it returns false'. Refute it at one input. -/
def fnSetFormWrong : ChangeSpec := { name := "fnSetForm", fn := fun _ => fun
  | [d] => { results := [.lit (.bool false)], args := [d] }
  | _ => none }
def FnSetFormWrongFalsely : Prop := fnSetFormRow.holds Tryz.pinned (OpenSpec.ofChange fnSetFormWrong)

/-- 'laws.FnVersions': WHATEVER THE INPUT: true; the input reads as it did. -/
def fnVersionsSpec : ChangeSpec := { name := "fnVersions", fn := fun _ => fun
  | [d1, d2] => { results := [.lit (.bool true)], args := [d1, d2] }
  | _ => none }
def fnVersionsRow : OpenClaim := { program := "ytmiflkccfieefaagreatdoor", sum := "4e51cd6f0b8c166c96a96313e077d92aca3c26bcfd386950bf9ce059cdf6ddbb", func := "pub-kestrel/laws.FnVersions", spec := "fnVersions", unfollowed := true, recurses := true, named := ["pub-kestrel/pub/sarama.ErrUnknownMessage", "internal/strconv.uint64pow10", "math/bits.deBruijn32tab", "math/bits.deBruijn64tab"], apart := false, laid := [("math/bits.deBruijn32tab", laid_math_bits_deBruijn32tab), ("math/bits.deBruijn64tab", laid_math_bits_deBruijn64tab), ("internal/strconv.uint64pow10", laid_internal_strconv_uint64pow10), ("pub-kestrel/pub/sarama.ErrUnknownMessage", laid_pub_kestrel_pub_sarama_ErrUnknownMessage)] }
def FnVersionsSaid : Prop := fnVersionsRow.holds Tryz.pinned (OpenSpec.ofChange fnVersionsSpec)

/-- ITS FALSE NEIGHBOUR: 'it returns false'. Refute it at one input. -/
def fnVersionsWrong : ChangeSpec := { name := "fnVersions", fn := fun _ => fun
  | [d1, d2] => { results := [.lit (.bool false)], args := [d1, d2] }
  | _ => none }
def FnVersionsWrongFalsely : Prop := fnVersionsRow.holds Tryz.pinned (OpenSpec.ofChange fnVersionsWrong)

/- THE SECOND FORM. 'bulk': how many values and letters a reading holds, each counted each time it is reached (what is shared counts as often as it is met; a slice's spare places count too). A statement '..UptoSaid' is the law's where the arguments, and the package variables that the reading takes, are together of bulk at most 1048576: NARROWER than '..Said'. Prove '..Said' where nothing that the law and all that it calls make is longer than what came in: it says more and counts as full. Else prove '..UptoSaid'. A law counts once. -/
mutual
def uptoBulk {H : Type} : DataW H → Nat
  | .lit (.string bytes) => bytes.length + 1
  | .lit _ => 1
  | .nil => 1
  | .ptr d => uptoBulk d + 1
  | .slice elems spare => uptoBulkAll elems + uptoBulkAll spare + 1
  | .agg parts => uptoBulkAll parts + 1
  | .iface _ d => uptoBulk d + 1
  | .map entries => uptoBulkEntries entries + 1
  | .held _ => 1
def uptoBulkAll {H : Type} : List (DataW H) → Nat
  | [] => 0
  | d :: r => uptoBulk d + uptoBulkAll r
def uptoBulkEntries {H : Type} : List (Lit × DataW H) → Nat
  | [] => 0
  | x :: r => uptoBulkEntry x + uptoBulkEntries r
def uptoBulkEntry {H : Type} : Lit × DataW H → Nat
  | (.string bytes, d) => bytes.length + uptoBulk d + 1
  | (_, d) => uptoBulk d + 1
 end
def uptoSmall : (H : Type) → List (DataW H) → Bool := fun _ ds => decide (uptoBulkAll ds ≤ 1048576)
def OpenSpec.upto (s : _root_.Go.ChangeSpec) : _root_.Go.OpenSpec := { _root_.Go.OpenSpec.ofChange s with cond := some uptoSmall }

/-- 'laws.FnRecordForm', WHERE WHAT IT READS IS OF BULK AT MOST 1048576: true; the input reads as it did. -/
def fnRecordFormUptoRow : OpenClaim := { program := "ytmiflkccfieefaagreatdoor", sum := "4e51cd6f0b8c166c96a96313e077d92aca3c26bcfd386950bf9ce059cdf6ddbb", func := "pub-kestrel/laws.FnRecordForm", spec := "fnRecordForm", unfollowed := true, recurses := true, named := ["pub-kestrel/pub/sarama.ErrUnknownMessage"], apart := false, laid := [("pub-kestrel/pub/sarama.ErrUnknownMessage", laid_pub_kestrel_pub_sarama_ErrUnknownMessage)], narrowed := true }
def FnRecordFormUptoSaid : Prop := fnRecordFormUptoRow.holds Tryz.pinned (OpenSpec.upto fnRecordFormSpec)

/-- 'laws.FnBatchLast', WHERE WHAT IT READS IS OF BULK AT MOST 1048576: true; the input reads as it did. -/
def fnBatchLastUptoRow : OpenClaim := { program := "ytmiflkccfieefaagreatdoor", sum := "4e51cd6f0b8c166c96a96313e077d92aca3c26bcfd386950bf9ce059cdf6ddbb", func := "pub-kestrel/laws.FnBatchLast", spec := "fnBatchLast", unfollowed := true, recurses := true, named := ["pub-kestrel/pub/sarama.ErrUnknownMessage"], apart := false, laid := [("pub-kestrel/pub/sarama.ErrUnknownMessage", laid_pub_kestrel_pub_sarama_ErrUnknownMessage)], narrowed := true }
def FnBatchLastUptoSaid : Prop := fnBatchLastUptoRow.holds Tryz.pinned (OpenSpec.upto fnBatchLastSpec)

/-- 'laws.FnMessageForm', WHERE WHAT IT READS IS OF BULK AT MOST 1048576: true; the input reads as it did. -/
def fnMessageFormUptoRow : OpenClaim := { program := "ytmiflkccfieefaagreatdoor", sum := "4e51cd6f0b8c166c96a96313e077d92aca3c26bcfd386950bf9ce059cdf6ddbb", func := "pub-kestrel/laws.FnMessageForm", spec := "fnMessageForm", unfollowed := true, recurses := true, named := ["pub-kestrel/pub/sarama.ErrUnknownMessage"], apart := false, laid := [("pub-kestrel/pub/sarama.ErrUnknownMessage", laid_pub_kestrel_pub_sarama_ErrUnknownMessage)], narrowed := true }
def FnMessageFormUptoSaid : Prop := fnMessageFormUptoRow.holds Tryz.pinned (OpenSpec.upto fnMessageFormSpec)

/-- 'laws.FnBatchCut', WHERE WHAT IT READS IS OF BULK AT MOST 1048576: true; the input reads as it did. -/
def fnBatchCutUptoRow : OpenClaim := { program := "ytmiflkccfieefaagreatdoor", sum := "4e51cd6f0b8c166c96a96313e077d92aca3c26bcfd386950bf9ce059cdf6ddbb", func := "pub-kestrel/laws.FnBatchCut", spec := "fnBatchCut", unfollowed := true, recurses := true, named := ["pub-kestrel/pub/sarama.ErrUnknownMessage"], apart := false, laid := [("pub-kestrel/pub/sarama.ErrUnknownMessage", laid_pub_kestrel_pub_sarama_ErrUnknownMessage)], narrowed := true }
def FnBatchCutUptoSaid : Prop := fnBatchCutUptoRow.holds Tryz.pinned (OpenSpec.upto fnBatchCutSpec)

/-- 'laws.FnBatchSpoilt', WHERE WHAT IT READS IS OF BULK AT MOST 1048576: true; the input reads as it did. -/
def fnBatchSpoiltUptoRow : OpenClaim := { program := "ytmiflkccfieefaagreatdoor", sum := "4e51cd6f0b8c166c96a96313e077d92aca3c26bcfd386950bf9ce059cdf6ddbb", func := "pub-kestrel/laws.FnBatchSpoilt", spec := "fnBatchSpoilt", unfollowed := true, recurses := true, named := ["pub-kestrel/pub/sarama.ErrUnknownMessage"], apart := false, laid := [("pub-kestrel/pub/sarama.ErrUnknownMessage", laid_pub_kestrel_pub_sarama_ErrUnknownMessage)], narrowed := true }
def FnBatchSpoiltUptoSaid : Prop := fnBatchSpoiltUptoRow.holds Tryz.pinned (OpenSpec.upto fnBatchSpoiltSpec)

/-- 'laws.FnSetCut', WHERE WHAT IT READS IS OF BULK AT MOST 1048576: true; the input reads as it did. -/
def fnSetCutUptoRow : OpenClaim := { program := "ytmiflkccfieefaagreatdoor", sum := "4e51cd6f0b8c166c96a96313e077d92aca3c26bcfd386950bf9ce059cdf6ddbb", func := "pub-kestrel/laws.FnSetCut", spec := "fnSetCut", unfollowed := true, recurses := true, named := ["pub-kestrel/pub/sarama.ErrUnknownMessage"], apart := false, laid := [("pub-kestrel/pub/sarama.ErrUnknownMessage", laid_pub_kestrel_pub_sarama_ErrUnknownMessage)], narrowed := true }
def FnSetCutUptoSaid : Prop := fnSetCutUptoRow.holds Tryz.pinned (OpenSpec.upto fnSetCutSpec)

/-- 'laws.FnControl', WHERE WHAT IT READS IS OF BULK AT MOST 1048576: true; the input reads as it did. -/
def fnControlUptoRow : OpenClaim := { program := "ytmiflkccfieefaagreatdoor", sum := "4e51cd6f0b8c166c96a96313e077d92aca3c26bcfd386950bf9ce059cdf6ddbb", func := "pub-kestrel/laws.FnControl", spec := "fnControl", unfollowed := true, recurses := true, named := ["pub-kestrel/pub/sarama.ErrUnknownMessage"], apart := false, laid := [("pub-kestrel/pub/sarama.ErrUnknownMessage", laid_pub_kestrel_pub_sarama_ErrUnknownMessage)], narrowed := true }
def FnControlUptoSaid : Prop := fnControlUptoRow.holds Tryz.pinned (OpenSpec.upto fnControlSpec)

/-- 'laws.FnBatchForm', WHERE WHAT IT READS IS OF BULK AT MOST 1048576: true; the input reads as it did. -/
def fnBatchFormUptoRow : OpenClaim := { program := "ytmiflkccfieefaagreatdoor", sum := "4e51cd6f0b8c166c96a96313e077d92aca3c26bcfd386950bf9ce059cdf6ddbb", func := "pub-kestrel/laws.FnBatchForm", spec := "fnBatchForm", unfollowed := true, recurses := true, named := ["pub-kestrel/pub/sarama.ErrUnknownMessage"], apart := false, laid := [("pub-kestrel/pub/sarama.ErrUnknownMessage", laid_pub_kestrel_pub_sarama_ErrUnknownMessage)], narrowed := true }
def FnBatchFormUptoSaid : Prop := fnBatchFormUptoRow.holds Tryz.pinned (OpenSpec.upto fnBatchFormSpec)

/-- 'laws.FnSetForm', WHERE WHAT IT READS IS OF BULK AT MOST 1048576: true; the input reads as it did. -/
def fnSetFormUptoRow : OpenClaim := { program := "ytmiflkccfieefaagreatdoor", sum := "4e51cd6f0b8c166c96a96313e077d92aca3c26bcfd386950bf9ce059cdf6ddbb", func := "pub-kestrel/laws.FnSetForm", spec := "fnSetForm", unfollowed := true, recurses := true, named := ["pub-kestrel/pub/sarama.ErrUnknownMessage"], apart := false, laid := [("pub-kestrel/pub/sarama.ErrUnknownMessage", laid_pub_kestrel_pub_sarama_ErrUnknownMessage)], narrowed := true }
def FnSetFormUptoSaid : Prop := fnSetFormUptoRow.holds Tryz.pinned (OpenSpec.upto fnSetFormSpec)

/-- 'laws.FnVersions', WHERE WHAT IT READS IS OF BULK AT MOST 1048576: true; the input reads as it did. -/
def fnVersionsUptoRow : OpenClaim := { program := "ytmiflkccfieefaagreatdoor", sum := "4e51cd6f0b8c166c96a96313e077d92aca3c26bcfd386950bf9ce059cdf6ddbb", func := "pub-kestrel/laws.FnVersions", spec := "fnVersions", unfollowed := true, recurses := true, named := ["pub-kestrel/pub/sarama.ErrUnknownMessage", "internal/strconv.uint64pow10", "math/bits.deBruijn32tab", "math/bits.deBruijn64tab"], apart := false, laid := [("math/bits.deBruijn32tab", laid_math_bits_deBruijn32tab), ("math/bits.deBruijn64tab", laid_math_bits_deBruijn64tab), ("internal/strconv.uint64pow10", laid_internal_strconv_uint64pow10), ("pub-kestrel/pub/sarama.ErrUnknownMessage", laid_pub_kestrel_pub_sarama_ErrUnknownMessage)], narrowed := true }
def FnVersionsUptoSaid : Prop := fnVersionsUptoRow.holds Tryz.pinned (OpenSpec.upto fnVersionsSpec)

end Rows
end Go.Proofs.YtmiflkccfieefaaGreatDoor
