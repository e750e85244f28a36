/-
  NARROWER THAN 'FOR EVERY INPUT', by the rows' own cells (each row's printed sentence says how): FnRefNormalSelf: laid.
  DERIVED. THE GIVEN ROWS OF THIS SEAT. 1 by the template 'for every input the law returns true; each argument reads behind the call as it read before'; 0 by the template 'total and deterministic' (their statements: YtkbmigfkclnlaaaGreatDoorTotals.lean).
  GIVEN WITH THE SEED: the statements are not yours to turn. If you find one false, say at which input.
  Laid BY PROGRAM, IN A SANDBOX (cutbox-rows.mjs): the forced cells as the released guide's own fill.sh prints them over the translation 84c8aae44b029580… (all of the seat's roots in one cut). By AI agents, Wed Nov 11 2026. No macro, syntax, notation, axiom, sorry.
-/
import Derived.Test.YtkbmigfkclnlaaaGreatDoorChecked
import GoSem.Claim
import GoSem.ClaimJoined
import GoSem.ClaimMapViews
import Derived.JoinedTies
import Derived.KernelRfl
namespace Go.Proofs.YtkbmigfkclnlaaaGreatDoor
/- THE CELL 'sum', in the pinned program and in every row, IS THE sha256 OF THE DUMP (.gsa) THAT YtkbmigfkclnlaaaGreatDoorProg.lean LOADS. Nothing in Lean hashes anything: it is a label: what it is worth is what the hold of that sum in a sandbox is worth. -/
noncomputable def Tryz.pinned : Pinned := { name := "ytkbmigfkclnlaaagreatdoor", sum := "84c8aae44b029580a57facd5a80545ec74ccdd58e5e0cfb2ca1ba3ba3530d564", checked := Tryz.checked }
namespace Rows
def none {H : Type} : Left H := { results := [], args := [] }

/- WHAT THE LISTED PACKAGE-LEVEL VARIABLES READ AS WHEN THE CALL BEGINS. Each datum BY PROGRAM (the guide's laid-datum.mjs) off the statement by which the dump's own 'gosem.cut.vars' lays the variable. In a bare row this is a premise. The card (YtkbmigfkclnlaaaGreatDoorCards.lean) ties it to the program's text. -/
def laid_pub_timebook_pub_regexp_matchSize {H : Type} : DataW H := .agg [.lit (.int .i64 128), .lit (.int .i64 512), .lit (.int .i64 2048), .lit (.int .i64 16384), .lit (.int .i64 0)]
def laid_pub_timebook_pub_godigest_ErrDigestInvalidFormat {H : Type} : DataW H := .iface "*errors.errorString" (.ptr (.agg [.lit (.string [105, 110, 118, 97, 108, 105, 100, 32, 99, 104, 101, 99, 107, 115, 117, 109, 32, 100, 105, 103, 101, 115, 116, 32, 102, 111, 114, 109, 97, 116])]))
def laid_pub_timebook_pub_godigest_ErrDigestInvalidLength {H : Type} : DataW H := .iface "*errors.errorString" (.ptr (.agg [.lit (.string [105, 110, 118, 97, 108, 105, 100, 32, 99, 104, 101, 99, 107, 115, 117, 109, 32, 100, 105, 103, 101, 115, 116, 32, 108, 101, 110, 103, 116, 104])]))
def laid_pub_timebook_pub_godigest_ErrDigestUnsupported {H : Type} : DataW H := .iface "*errors.errorString" (.ptr (.agg [.lit (.string [117, 110, 115, 117, 112, 112, 111, 114, 116, 101, 100, 32, 100, 105, 103, 101, 115, 116, 32, 97, 108, 103, 111, 114, 105, 116, 104, 109])]))
def laid_pub_timebook_pub_reference_ErrReferenceInvalidFormat {H : Type} : DataW H := .iface "*errors.errorString" (.ptr (.agg [.lit (.string [105, 110, 118, 97, 108, 105, 100, 32, 114, 101, 102, 101, 114, 101, 110, 99, 101, 32, 102, 111, 114, 109, 97, 116])]))
def laid_pub_timebook_pub_reference_ErrTagInvalidFormat {H : Type} : DataW H := .iface "*errors.errorString" (.ptr (.agg [.lit (.string [105, 110, 118, 97, 108, 105, 100, 32, 116, 97, 103, 32, 102, 111, 114, 109, 97, 116])]))
def laid_pub_timebook_pub_reference_ErrDigestInvalidFormat {H : Type} : DataW H := .iface "*errors.errorString" (.ptr (.agg [.lit (.string [105, 110, 118, 97, 108, 105, 100, 32, 100, 105, 103, 101, 115, 116, 32, 102, 111, 114, 109, 97, 116])]))
def laid_pub_timebook_pub_reference_ErrNameContainsUppercase {H : Type} : DataW H := .iface "*errors.errorString" (.ptr (.agg [.lit (.string [114, 101, 112, 111, 115, 105, 116, 111, 114, 121, 32, 110, 97, 109, 101, 32, 109, 117, 115, 116, 32, 98, 101, 32, 108, 111, 119, 101, 114, 99, 97, 115, 101])]))
def laid_pub_timebook_pub_reference_ErrNameEmpty {H : Type} : DataW H := .iface "*errors.errorString" (.ptr (.agg [.lit (.string [114, 101, 112, 111, 115, 105, 116, 111, 114, 121, 32, 110, 97, 109, 101, 32, 109, 117, 115, 116, 32, 104, 97, 118, 101, 32, 97, 116, 32, 108, 101, 97, 115, 116, 32, 111, 110, 101, 32, 99, 111, 109, 112, 111, 110, 101, 110, 116])]))
def laid_pub_timebook_pub_reference_ErrNameTooLong {H : Type} : DataW H := .iface "*errors.errorString" (.ptr (.agg [.lit (.string [114, 101, 112, 111, 115, 105, 116, 111, 114, 121, 32, 110, 97, 109, 101, 32, 109, 117, 115, 116, 32, 110, 111, 116, 32, 98, 101, 32, 109, 111, 114, 101, 32, 116, 104, 97, 110, 32, 50, 53, 53, 32, 99, 104, 97, 114, 97, 99, 116, 101, 114, 115])]))
def laid_pub_timebook_pub_reference_ErrNameNotCanonical {H : Type} : DataW H := .iface "*errors.errorString" (.ptr (.agg [.lit (.string [114, 101, 112, 111, 115, 105, 116, 111, 114, 121, 32, 110, 97, 109, 101, 32, 109, 117, 115, 116, 32, 98, 101, 32, 99, 97, 110, 111, 110, 105, 99, 97, 108])]))

/-- 'laws.FnRefNormalSelf': WHATEVER THE INPUT: true; the input reads as it did. -/
def fnRefNormalSelfSpec : ChangeSpec := { name := "fnRefNormalSelf", fn := fun _ => fun
  | [d] => { results := [.lit (.bool true)], args := [d] }
  | _ => none }
def fnRefNormalSelfRow : OpenClaim := { program := "ytkbmigfkclnlaaagreatdoor", sum := "84c8aae44b029580a57facd5a80545ec74ccdd58e5e0cfb2ca1ba3ba3530d564", func := "pub-timebook/laws.FnRefNormalSelf", spec := "fnRefNormalSelf", inPlace := ["internal/reflectlite.TypeOf"], unfollowed := true, recurses := true, named := ["pub-timebook/pub/reference.ErrNameEmpty", "pub-timebook/pub/reference.ErrNameContainsUppercase", "pub-timebook/pub/reference.ErrReferenceInvalidFormat", "pub-timebook/pub/reference.ErrNameTooLong", "pub-timebook/pub/regexp.matchSize", "pub-timebook/pub/godigest.ErrDigestInvalidFormat", "pub-timebook/pub/godigest.ErrDigestUnsupported", "pub-timebook/pub/godigest.ErrDigestInvalidLength", "pub-timebook/pub/reference.ErrTagInvalidFormat", "pub-timebook/pub/reference.ErrDigestInvalidFormat", "pub-timebook/pub/reference.ErrNameNotCanonical"], apart := false, laid := [("pub-timebook/pub/regexp.matchSize", laid_pub_timebook_pub_regexp_matchSize), ("pub-timebook/pub/godigest.ErrDigestInvalidFormat", laid_pub_timebook_pub_godigest_ErrDigestInvalidFormat), ("pub-timebook/pub/godigest.ErrDigestInvalidLength", laid_pub_timebook_pub_godigest_ErrDigestInvalidLength), ("pub-timebook/pub/godigest.ErrDigestUnsupported", laid_pub_timebook_pub_godigest_ErrDigestUnsupported), ("pub-timebook/pub/reference.ErrReferenceInvalidFormat", laid_pub_timebook_pub_reference_ErrReferenceInvalidFormat), ("pub-timebook/pub/reference.ErrTagInvalidFormat", laid_pub_timebook_pub_reference_ErrTagInvalidFormat), ("pub-timebook/pub/reference.ErrDigestInvalidFormat", laid_pub_timebook_pub_reference_ErrDigestInvalidFormat), ("pub-timebook/pub/reference.ErrNameContainsUppercase", laid_pub_timebook_pub_reference_ErrNameContainsUppercase), ("pub-timebook/pub/reference.ErrNameEmpty", laid_pub_timebook_pub_reference_ErrNameEmpty), ("pub-timebook/pub/reference.ErrNameTooLong", laid_pub_timebook_pub_reference_ErrNameTooLong), ("pub-timebook/pub/reference.ErrNameNotCanonical", laid_pub_timebook_pub_reference_ErrNameNotCanonical)] }
def FnRefNormalSelfSaid : Prop := fnRefNormalSelfRow.holds Tryz.pinned (OpenSpec.ofChange fnRefNormalSelfSpec)

/-- ITS FALSE NEIGHBOUR: 'it returns false'. Refute it at one input. -/
def fnRefNormalSelfWrong : ChangeSpec := { name := "fnRefNormalSelf", fn := fun _ => fun
  | [d] => { results := [.lit (.bool false)], args := [d] }
  | _ => none }
def FnRefNormalSelfWrongFalsely : Prop := fnRefNormalSelfRow.holds Tryz.pinned (OpenSpec.ofChange fnRefNormalSelfWrong)

/- THE SECOND FORM. 'bulk': how many values and letters a reading holds, each counted each time it is reached (what is shared counts as often as it is met; a slice's spare places count too). A statement '..UptoSaid' is the law's where the arguments, and the package variables that the reading takes, are together of bulk at most 1048576: NARROWER than '..Said'. Prove '..Said' where nothing that the law and all that it calls make is longer than what came in: it says more and counts as full. Else prove '..UptoSaid'. A law counts once. -/
mutual
def uptoBulk {H : Type} : DataW H → Nat
  | .lit (.string bytes) => bytes.length + 1
  | .lit _ => 1
  | .nil => 1
  | .ptr d => uptoBulk d + 1
  | .slice elems spare => uptoBulkAll elems + uptoBulkAll spare + 1
  | .agg parts => uptoBulkAll parts + 1
  | .iface _ d => uptoBulk d + 1
  | .map entries => uptoBulkEntries entries + 1
  | .held _ => 1
def uptoBulkAll {H : Type} : List (DataW H) → Nat
  | [] => 0
  | d :: r => uptoBulk d + uptoBulkAll r
def uptoBulkEntries {H : Type} : List (Lit × DataW H) → Nat
  | [] => 0
  | x :: r => uptoBulkEntry x + uptoBulkEntries r
def uptoBulkEntry {H : Type} : Lit × DataW H → Nat
  | (.string bytes, d) => bytes.length + uptoBulk d + 1
  | (_, d) => uptoBulk d + 1
 end
def uptoSmall : (H : Type) → List (DataW H) → Bool := fun _ ds => decide (uptoBulkAll ds ≤ 1048576)
def OpenSpec.upto (s : _root_.Go.ChangeSpec) : _root_.Go.OpenSpec := { _root_.Go.OpenSpec.ofChange s with cond := some uptoSmall }

/-- 'laws.FnRefNormalSelf', WHERE WHAT IT READS IS OF BULK AT MOST 1048576: true; the input reads as it did. -/
def fnRefNormalSelfUptoRow : OpenClaim := { program := "ytkbmigfkclnlaaagreatdoor", sum := "84c8aae44b029580a57facd5a80545ec74ccdd58e5e0cfb2ca1ba3ba3530d564", func := "pub-timebook/laws.FnRefNormalSelf", spec := "fnRefNormalSelf", inPlace := ["internal/reflectlite.TypeOf"], unfollowed := true, recurses := true, named := ["pub-timebook/pub/reference.ErrNameEmpty", "pub-timebook/pub/reference.ErrNameContainsUppercase", "pub-timebook/pub/reference.ErrReferenceInvalidFormat", "pub-timebook/pub/reference.ErrNameTooLong", "pub-timebook/pub/regexp.matchSize", "pub-timebook/pub/godigest.ErrDigestInvalidFormat", "pub-timebook/pub/godigest.ErrDigestUnsupported", "pub-timebook/pub/godigest.ErrDigestInvalidLength", "pub-timebook/pub/reference.ErrTagInvalidFormat", "pub-timebook/pub/reference.ErrDigestInvalidFormat", "pub-timebook/pub/reference.ErrNameNotCanonical"], apart := false, laid := [("pub-timebook/pub/regexp.matchSize", laid_pub_timebook_pub_regexp_matchSize), ("pub-timebook/pub/godigest.ErrDigestInvalidFormat", laid_pub_timebook_pub_godigest_ErrDigestInvalidFormat), ("pub-timebook/pub/godigest.ErrDigestInvalidLength", laid_pub_timebook_pub_godigest_ErrDigestInvalidLength), ("pub-timebook/pub/godigest.ErrDigestUnsupported", laid_pub_timebook_pub_godigest_ErrDigestUnsupported), ("pub-timebook/pub/reference.ErrReferenceInvalidFormat", laid_pub_timebook_pub_reference_ErrReferenceInvalidFormat), ("pub-timebook/pub/reference.ErrTagInvalidFormat", laid_pub_timebook_pub_reference_ErrTagInvalidFormat), ("pub-timebook/pub/reference.ErrDigestInvalidFormat", laid_pub_timebook_pub_reference_ErrDigestInvalidFormat), ("pub-timebook/pub/reference.ErrNameContainsUppercase", laid_pub_timebook_pub_reference_ErrNameContainsUppercase), ("pub-timebook/pub/reference.ErrNameEmpty", laid_pub_timebook_pub_reference_ErrNameEmpty), ("pub-timebook/pub/reference.ErrNameTooLong", laid_pub_timebook_pub_reference_ErrNameTooLong), ("pub-timebook/pub/reference.ErrNameNotCanonical", laid_pub_timebook_pub_reference_ErrNameNotCanonical)], narrowed := true }
def FnRefNormalSelfUptoSaid : Prop := fnRefNormalSelfUptoRow.holds Tryz.pinned (OpenSpec.upto fnRefNormalSelfSpec)

end Rows
end Go.Proofs.YtkbmigfkclnlaaaGreatDoor
