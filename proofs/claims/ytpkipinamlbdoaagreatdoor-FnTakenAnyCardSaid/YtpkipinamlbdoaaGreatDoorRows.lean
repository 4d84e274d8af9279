/-
  NARROWER THAN 'FOR EVERY INPUT', by the rows' own cells (each row's printed sentence says how): FnTakenAny: ifaces, laid.
  DERIVED. THE GIVEN ROWS OF THIS SEAT. 1 by the template 'for every input the law returns true; each argument reads behind the call as it read before'; 0 by the template 'total and deterministic' (their statements: YtpkipinamlbdoaaGreatDoorTotals.lean).
  GIVEN WITH THE SEED: the statements are not yours to turn. If you find one false, say at which input.
  Laid BY PROGRAM, IN A SANDBOX (cutbox-rows.mjs): the forced cells as the released guide's own fill.sh prints them over the translation ac31179bd6b91bb6… (all of the seat's roots in one cut). By AI agents, Wed Nov 11 2026. No macro, syntax, notation, axiom, sorry.
-/
import Derived.Test.YtpkipinamlbdoaaGreatDoorChecked
import GoSem.Claim
import GoSem.ClaimJoined
import GoSem.ClaimMapViews
import Derived.JoinedTies
import Derived.KernelRfl
namespace Go.Proofs.YtpkipinamlbdoaaGreatDoor
/- THE CELL 'sum', in the pinned program and in every row, IS THE sha256 OF THE DUMP (.gsa) THAT YtpkipinamlbdoaaGreatDoorProg.lean LOADS. Nothing in Lean hashes anything: it is a label: what it is worth is what the hold of that sum in a sandbox is worth. -/
noncomputable def Tryz.pinned : Pinned := { name := "ytpkipinamlbdoaagreatdoor", sum := "ac31179bd6b91bb632c5a756999ba95a9f5c1c5ac18773aefd26326516b041ea", checked := Tryz.checked }
namespace Rows
def none {H : Type} : Left H := { results := [], args := [] }

/- WHAT THE LISTED PACKAGE-LEVEL VARIABLES READ AS WHEN THE CALL BEGINS. Each datum BY PROGRAM (the guide's laid-datum.mjs) off the statement by which the dump's own 'gosem.cut.vars' lays the variable. In a bare row this is a premise. The card (YtpkipinamlbdoaaGreatDoorCards.lean) ties it to the program's text. -/
def laid_loop_example_pub_g03083_pub_stun_ErrAttributeNotFound {H : Type} : DataW H := .iface "*errors.errorString" (.ptr (.agg [.lit (.string [97, 116, 116, 114, 105, 98, 117, 116, 101, 32, 110, 111, 116, 32, 102, 111, 117, 110, 100])]))
def laid_loop_example_pub_g03083_pub_stun_ErrAttributeSizeInvalid {H : Type} : DataW H := .iface "*errors.errorString" (.ptr (.agg [.lit (.string [97, 116, 116, 114, 105, 98, 117, 116, 101, 32, 115, 105, 122, 101, 32, 105, 115, 32, 105, 110, 118, 97, 108, 105, 100])]))
def laid_loop_example_pub_g03083_pub_stun_ErrFingerprintMismatch {H : Type} : DataW H := .iface "*errors.errorString" (.ptr (.agg [.lit (.string [102, 105, 110, 103, 101, 114, 112, 114, 105, 110, 116, 32, 99, 104, 101, 99, 107, 32, 102, 97, 105, 108, 101, 100])]))
def laid_loop_example_pub_g03083_pub_stun_ErrIntegrityMismatch {H : Type} : DataW H := .iface "*errors.errorString" (.ptr (.agg [.lit (.string [105, 110, 116, 101, 103, 114, 105, 116, 121, 32, 99, 104, 101, 99, 107, 32, 102, 97, 105, 108, 101, 100])]))
def laid_loop_example_pub_g03083_pub_stun_ErrDecodeToNil {H : Type} : DataW H := .iface "*errors.errorString" (.ptr (.agg [.lit (.string [97, 116, 116, 101, 109, 112, 116, 32, 116, 111, 32, 100, 101, 99, 111, 100, 101, 32, 116, 111, 32, 110, 105, 108, 32, 109, 101, 115, 115, 97, 103, 101])]))
def laid_loop_example_pub_g03083_pub_stun_ErrUnexpectedHeaderEOF {H : Type} : DataW H := .iface "*errors.errorString" (.ptr (.agg [.lit (.string [117, 110, 101, 120, 112, 101, 99, 116, 101, 100, 32, 69, 79, 70, 58, 32, 110, 111, 116, 32, 101, 110, 111, 117, 103, 104, 32, 98, 121, 116, 101, 115, 32, 116, 111, 32, 114, 101, 97, 100, 32, 104, 101, 97, 100, 101, 114])]))

/-- 'laws.FnTakenAny': WHATEVER THE INPUT: true; the input reads as it did. -/
def fnTakenAnySpec : ChangeSpec := { name := "fnTakenAny", vars := ["loop.example/pub-g03083/pub/stun.ErrDecodeToNil", "loop.example/pub-g03083/pub/stun.ErrUnexpectedHeaderEOF", "loop.example/pub-g03083/pub/stun.bin", "loop.example/pub-g03083/pub/stun.ErrAttributeNotFound", "loop.example/pub-g03083/pub/stun.ErrIntegrityMismatch", "loop.example/pub-g03083/pub/stun.ErrFingerprintMismatch", "loop.example/pub-g03083/pub/stun.ErrAttributeSizeInvalid"], fn := fun _ => fun
  | [d1, d2, g1, g2, g3, g4, g5, g6, g7] => { results := [.lit (.bool true)], args := [d1, d2], vars := [g1, g2, g3, g4, g5, g6, g7] }
  | _ => none }
def fnTakenAnyRow : OpenClaim := { program := "ytpkipinamlbdoaagreatdoor", sum := "ac31179bd6b91bb632c5a756999ba95a9f5c1c5ac18773aefd26326516b041ea", func := "loop.example/pub-g03083/laws.FnTakenAny", spec := "fnTakenAny", inPlace := ["crypto/internal/constanttime.boolToUint8", "internal/reflectlite.TypeOf"], unfollowed := true, recurses := true, named := ["loop.example/pub-g03083/pub/stun.ErrDecodeToNil", "loop.example/pub-g03083/pub/stun.ErrUnexpectedHeaderEOF", "loop.example/pub-g03083/pub/stun.bin", "loop.example/pub-g03083/pub/stun.ErrAttributeNotFound", "loop.example/pub-g03083/pub/stun.ErrIntegrityMismatch", "loop.example/pub-g03083/pub/stun.ErrFingerprintMismatch", "loop.example/pub-g03083/pub/stun.ErrAttributeSizeInvalid"], ifaces := true, apart := false, laid := [("loop.example/pub-g03083/pub/stun.ErrAttributeNotFound", laid_loop_example_pub_g03083_pub_stun_ErrAttributeNotFound), ("loop.example/pub-g03083/pub/stun.ErrAttributeSizeInvalid", laid_loop_example_pub_g03083_pub_stun_ErrAttributeSizeInvalid), ("loop.example/pub-g03083/pub/stun.ErrFingerprintMismatch", laid_loop_example_pub_g03083_pub_stun_ErrFingerprintMismatch), ("loop.example/pub-g03083/pub/stun.ErrIntegrityMismatch", laid_loop_example_pub_g03083_pub_stun_ErrIntegrityMismatch), ("loop.example/pub-g03083/pub/stun.ErrDecodeToNil", laid_loop_example_pub_g03083_pub_stun_ErrDecodeToNil), ("loop.example/pub-g03083/pub/stun.ErrUnexpectedHeaderEOF", laid_loop_example_pub_g03083_pub_stun_ErrUnexpectedHeaderEOF)] }
def FnTakenAnySaid : Prop := fnTakenAnyRow.holds Tryz.pinned (OpenSpec.ofChange fnTakenAnySpec)

/-- ITS FALSE NEIGHBOUR: 'it returns false'. Refute it at one input. -/
def fnTakenAnyWrong : ChangeSpec := { name := "fnTakenAny", vars := ["loop.example/pub-g03083/pub/stun.ErrDecodeToNil", "loop.example/pub-g03083/pub/stun.ErrUnexpectedHeaderEOF", "loop.example/pub-g03083/pub/stun.bin", "loop.example/pub-g03083/pub/stun.ErrAttributeNotFound", "loop.example/pub-g03083/pub/stun.ErrIntegrityMismatch", "loop.example/pub-g03083/pub/stun.ErrFingerprintMismatch", "loop.example/pub-g03083/pub/stun.ErrAttributeSizeInvalid"], fn := fun _ => fun
  | [d1, d2, g1, g2, g3, g4, g5, g6, g7] => { results := [.lit (.bool false)], args := [d1, d2], vars := [g1, g2, g3, g4, g5, g6, g7] }
  | _ => none }
def FnTakenAnyWrongFalsely : Prop := fnTakenAnyRow.holds Tryz.pinned (OpenSpec.ofChange fnTakenAnyWrong)

/- THE SECOND FORM. 'bulk': how many values and letters a reading holds, each counted each time it is reached (what is shared counts as often as it is met; a slice's spare places count too). A statement '..UptoSaid' is the law's where the arguments, and the package variables that the reading takes, are together of bulk at most 1048576: NARROWER than '..Said'. Prove '..Said' where nothing that the law and all that it calls make is longer than what came in: it says more and counts as full. Else prove '..UptoSaid'. A law counts once. -/
mutual
def uptoBulk {H : Type} : DataW H → Nat
  | .lit (.string bytes) => bytes.length + 1
  | .lit _ => 1
  | .nil => 1
  | .ptr d => uptoBulk d + 1
  | .slice elems spare => uptoBulkAll elems + uptoBulkAll spare + 1
  | .agg parts => uptoBulkAll parts + 1
  | .iface _ d => uptoBulk d + 1
  | .map entries => uptoBulkEntries entries + 1
  | .held _ => 1
def uptoBulkAll {H : Type} : List (DataW H) → Nat
  | [] => 0
  | d :: r => uptoBulk d + uptoBulkAll r
def uptoBulkEntries {H : Type} : List (Lit × DataW H) → Nat
  | [] => 0
  | x :: r => uptoBulkEntry x + uptoBulkEntries r
def uptoBulkEntry {H : Type} : Lit × DataW H → Nat
  | (.string bytes, d) => bytes.length + uptoBulk d + 1
  | (_, d) => uptoBulk d + 1
 end
def uptoSmall : (H : Type) → List (DataW H) → Bool := fun _ ds => decide (uptoBulkAll ds ≤ 1048576)
def OpenSpec.upto (s : _root_.Go.ChangeSpec) : _root_.Go.OpenSpec := { _root_.Go.OpenSpec.ofChange s with cond := some uptoSmall }

/-- 'laws.FnTakenAny', WHERE WHAT IT READS IS OF BULK AT MOST 1048576: true; the input reads as it did. -/
def fnTakenAnyUptoRow : OpenClaim := { program := "ytpkipinamlbdoaagreatdoor", sum := "ac31179bd6b91bb632c5a756999ba95a9f5c1c5ac18773aefd26326516b041ea", func := "loop.example/pub-g03083/laws.FnTakenAny", spec := "fnTakenAny", inPlace := ["crypto/internal/constanttime.boolToUint8", "internal/reflectlite.TypeOf"], unfollowed := true, recurses := true, named := ["loop.example/pub-g03083/pub/stun.ErrDecodeToNil", "loop.example/pub-g03083/pub/stun.ErrUnexpectedHeaderEOF", "loop.example/pub-g03083/pub/stun.bin", "loop.example/pub-g03083/pub/stun.ErrAttributeNotFound", "loop.example/pub-g03083/pub/stun.ErrIntegrityMismatch", "loop.example/pub-g03083/pub/stun.ErrFingerprintMismatch", "loop.example/pub-g03083/pub/stun.ErrAttributeSizeInvalid"], ifaces := true, apart := false, laid := [("loop.example/pub-g03083/pub/stun.ErrAttributeNotFound", laid_loop_example_pub_g03083_pub_stun_ErrAttributeNotFound), ("loop.example/pub-g03083/pub/stun.ErrAttributeSizeInvalid", laid_loop_example_pub_g03083_pub_stun_ErrAttributeSizeInvalid), ("loop.example/pub-g03083/pub/stun.ErrFingerprintMismatch", laid_loop_example_pub_g03083_pub_stun_ErrFingerprintMismatch), ("loop.example/pub-g03083/pub/stun.ErrIntegrityMismatch", laid_loop_example_pub_g03083_pub_stun_ErrIntegrityMismatch), ("loop.example/pub-g03083/pub/stun.ErrDecodeToNil", laid_loop_example_pub_g03083_pub_stun_ErrDecodeToNil), ("loop.example/pub-g03083/pub/stun.ErrUnexpectedHeaderEOF", laid_loop_example_pub_g03083_pub_stun_ErrUnexpectedHeaderEOF)], narrowed := true }
def FnTakenAnyUptoSaid : Prop := fnTakenAnyUptoRow.holds Tryz.pinned (OpenSpec.upto fnTakenAnySpec)

end Rows
end Go.Proofs.YtpkipinamlbdoaaGreatDoor
