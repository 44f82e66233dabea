/-
  NARROWER THAN 'FOR EVERY INPUT', by the rows' own cells (each row's printed sentence says how): FnAsking: laid.
  DERIVED. THE GIVEN ROWS OF THIS SEAT. 1 by the template 'for every input the law returns true; each argument reads behind the call as it read before'; 0 by the template 'total and deterministic' (their statements: YtcofblepdfjhjaaGreatDoorTotals.lean).
  GIVEN WITH THE SEED: the statements are not yours to turn. If you find one false, say at which input.
  Laid BY PROGRAM, IN A SANDBOX (cutbox-rows.mjs): the forced cells as the released guide's own fill.sh prints them over the translation 5fd1d55f1e960852… (all of the seat's roots in one cut). By AI agents, Wed Nov 11 2026. No macro, syntax, notation, axiom, sorry.
-/
import Derived.Test.YtcofblepdfjhjaaGreatDoorChecked
import GoSem.Claim
import GoSem.ClaimJoined
import GoSem.ClaimMapViews
import Derived.JoinedTies
import Derived.KernelRfl
namespace Go.Proofs.YtcofblepdfjhjaaGreatDoor
/- THE CELL 'sum', in the pinned program and in every row, IS THE sha256 OF THE DUMP (.gsa) THAT YtcofblepdfjhjaaGreatDoorProg.lean LOADS. Nothing in Lean hashes anything: it is a label: what it is worth is what the hold of that sum in a sandbox is worth. -/
noncomputable def Tryz.pinned : Pinned := { name := "ytcofblepdfjhjaagreatdoor", sum := "5fd1d55f1e960852f14af9f3d25c490cf038cca495cad308a5c07319e9fc131e", checked := Tryz.checked }
namespace Rows
def none {H : Type} : Left H := { results := [], args := [] }

/- WHAT THE LISTED PACKAGE-LEVEL VARIABLES READ AS WHEN THE CALL BEGINS. Each datum BY PROGRAM (the guide's laid-datum.mjs) off the statement by which the dump's own 'gosem.cut.vars' lays the variable. In a bare row this is a premise. The card (YtcofblepdfjhjaaGreatDoorCards.lean) ties it to the program's text. -/
def laid_pub_cookiejars_pub_cookiejar_errIllegalDomain {H : Type} : DataW H := .iface "*errors.errorString" (.ptr (.agg [.lit (.string [99, 111, 111, 107, 105, 101, 106, 97, 114, 58, 32, 105, 108, 108, 101, 103, 97, 108, 32, 99, 111, 111, 107, 105, 101, 32, 100, 111, 109, 97, 105, 110, 32, 97, 116, 116, 114, 105, 98, 117, 116, 101])]))
def laid_pub_cookiejars_pub_cookiejar_errMalformedDomain {H : Type} : DataW H := .iface "*errors.errorString" (.ptr (.agg [.lit (.string [99, 111, 111, 107, 105, 101, 106, 97, 114, 58, 32, 109, 97, 108, 102, 111, 114, 109, 101, 100, 32, 99, 111, 111, 107, 105, 101, 32, 100, 111, 109, 97, 105, 110, 32, 97, 116, 116, 114, 105, 98, 117, 116, 101])]))

/-- 'laws.FnAsking': WHATEVER THE INPUT: true; the input reads as it did. -/
def fnAskingSpec : ChangeSpec := { name := "fnAsking", fn := fun _ => fun
  | [d1, d2, d3, d4, d5] => { results := [.lit (.bool true)], args := [d1, d2, d3, d4, d5] }
  | _ => none }
def fnAskingRow : OpenClaim := { program := "ytcofblepdfjhjaagreatdoor", sum := "5fd1d55f1e960852f14af9f3d25c490cf038cca495cad308a5c07319e9fc131e", func := "pub-cookiejars/laws.FnAsking", spec := "fnAsking", unfollowed := true, recurses := true, named := ["pub-cookiejars/pub/cookiejar.errIllegalDomain", "pub-cookiejars/pub/cookiejar.errMalformedDomain"], apart := false, laid := [("pub-cookiejars/pub/cookiejar.errIllegalDomain", laid_pub_cookiejars_pub_cookiejar_errIllegalDomain), ("pub-cookiejars/pub/cookiejar.errMalformedDomain", laid_pub_cookiejars_pub_cookiejar_errMalformedDomain)] }
def FnAskingSaid : Prop := fnAskingRow.holds Tryz.pinned (OpenSpec.ofChange fnAskingSpec)

/-- ITS FALSE NEIGHBOUR: 'it returns false'. Refute it at one input. -/
def fnAskingWrong : ChangeSpec := { name := "fnAsking", fn := fun _ => fun
  | [d1, d2, d3, d4, d5] => { results := [.lit (.bool false)], args := [d1, d2, d3, d4, d5] }
  | _ => none }
def FnAskingWrongFalsely : Prop := fnAskingRow.holds Tryz.pinned (OpenSpec.ofChange fnAskingWrong)

/- THE SECOND FORM. 'bulk': how many values and letters a reading holds, each counted each time it is reached (what is shared counts as often as it is met; a slice's spare places count too). A statement '..UptoSaid' is the law's where the arguments, and the package variables that the reading takes, are together of bulk at most 1048576: NARROWER than '..Said'. Prove '..Said' where nothing that the law and all that it calls make is longer than what came in: it says more and counts as full. Else prove '..UptoSaid'. A law counts once. -/
mutual
def uptoBulk {H : Type} : DataW H → Nat
  | .lit (.string bytes) => bytes.length + 1
  | .lit _ => 1
  | .nil => 1
  | .ptr d => uptoBulk d + 1
  | .slice elems spare => uptoBulkAll elems + uptoBulkAll spare + 1
  | .agg parts => uptoBulkAll parts + 1
  | .iface _ d => uptoBulk d + 1
  | .map entries => uptoBulkEntries entries + 1
  | .held _ => 1
def uptoBulkAll {H : Type} : List (DataW H) → Nat
  | [] => 0
  | d :: r => uptoBulk d + uptoBulkAll r
def uptoBulkEntries {H : Type} : List (Lit × DataW H) → Nat
  | [] => 0
  | x :: r => uptoBulkEntry x + uptoBulkEntries r
def uptoBulkEntry {H : Type} : Lit × DataW H → Nat
  | (.string bytes, d) => bytes.length + uptoBulk d + 1
  | (_, d) => uptoBulk d + 1
 end
def uptoSmall : (H : Type) → List (DataW H) → Bool := fun _ ds => decide (uptoBulkAll ds ≤ 1048576)
def OpenSpec.upto (s : _root_.Go.ChangeSpec) : _root_.Go.OpenSpec := { _root_.Go.OpenSpec.ofChange s with cond := some uptoSmall }

/-- 'laws.FnAsking', WHERE WHAT IT READS IS OF BULK AT MOST 1048576: true; the input reads as it did. -/
def fnAskingUptoRow : OpenClaim := { program := "ytcofblepdfjhjaagreatdoor", sum := "5fd1d55f1e960852f14af9f3d25c490cf038cca495cad308a5c07319e9fc131e", func := "pub-cookiejars/laws.FnAsking", spec := "fnAsking", unfollowed := true, recurses := true, named := ["pub-cookiejars/pub/cookiejar.errIllegalDomain", "pub-cookiejars/pub/cookiejar.errMalformedDomain"], apart := false, laid := [("pub-cookiejars/pub/cookiejar.errIllegalDomain", laid_pub_cookiejars_pub_cookiejar_errIllegalDomain), ("pub-cookiejars/pub/cookiejar.errMalformedDomain", laid_pub_cookiejars_pub_cookiejar_errMalformedDomain)], narrowed := true }
def FnAskingUptoSaid : Prop := fnAskingUptoRow.holds Tryz.pinned (OpenSpec.upto fnAskingSpec)

end Rows
end Go.Proofs.YtcofblepdfjhjaaGreatDoor
