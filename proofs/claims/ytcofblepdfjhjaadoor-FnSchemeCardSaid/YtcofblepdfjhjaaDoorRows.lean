/-
  NARROWER THAN 'FOR EVERY INPUT', by the rows' own cells (each row's printed sentence says how): FnDeleted: laid · FnEnds: laid · FnNotForSuffix: laid · FnOwnHost: laid · FnLater: laid · FnSecure: laid · FnSetAgain: laid · FnScheme: laid · FnHostInAnyForm: laid · FnApart: laid.
  DERIVED. THE GIVEN ROWS OF THIS SEAT. 10 by the template 'for every input the law returns true; each argument reads behind the call as it read before'; 0 by the template 'total and deterministic' (their statements: YtcofblepdfjhjaaDoorTotals.lean).
  GIVEN WITH THE SEED: the statements are not yours to turn. If you find one false, say at which input.
  Laid BY PROGRAM, IN A SANDBOX (cutbox-rows.mjs): the forced cells as the released guide's own fill.sh prints them over the translation 6621e9898ef30b37… (all of the seat's roots in one cut). By AI agents, Wed Nov 11 2026. No macro, syntax, notation, axiom, sorry.
-/
import Derived.Test.YtcofblepdfjhjaaDoorChecked
import GoSem.Claim
import GoSem.ClaimJoined
import GoSem.ClaimMapViews
import Derived.JoinedTies
import Derived.KernelRfl
namespace Go.Proofs.YtcofblepdfjhjaaDoor
/- THE CELL 'sum', in the pinned program and in every row, IS THE sha256 OF THE DUMP (.gsa) THAT YtcofblepdfjhjaaDoorProg.lean LOADS. Nothing in Lean hashes anything: it is a label: what it is worth is what the hold of that sum in a sandbox is worth. -/
noncomputable def Tryd.pinned : Pinned := { name := "ytcofblepdfjhjaadoor", sum := "6621e9898ef30b373e85ce48a413b22e6357ebb30b2b62a627fe278d1f0a50f2", checked := Tryd.checked }
namespace Rows
def none {H : Type} : Left H := { results := [], args := [] }

/- WHAT THE LISTED PACKAGE-LEVEL VARIABLES READ AS WHEN THE CALL BEGINS. Each datum BY PROGRAM (the guide's laid-datum.mjs) off the statement by which the dump's own 'gosem.cut.vars' lays the variable. In a bare row this is a premise. The card (YtcofblepdfjhjaaDoorCards.lean) ties it to the program's text. -/
def laid_pub_cookiejars_pub_cookiejar_errIllegalDomain {H : Type} : DataW H := .iface "*errors.errorString" (.ptr (.agg [.lit (.string [99, 111, 111, 107, 105, 101, 106, 97, 114, 58, 32, 105, 108, 108, 101, 103, 97, 108, 32, 99, 111, 111, 107, 105, 101, 32, 100, 111, 109, 97, 105, 110, 32, 97, 116, 116, 114, 105, 98, 117, 116, 101])]))
def laid_pub_cookiejars_pub_cookiejar_errMalformedDomain {H : Type} : DataW H := .iface "*errors.errorString" (.ptr (.agg [.lit (.string [99, 111, 111, 107, 105, 101, 106, 97, 114, 58, 32, 109, 97, 108, 102, 111, 114, 109, 101, 100, 32, 99, 111, 111, 107, 105, 101, 32, 100, 111, 109, 97, 105, 110, 32, 97, 116, 116, 114, 105, 98, 117, 116, 101])]))

/-- 'laws.FnDeleted': WHATEVER THE INPUT: true; the input reads as it did. -/
def fnDeletedSpec : ChangeSpec := { name := "fnDeleted", fn := fun _ => fun
  | [d1, d2, d3, d4, d5] => { results := [.lit (.bool true)], args := [d1, d2, d3, d4, d5] }
  | _ => none }
def fnDeletedRow : OpenClaim := { program := "ytcofblepdfjhjaadoor", sum := "6621e9898ef30b373e85ce48a413b22e6357ebb30b2b62a627fe278d1f0a50f2", func := "pub-cookiejars/laws.FnDeleted", spec := "fnDeleted", unfollowed := true, recurses := true, named := ["pub-cookiejars/pub/cookiejar.errIllegalDomain", "pub-cookiejars/pub/cookiejar.errMalformedDomain"], apart := false, laid := [("pub-cookiejars/pub/cookiejar.errIllegalDomain", laid_pub_cookiejars_pub_cookiejar_errIllegalDomain), ("pub-cookiejars/pub/cookiejar.errMalformedDomain", laid_pub_cookiejars_pub_cookiejar_errMalformedDomain)] }
def FnDeletedSaid : Prop := fnDeletedRow.holds Tryd.pinned (OpenSpec.ofChange fnDeletedSpec)

/-- ITS FALSE NEIGHBOUR: 'it returns false'. Refute it at one input. -/
def fnDeletedWrong : ChangeSpec := { name := "fnDeleted", fn := fun _ => fun
  | [d1, d2, d3, d4, d5] => { results := [.lit (.bool false)], args := [d1, d2, d3, d4, d5] }
  | _ => none }
def FnDeletedWrongFalsely : Prop := fnDeletedRow.holds Tryd.pinned (OpenSpec.ofChange fnDeletedWrong)

/-- 'laws.FnEnds': WHATEVER THE INPUT: true; the input reads as it did. -/
def fnEndsSpec : ChangeSpec := { name := "fnEnds", fn := fun _ => fun
  | [d1, d2, d3, d4] => { results := [.lit (.bool true)], args := [d1, d2, d3, d4] }
  | _ => none }
def fnEndsRow : OpenClaim := { program := "ytcofblepdfjhjaadoor", sum := "6621e9898ef30b373e85ce48a413b22e6357ebb30b2b62a627fe278d1f0a50f2", func := "pub-cookiejars/laws.FnEnds", spec := "fnEnds", unfollowed := true, recurses := true, named := ["pub-cookiejars/pub/cookiejar.errIllegalDomain", "pub-cookiejars/pub/cookiejar.errMalformedDomain"], apart := false, laid := [("pub-cookiejars/pub/cookiejar.errIllegalDomain", laid_pub_cookiejars_pub_cookiejar_errIllegalDomain), ("pub-cookiejars/pub/cookiejar.errMalformedDomain", laid_pub_cookiejars_pub_cookiejar_errMalformedDomain)] }
def FnEndsSaid : Prop := fnEndsRow.holds Tryd.pinned (OpenSpec.ofChange fnEndsSpec)

/-- ITS FALSE NEIGHBOUR: 'it returns false'. Refute it at one input. -/
def fnEndsWrong : ChangeSpec := { name := "fnEnds", fn := fun _ => fun
  | [d1, d2, d3, d4] => { results := [.lit (.bool false)], args := [d1, d2, d3, d4] }
  | _ => none }
def FnEndsWrongFalsely : Prop := fnEndsRow.holds Tryd.pinned (OpenSpec.ofChange fnEndsWrong)

/-- 'laws.FnNotForSuffix': WHATEVER THE INPUT: true; the input reads as it did. -/
def fnNotForSuffixSpec : ChangeSpec := { name := "fnNotForSuffix", fn := fun _ => fun
  | [d1, d2, d3, d4] => { results := [.lit (.bool true)], args := [d1, d2, d3, d4] }
  | _ => none }
def fnNotForSuffixRow : OpenClaim := { program := "ytcofblepdfjhjaadoor", sum := "6621e9898ef30b373e85ce48a413b22e6357ebb30b2b62a627fe278d1f0a50f2", func := "pub-cookiejars/laws.FnNotForSuffix", spec := "fnNotForSuffix", unfollowed := true, recurses := true, named := ["pub-cookiejars/pub/cookiejar.errIllegalDomain", "pub-cookiejars/pub/cookiejar.errMalformedDomain"], apart := false, laid := [("pub-cookiejars/pub/cookiejar.errIllegalDomain", laid_pub_cookiejars_pub_cookiejar_errIllegalDomain), ("pub-cookiejars/pub/cookiejar.errMalformedDomain", laid_pub_cookiejars_pub_cookiejar_errMalformedDomain)] }
def FnNotForSuffixSaid : Prop := fnNotForSuffixRow.holds Tryd.pinned (OpenSpec.ofChange fnNotForSuffixSpec)

/-- ITS FALSE NEIGHBOUR: 'it returns false'. Refute it at one input. -/
def fnNotForSuffixWrong : ChangeSpec := { name := "fnNotForSuffix", fn := fun _ => fun
  | [d1, d2, d3, d4] => { results := [.lit (.bool false)], args := [d1, d2, d3, d4] }
  | _ => none }
def FnNotForSuffixWrongFalsely : Prop := fnNotForSuffixRow.holds Tryd.pinned (OpenSpec.ofChange fnNotForSuffixWrong)

/-- 'laws.FnOwnHost': WHATEVER THE INPUT: true; the input reads as it did. -/
def fnOwnHostSpec : ChangeSpec := { name := "fnOwnHost", fn := fun _ => fun
  | [d1, d2, d3] => { results := [.lit (.bool true)], args := [d1, d2, d3] }
  | _ => none }
def fnOwnHostRow : OpenClaim := { program := "ytcofblepdfjhjaadoor", sum := "6621e9898ef30b373e85ce48a413b22e6357ebb30b2b62a627fe278d1f0a50f2", func := "pub-cookiejars/laws.FnOwnHost", spec := "fnOwnHost", unfollowed := true, recurses := true, named := ["pub-cookiejars/pub/cookiejar.errIllegalDomain", "pub-cookiejars/pub/cookiejar.errMalformedDomain"], apart := false, laid := [("pub-cookiejars/pub/cookiejar.errIllegalDomain", laid_pub_cookiejars_pub_cookiejar_errIllegalDomain), ("pub-cookiejars/pub/cookiejar.errMalformedDomain", laid_pub_cookiejars_pub_cookiejar_errMalformedDomain)] }
def FnOwnHostSaid : Prop := fnOwnHostRow.holds Tryd.pinned (OpenSpec.ofChange fnOwnHostSpec)

/-- ITS FALSE NEIGHBOUR: 'it returns false'. Refute it at one input. -/
def fnOwnHostWrong : ChangeSpec := { name := "fnOwnHost", fn := fun _ => fun
  | [d1, d2, d3] => { results := [.lit (.bool false)], args := [d1, d2, d3] }
  | _ => none }
def FnOwnHostWrongFalsely : Prop := fnOwnHostRow.holds Tryd.pinned (OpenSpec.ofChange fnOwnHostWrong)

/-- 'laws.FnLater': WHATEVER THE INPUT: true; the input reads as it did. -/
def fnLaterSpec : ChangeSpec := { name := "fnLater", fn := fun _ => fun
  | [d1, d2, d3, d4] => { results := [.lit (.bool true)], args := [d1, d2, d3, d4] }
  | _ => none }
def fnLaterRow : OpenClaim := { program := "ytcofblepdfjhjaadoor", sum := "6621e9898ef30b373e85ce48a413b22e6357ebb30b2b62a627fe278d1f0a50f2", func := "pub-cookiejars/laws.FnLater", spec := "fnLater", unfollowed := true, recurses := true, named := ["pub-cookiejars/pub/cookiejar.errIllegalDomain", "pub-cookiejars/pub/cookiejar.errMalformedDomain"], apart := false, laid := [("pub-cookiejars/pub/cookiejar.errIllegalDomain", laid_pub_cookiejars_pub_cookiejar_errIllegalDomain), ("pub-cookiejars/pub/cookiejar.errMalformedDomain", laid_pub_cookiejars_pub_cookiejar_errMalformedDomain)] }
def FnLaterSaid : Prop := fnLaterRow.holds Tryd.pinned (OpenSpec.ofChange fnLaterSpec)

/-- ITS FALSE NEIGHBOUR: 'it returns false'. Refute it at one input. -/
def fnLaterWrong : ChangeSpec := { name := "fnLater", fn := fun _ => fun
  | [d1, d2, d3, d4] => { results := [.lit (.bool false)], args := [d1, d2, d3, d4] }
  | _ => none }
def FnLaterWrongFalsely : Prop := fnLaterRow.holds Tryd.pinned (OpenSpec.ofChange fnLaterWrong)

/-- 'laws.FnSecure': WHATEVER THE INPUT: true; the input reads as it did. -/
def fnSecureSpec : ChangeSpec := { name := "fnSecure", fn := fun _ => fun
  | [d1, d2, d3, d4] => { results := [.lit (.bool true)], args := [d1, d2, d3, d4] }
  | _ => none }
def fnSecureRow : OpenClaim := { program := "ytcofblepdfjhjaadoor", sum := "6621e9898ef30b373e85ce48a413b22e6357ebb30b2b62a627fe278d1f0a50f2", func := "pub-cookiejars/laws.FnSecure", spec := "fnSecure", unfollowed := true, recurses := true, named := ["pub-cookiejars/pub/cookiejar.errIllegalDomain", "pub-cookiejars/pub/cookiejar.errMalformedDomain"], apart := false, laid := [("pub-cookiejars/pub/cookiejar.errIllegalDomain", laid_pub_cookiejars_pub_cookiejar_errIllegalDomain), ("pub-cookiejars/pub/cookiejar.errMalformedDomain", laid_pub_cookiejars_pub_cookiejar_errMalformedDomain)] }
def FnSecureSaid : Prop := fnSecureRow.holds Tryd.pinned (OpenSpec.ofChange fnSecureSpec)

/-- ITS FALSE NEIGHBOUR: 'it returns false'. Refute it at one input. -/
def fnSecureWrong : ChangeSpec := { name := "fnSecure", fn := fun _ => fun
  | [d1, d2, d3, d4] => { results := [.lit (.bool false)], args := [d1, d2, d3, d4] }
  | _ => none }
def FnSecureWrongFalsely : Prop := fnSecureRow.holds Tryd.pinned (OpenSpec.ofChange fnSecureWrong)

/-- 'laws.FnSetAgain': WHATEVER THE INPUT: true; the input reads as it did. -/
def fnSetAgainSpec : ChangeSpec := { name := "fnSetAgain", fn := fun _ => fun
  | [d1, d2, d3, d4, d5] => { results := [.lit (.bool true)], args := [d1, d2, d3, d4, d5] }
  | _ => none }
def fnSetAgainRow : OpenClaim := { program := "ytcofblepdfjhjaadoor", sum := "6621e9898ef30b373e85ce48a413b22e6357ebb30b2b62a627fe278d1f0a50f2", func := "pub-cookiejars/laws.FnSetAgain", spec := "fnSetAgain", unfollowed := true, recurses := true, named := ["pub-cookiejars/pub/cookiejar.errIllegalDomain", "pub-cookiejars/pub/cookiejar.errMalformedDomain"], apart := false, laid := [("pub-cookiejars/pub/cookiejar.errIllegalDomain", laid_pub_cookiejars_pub_cookiejar_errIllegalDomain), ("pub-cookiejars/pub/cookiejar.errMalformedDomain", laid_pub_cookiejars_pub_cookiejar_errMalformedDomain)] }
def FnSetAgainSaid : Prop := fnSetAgainRow.holds Tryd.pinned (OpenSpec.ofChange fnSetAgainSpec)

/-- ITS FALSE NEIGHBOUR: 'it returns false'. Refute it at one input. -/
def fnSetAgainWrong : ChangeSpec := { name := "fnSetAgain", fn := fun _ => fun
  | [d1, d2, d3, d4, d5] => { results := [.lit (.bool false)], args := [d1, d2, d3, d4, d5] }
  | _ => none }
def FnSetAgainWrongFalsely : Prop := fnSetAgainRow.holds Tryd.pinned (OpenSpec.ofChange fnSetAgainWrong)

/-- 'laws.FnScheme': WHATEVER THE INPUT: true; the input reads as it did. -/
def fnSchemeSpec : ChangeSpec := { name := "fnScheme", fn := fun _ => fun
  | [d1, d2, d3, d4, d5] => { results := [.lit (.bool true)], args := [d1, d2, d3, d4, d5] }
  | _ => none }
def fnSchemeRow : OpenClaim := { program := "ytcofblepdfjhjaadoor", sum := "6621e9898ef30b373e85ce48a413b22e6357ebb30b2b62a627fe278d1f0a50f2", func := "pub-cookiejars/laws.FnScheme", spec := "fnScheme", unfollowed := true, recurses := true, named := ["pub-cookiejars/pub/cookiejar.errIllegalDomain", "pub-cookiejars/pub/cookiejar.errMalformedDomain"], apart := false, laid := [("pub-cookiejars/pub/cookiejar.errIllegalDomain", laid_pub_cookiejars_pub_cookiejar_errIllegalDomain), ("pub-cookiejars/pub/cookiejar.errMalformedDomain", laid_pub_cookiejars_pub_cookiejar_errMalformedDomain)] }
def FnSchemeSaid : Prop := fnSchemeRow.holds Tryd.pinned (OpenSpec.ofChange fnSchemeSpec)

/-- ITS FALSE NEIGHBOUR: 'it returns false'. Refute it at one input. -/
def fnSchemeWrong : ChangeSpec := { name := "fnScheme", fn := fun _ => fun
  | [d1, d2, d3, d4, d5] => { results := [.lit (.bool false)], args := [d1, d2, d3, d4, d5] }
  | _ => none }
def FnSchemeWrongFalsely : Prop := fnSchemeRow.holds Tryd.pinned (OpenSpec.ofChange fnSchemeWrong)

/-- 'laws.FnHostInAnyForm': WHATEVER THE INPUT: true; the input reads as it did. -/
def fnHostInAnyFormSpec : ChangeSpec := { name := "fnHostInAnyForm", fn := fun _ => fun
  | [d1, d2, d3, d4] => { results := [.lit (.bool true)], args := [d1, d2, d3, d4] }
  | _ => none }
def fnHostInAnyFormRow : OpenClaim := { program := "ytcofblepdfjhjaadoor", sum := "6621e9898ef30b373e85ce48a413b22e6357ebb30b2b62a627fe278d1f0a50f2", func := "pub-cookiejars/laws.FnHostInAnyForm", spec := "fnHostInAnyForm", unfollowed := true, recurses := true, named := ["pub-cookiejars/pub/cookiejar.errIllegalDomain", "pub-cookiejars/pub/cookiejar.errMalformedDomain"], apart := false, laid := [("pub-cookiejars/pub/cookiejar.errIllegalDomain", laid_pub_cookiejars_pub_cookiejar_errIllegalDomain), ("pub-cookiejars/pub/cookiejar.errMalformedDomain", laid_pub_cookiejars_pub_cookiejar_errMalformedDomain)] }
def FnHostInAnyFormSaid : Prop := fnHostInAnyFormRow.holds Tryd.pinned (OpenSpec.ofChange fnHostInAnyFormSpec)

/-- ITS FALSE NEIGHBOUR: 'it returns false'. Refute it at one input. -/
def fnHostInAnyFormWrong : ChangeSpec := { name := "fnHostInAnyForm", fn := fun _ => fun
  | [d1, d2, d3, d4] => { results := [.lit (.bool false)], args := [d1, d2, d3, d4] }
  | _ => none }
def FnHostInAnyFormWrongFalsely : Prop := fnHostInAnyFormRow.holds Tryd.pinned (OpenSpec.ofChange fnHostInAnyFormWrong)

/-- 'laws.FnApart': WHATEVER THE INPUT: true; the input reads as it did. -/
def fnApartSpec : ChangeSpec := { name := "fnApart", fn := fun _ => fun
  | [d1, d2, d3, d4, d5] => { results := [.lit (.bool true)], args := [d1, d2, d3, d4, d5] }
  | _ => none }
def fnApartRow : OpenClaim := { program := "ytcofblepdfjhjaadoor", sum := "6621e9898ef30b373e85ce48a413b22e6357ebb30b2b62a627fe278d1f0a50f2", func := "pub-cookiejars/laws.FnApart", spec := "fnApart", unfollowed := true, recurses := true, named := ["pub-cookiejars/pub/cookiejar.errIllegalDomain", "pub-cookiejars/pub/cookiejar.errMalformedDomain"], apart := false, laid := [("pub-cookiejars/pub/cookiejar.errIllegalDomain", laid_pub_cookiejars_pub_cookiejar_errIllegalDomain), ("pub-cookiejars/pub/cookiejar.errMalformedDomain", laid_pub_cookiejars_pub_cookiejar_errMalformedDomain)] }
def FnApartSaid : Prop := fnApartRow.holds Tryd.pinned (OpenSpec.ofChange fnApartSpec)

/-- ITS FALSE NEIGHBOUR: 'it returns false'. Refute it at one input. -/
def fnApartWrong : ChangeSpec := { name := "fnApart", fn := fun _ => fun
  | [d1, d2, d3, d4, d5] => { results := [.lit (.bool false)], args := [d1, d2, d3, d4, d5] }
  | _ => none }
def FnApartWrongFalsely : Prop := fnApartRow.holds Tryd.pinned (OpenSpec.ofChange fnApartWrong)

/- THE SECOND FORM. 'bulk': how many values and letters a reading holds, each counted each time it is reached (what is shared counts as often as it is met; a slice's spare places count too). A statement '..UptoSaid' is the law's where the arguments, and the package variables that the reading takes, are together of bulk at most 1048576: NARROWER than '..Said'. Prove '..Said' where nothing that the law and all that it calls make is longer than what came in: it says more and counts as full. Else prove '..UptoSaid'. A law counts once. -/
mutual
def uptoBulk {H : Type} : DataW H → Nat
  | .lit (.string bytes) => bytes.length + 1
  | .lit _ => 1
  | .nil => 1
  | .ptr d => uptoBulk d + 1
  | .slice elems spare => uptoBulkAll elems + uptoBulkAll spare + 1
  | .agg parts => uptoBulkAll parts + 1
  | .iface _ d => uptoBulk d + 1
  | .map entries => uptoBulkEntries entries + 1
  | .held _ => 1
def uptoBulkAll {H : Type} : List (DataW H) → Nat
  | [] => 0
  | d :: r => uptoBulk d + uptoBulkAll r
def uptoBulkEntries {H : Type} : List (Lit × DataW H) → Nat
  | [] => 0
  | x :: r => uptoBulkEntry x + uptoBulkEntries r
def uptoBulkEntry {H : Type} : Lit × DataW H → Nat
  | (.string bytes, d) => bytes.length + uptoBulk d + 1
  | (_, d) => uptoBulk d + 1
 end
def uptoSmall : (H : Type) → List (DataW H) → Bool := fun _ ds => decide (uptoBulkAll ds ≤ 1048576)
def OpenSpec.upto (s : _root_.Go.ChangeSpec) : _root_.Go.OpenSpec := { _root_.Go.OpenSpec.ofChange s with cond := some uptoSmall }

/-- 'laws.FnDeleted', WHERE WHAT IT READS IS OF BULK AT MOST 1048576: true; the input reads as it did. -/
def fnDeletedUptoRow : OpenClaim := { program := "ytcofblepdfjhjaadoor", sum := "6621e9898ef30b373e85ce48a413b22e6357ebb30b2b62a627fe278d1f0a50f2", func := "pub-cookiejars/laws.FnDeleted", spec := "fnDeleted", unfollowed := true, recurses := true, named := ["pub-cookiejars/pub/cookiejar.errIllegalDomain", "pub-cookiejars/pub/cookiejar.errMalformedDomain"], apart := false, laid := [("pub-cookiejars/pub/cookiejar.errIllegalDomain", laid_pub_cookiejars_pub_cookiejar_errIllegalDomain), ("pub-cookiejars/pub/cookiejar.errMalformedDomain", laid_pub_cookiejars_pub_cookiejar_errMalformedDomain)], narrowed := true }
def FnDeletedUptoSaid : Prop := fnDeletedUptoRow.holds Tryd.pinned (OpenSpec.upto fnDeletedSpec)

/-- 'laws.FnEnds', WHERE WHAT IT READS IS OF BULK AT MOST 1048576: true; the input reads as it did. -/
def fnEndsUptoRow : OpenClaim := { program := "ytcofblepdfjhjaadoor", sum := "6621e9898ef30b373e85ce48a413b22e6357ebb30b2b62a627fe278d1f0a50f2", func := "pub-cookiejars/laws.FnEnds", spec := "fnEnds", unfollowed := true, recurses := true, named := ["pub-cookiejars/pub/cookiejar.errIllegalDomain", "pub-cookiejars/pub/cookiejar.errMalformedDomain"], apart := false, laid := [("pub-cookiejars/pub/cookiejar.errIllegalDomain", laid_pub_cookiejars_pub_cookiejar_errIllegalDomain), ("pub-cookiejars/pub/cookiejar.errMalformedDomain", laid_pub_cookiejars_pub_cookiejar_errMalformedDomain)], narrowed := true }
def FnEndsUptoSaid : Prop := fnEndsUptoRow.holds Tryd.pinned (OpenSpec.upto fnEndsSpec)

/-- 'laws.FnNotForSuffix', WHERE WHAT IT READS IS OF BULK AT MOST 1048576: true; the input reads as it did. -/
def fnNotForSuffixUptoRow : OpenClaim := { program := "ytcofblepdfjhjaadoor", sum := "6621e9898ef30b373e85ce48a413b22e6357ebb30b2b62a627fe278d1f0a50f2", func := "pub-cookiejars/laws.FnNotForSuffix", spec := "fnNotForSuffix", unfollowed := true, recurses := true, named := ["pub-cookiejars/pub/cookiejar.errIllegalDomain", "pub-cookiejars/pub/cookiejar.errMalformedDomain"], apart := false, laid := [("pub-cookiejars/pub/cookiejar.errIllegalDomain", laid_pub_cookiejars_pub_cookiejar_errIllegalDomain), ("pub-cookiejars/pub/cookiejar.errMalformedDomain", laid_pub_cookiejars_pub_cookiejar_errMalformedDomain)], narrowed := true }
def FnNotForSuffixUptoSaid : Prop := fnNotForSuffixUptoRow.holds Tryd.pinned (OpenSpec.upto fnNotForSuffixSpec)

/-- 'laws.FnOwnHost', WHERE WHAT IT READS IS OF BULK AT MOST 1048576: true; the input reads as it did. -/
def fnOwnHostUptoRow : OpenClaim := { program := "ytcofblepdfjhjaadoor", sum := "6621e9898ef30b373e85ce48a413b22e6357ebb30b2b62a627fe278d1f0a50f2", func := "pub-cookiejars/laws.FnOwnHost", spec := "fnOwnHost", unfollowed := true, recurses := true, named := ["pub-cookiejars/pub/cookiejar.errIllegalDomain", "pub-cookiejars/pub/cookiejar.errMalformedDomain"], apart := false, laid := [("pub-cookiejars/pub/cookiejar.errIllegalDomain", laid_pub_cookiejars_pub_cookiejar_errIllegalDomain), ("pub-cookiejars/pub/cookiejar.errMalformedDomain", laid_pub_cookiejars_pub_cookiejar_errMalformedDomain)], narrowed := true }
def FnOwnHostUptoSaid : Prop := fnOwnHostUptoRow.holds Tryd.pinned (OpenSpec.upto fnOwnHostSpec)

/-- 'laws.FnLater', WHERE WHAT IT READS IS OF BULK AT MOST 1048576: true; the input reads as it did. -/
def fnLaterUptoRow : OpenClaim := { program := "ytcofblepdfjhjaadoor", sum := "6621e9898ef30b373e85ce48a413b22e6357ebb30b2b62a627fe278d1f0a50f2", func := "pub-cookiejars/laws.FnLater", spec := "fnLater", unfollowed := true, recurses := true, named := ["pub-cookiejars/pub/cookiejar.errIllegalDomain", "pub-cookiejars/pub/cookiejar.errMalformedDomain"], apart := false, laid := [("pub-cookiejars/pub/cookiejar.errIllegalDomain", laid_pub_cookiejars_pub_cookiejar_errIllegalDomain), ("pub-cookiejars/pub/cookiejar.errMalformedDomain", laid_pub_cookiejars_pub_cookiejar_errMalformedDomain)], narrowed := true }
def FnLaterUptoSaid : Prop := fnLaterUptoRow.holds Tryd.pinned (OpenSpec.upto fnLaterSpec)

/-- 'laws.FnSecure', WHERE WHAT IT READS IS OF BULK AT MOST 1048576: true; the input reads as it did. -/
def fnSecureUptoRow : OpenClaim := { program := "ytcofblepdfjhjaadoor", sum := "6621e9898ef30b373e85ce48a413b22e6357ebb30b2b62a627fe278d1f0a50f2", func := "pub-cookiejars/laws.FnSecure", spec := "fnSecure", unfollowed := true, recurses := true, named := ["pub-cookiejars/pub/cookiejar.errIllegalDomain", "pub-cookiejars/pub/cookiejar.errMalformedDomain"], apart := false, laid := [("pub-cookiejars/pub/cookiejar.errIllegalDomain", laid_pub_cookiejars_pub_cookiejar_errIllegalDomain), ("pub-cookiejars/pub/cookiejar.errMalformedDomain", laid_pub_cookiejars_pub_cookiejar_errMalformedDomain)], narrowed := true }
def FnSecureUptoSaid : Prop := fnSecureUptoRow.holds Tryd.pinned (OpenSpec.upto fnSecureSpec)

/-- 'laws.FnSetAgain', WHERE WHAT IT READS IS OF BULK AT MOST 1048576: true; the input reads as it did. -/
def fnSetAgainUptoRow : OpenClaim := { program := "ytcofblepdfjhjaadoor", sum := "6621e9898ef30b373e85ce48a413b22e6357ebb30b2b62a627fe278d1f0a50f2", func := "pub-cookiejars/laws.FnSetAgain", spec := "fnSetAgain", unfollowed := true, recurses := true, named := ["pub-cookiejars/pub/cookiejar.errIllegalDomain", "pub-cookiejars/pub/cookiejar.errMalformedDomain"], apart := false, laid := [("pub-cookiejars/pub/cookiejar.errIllegalDomain", laid_pub_cookiejars_pub_cookiejar_errIllegalDomain), ("pub-cookiejars/pub/cookiejar.errMalformedDomain", laid_pub_cookiejars_pub_cookiejar_errMalformedDomain)], narrowed := true }
def FnSetAgainUptoSaid : Prop := fnSetAgainUptoRow.holds Tryd.pinned (OpenSpec.upto fnSetAgainSpec)

/-- 'laws.FnScheme', WHERE WHAT IT READS IS OF BULK AT MOST 1048576: true; the input reads as it did. -/
def fnSchemeUptoRow : OpenClaim := { program := "ytcofblepdfjhjaadoor", sum := "6621e9898ef30b373e85ce48a413b22e6357ebb30b2b62a627fe278d1f0a50f2", func := "pub-cookiejars/laws.FnScheme", spec := "fnScheme", unfollowed := true, recurses := true, named := ["pub-cookiejars/pub/cookiejar.errIllegalDomain", "pub-cookiejars/pub/cookiejar.errMalformedDomain"], apart := false, laid := [("pub-cookiejars/pub/cookiejar.errIllegalDomain", laid_pub_cookiejars_pub_cookiejar_errIllegalDomain), ("pub-cookiejars/pub/cookiejar.errMalformedDomain", laid_pub_cookiejars_pub_cookiejar_errMalformedDomain)], narrowed := true }
def FnSchemeUptoSaid : Prop := fnSchemeUptoRow.holds Tryd.pinned (OpenSpec.upto fnSchemeSpec)

/-- 'laws.FnHostInAnyForm', WHERE WHAT IT READS IS OF BULK AT MOST 1048576: true; the input reads as it did. -/
def fnHostInAnyFormUptoRow : OpenClaim := { program := "ytcofblepdfjhjaadoor", sum := "6621e9898ef30b373e85ce48a413b22e6357ebb30b2b62a627fe278d1f0a50f2", func := "pub-cookiejars/laws.FnHostInAnyForm", spec := "fnHostInAnyForm", unfollowed := true, recurses := true, named := ["pub-cookiejars/pub/cookiejar.errIllegalDomain", "pub-cookiejars/pub/cookiejar.errMalformedDomain"], apart := false, laid := [("pub-cookiejars/pub/cookiejar.errIllegalDomain", laid_pub_cookiejars_pub_cookiejar_errIllegalDomain), ("pub-cookiejars/pub/cookiejar.errMalformedDomain", laid_pub_cookiejars_pub_cookiejar_errMalformedDomain)], narrowed := true }
def FnHostInAnyFormUptoSaid : Prop := fnHostInAnyFormUptoRow.holds Tryd.pinned (OpenSpec.upto fnHostInAnyFormSpec)

/-- 'laws.FnApart', WHERE WHAT IT READS IS OF BULK AT MOST 1048576: true; the input reads as it did. -/
def fnApartUptoRow : OpenClaim := { program := "ytcofblepdfjhjaadoor", sum := "6621e9898ef30b373e85ce48a413b22e6357ebb30b2b62a627fe278d1f0a50f2", func := "pub-cookiejars/laws.FnApart", spec := "fnApart", unfollowed := true, recurses := true, named := ["pub-cookiejars/pub/cookiejar.errIllegalDomain", "pub-cookiejars/pub/cookiejar.errMalformedDomain"], apart := false, laid := [("pub-cookiejars/pub/cookiejar.errIllegalDomain", laid_pub_cookiejars_pub_cookiejar_errIllegalDomain), ("pub-cookiejars/pub/cookiejar.errMalformedDomain", laid_pub_cookiejars_pub_cookiejar_errMalformedDomain)], narrowed := true }
def FnApartUptoSaid : Prop := fnApartUptoRow.holds Tryd.pinned (OpenSpec.upto fnApartSpec)

end Rows
end Go.Proofs.YtcofblepdfjhjaaDoor
