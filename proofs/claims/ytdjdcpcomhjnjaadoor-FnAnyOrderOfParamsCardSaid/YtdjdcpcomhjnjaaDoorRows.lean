/-
  NARROWER THAN 'FOR EVERY INPUT', by the rows' own cells (each row's printed sentence says how): FnParams: laid · FnAnyOrderOfParams: laid · FnParamsComeBack: laid · FnParamsAreWritten: laid.
  DERIVED. THE GIVEN ROWS OF THIS SEAT. 4 by the template 'for every input the law returns true; each argument reads behind the call as it read before'; 0 by the template 'total and deterministic' (their statements: YtdjdcpcomhjnjaaDoorTotals.lean).
  GIVEN WITH THE SEED: the statements are not yours to turn. If you find one false, say at which input.
  Laid BY PROGRAM, IN A SANDBOX (cutbox-rows.mjs): the forced cells as the released guide's own fill.sh prints them over the translation 43f366608815a96e… (all of the seat's roots in one cut). By AI agents, Wed Nov 11 2026. No macro, syntax, notation, axiom, sorry.
-/
import Derived.Test.YtdjdcpcomhjnjaaDoorChecked
import GoSem.Claim
import GoSem.ClaimJoined
import GoSem.ClaimMapViews
import Derived.JoinedTies
import Derived.KernelRfl
namespace Go.Proofs.YtdjdcpcomhjnjaaDoor
/- THE CELL 'sum', in the pinned program and in every row, IS THE sha256 OF THE DUMP (.gsa) THAT YtdjdcpcomhjnjaaDoorProg.lean LOADS. Nothing in Lean hashes anything: it is a label: what it is worth is what the hold of that sum in a sandbox is worth. -/
noncomputable def Tryd.pinned : Pinned := { name := "ytdjdcpcomhjnjaadoor", sum := "43f366608815a96e43afbaa0d833c481bad33f2ef94569a627c2a02fb818e5b5", checked := Tryd.checked }
namespace Rows
def none {H : Type} : Left H := { results := [], args := [] }

/- WHAT THE LISTED PACKAGE-LEVEL VARIABLES READ AS WHEN THE CALL BEGINS. Each datum BY PROGRAM (the guide's laid-datum.mjs) off the statement by which the dump's own 'gosem.cut.vars' lays the variable. In a bare row this is a premise. The card (YtdjdcpcomhjnjaaDoorCards.lean) ties it to the program's text. -/
def laid_net_netip_z4 {H : Type} : DataW H := .agg [.ptr (.agg [.lit (.bool false), .lit (.string [])])]
def laid_net_netip_z6noz {H : Type} : DataW H := .agg [.ptr (.agg [.lit (.bool true), .lit (.string [])])]
def laid_net_netip_z0 {H : Type} : DataW H := .agg [.nil]

/-- 'laws.FnParams': WHATEVER THE INPUT: true; the input reads as it did. -/
def fnParamsSpec : ChangeSpec := { name := "fnParams", fn := fun _ => fun
  | [d] => { results := [.lit (.bool true)], args := [d] }
  | _ => none }
def fnParamsRow : OpenClaim := { program := "ytdjdcpcomhjnjaadoor", sum := "43f366608815a96e43afbaa0d833c481bad33f2ef94569a627c2a02fb818e5b5", func := "quicwire/laws.FnParams", spec := "fnParams", named := ["net/netip.z4", "net/netip.z6noz", "net/netip.z0"], apart := false, laid := [("net/netip.z4", laid_net_netip_z4), ("net/netip.z6noz", laid_net_netip_z6noz), ("net/netip.z0", laid_net_netip_z0)] }
def FnParamsSaid : Prop := fnParamsRow.holds Tryd.pinned (OpenSpec.ofChange fnParamsSpec)

/-- ITS FALSE NEIGHBOUR: 'it returns false'. Refute it at one input. -/
def fnParamsWrong : ChangeSpec := { name := "fnParams", fn := fun _ => fun
  | [d] => { results := [.lit (.bool false)], args := [d] }
  | _ => none }
def FnParamsWrongFalsely : Prop := fnParamsRow.holds Tryd.pinned (OpenSpec.ofChange fnParamsWrong)

/-- 'laws.FnAnyOrderOfParams': WHATEVER THE INPUT: true; the input reads as it did. -/
def fnAnyOrderOfParamsSpec : ChangeSpec := { name := "fnAnyOrderOfParams", fn := fun _ => fun
  | [d1, d2] => { results := [.lit (.bool true)], args := [d1, d2] }
  | _ => none }
def fnAnyOrderOfParamsRow : OpenClaim := { program := "ytdjdcpcomhjnjaadoor", sum := "43f366608815a96e43afbaa0d833c481bad33f2ef94569a627c2a02fb818e5b5", func := "quicwire/laws.FnAnyOrderOfParams", spec := "fnAnyOrderOfParams", unfollowed := true, recurses := true, named := ["net/netip.z4", "net/netip.z6noz", "net/netip.z0"], apart := false, laid := [("net/netip.z4", laid_net_netip_z4), ("net/netip.z6noz", laid_net_netip_z6noz), ("net/netip.z0", laid_net_netip_z0)] }
def FnAnyOrderOfParamsSaid : Prop := fnAnyOrderOfParamsRow.holds Tryd.pinned (OpenSpec.ofChange fnAnyOrderOfParamsSpec)

/-- ITS FALSE NEIGHBOUR: 'it returns false'. Refute it at one input. -/
def fnAnyOrderOfParamsWrong : ChangeSpec := { name := "fnAnyOrderOfParams", fn := fun _ => fun
  | [d1, d2] => { results := [.lit (.bool false)], args := [d1, d2] }
  | _ => none }
def FnAnyOrderOfParamsWrongFalsely : Prop := fnAnyOrderOfParamsRow.holds Tryd.pinned (OpenSpec.ofChange fnAnyOrderOfParamsWrong)

/-- 'laws.FnParamsComeBack': WHATEVER THE INPUT: true; the input reads as it did. -/
def fnParamsComeBackSpec : ChangeSpec := { name := "fnParamsComeBack", fn := fun _ => fun
  | [d] => { results := [.lit (.bool true)], args := [d] }
  | _ => none }
def fnParamsComeBackRow : OpenClaim := { program := "ytdjdcpcomhjnjaadoor", sum := "43f366608815a96e43afbaa0d833c481bad33f2ef94569a627c2a02fb818e5b5", func := "quicwire/laws.FnParamsComeBack", spec := "fnParamsComeBack", named := ["net/netip.z4", "net/netip.z6noz", "net/netip.z0"], apart := false, laid := [("net/netip.z4", laid_net_netip_z4), ("net/netip.z6noz", laid_net_netip_z6noz), ("net/netip.z0", laid_net_netip_z0)] }
def FnParamsComeBackSaid : Prop := fnParamsComeBackRow.holds Tryd.pinned (OpenSpec.ofChange fnParamsComeBackSpec)

/-- ITS FALSE NEIGHBOUR: 'it returns false'. Refute it at one input. -/
def fnParamsComeBackWrong : ChangeSpec := { name := "fnParamsComeBack", fn := fun _ => fun
  | [d] => { results := [.lit (.bool false)], args := [d] }
  | _ => none }
def FnParamsComeBackWrongFalsely : Prop := fnParamsComeBackRow.holds Tryd.pinned (OpenSpec.ofChange fnParamsComeBackWrong)

/-- 'laws.FnParamsAreWritten': WHATEVER THE INPUT: true; the input reads as it did. -/
def fnParamsAreWrittenSpec : ChangeSpec := { name := "fnParamsAreWritten", fn := fun _ => fun
  | [d] => { results := [.lit (.bool true)], args := [d] }
  | _ => none }
def fnParamsAreWrittenRow : OpenClaim := { program := "ytdjdcpcomhjnjaadoor", sum := "43f366608815a96e43afbaa0d833c481bad33f2ef94569a627c2a02fb818e5b5", func := "quicwire/laws.FnParamsAreWritten", spec := "fnParamsAreWritten", named := ["net/netip.z4", "net/netip.z6noz", "net/netip.z0"], apart := false, laid := [("net/netip.z4", laid_net_netip_z4), ("net/netip.z6noz", laid_net_netip_z6noz), ("net/netip.z0", laid_net_netip_z0)] }
def FnParamsAreWrittenSaid : Prop := fnParamsAreWrittenRow.holds Tryd.pinned (OpenSpec.ofChange fnParamsAreWrittenSpec)

/-- ITS FALSE NEIGHBOUR: 'it returns false'. Refute it at one input. -/
def fnParamsAreWrittenWrong : ChangeSpec := { name := "fnParamsAreWritten", fn := fun _ => fun
  | [d] => { results := [.lit (.bool false)], args := [d] }
  | _ => none }
def FnParamsAreWrittenWrongFalsely : Prop := fnParamsAreWrittenRow.holds Tryd.pinned (OpenSpec.ofChange fnParamsAreWrittenWrong)

/- THE SECOND FORM. 'bulk': how many values and letters a reading holds, each counted each time it is reached (what is shared counts as often as it is met; a slice's spare places count too). A statement '..UptoSaid' is the law's where the arguments, and the package variables that the reading takes, are together of bulk at most 1048576: NARROWER than '..Said'. Prove '..Said' where nothing that the law and all that it calls make is longer than what came in: it says more and counts as full. Else prove '..UptoSaid'. A law counts once. -/
mutual
def uptoBulk {H : Type} : DataW H → Nat
  | .lit (.string bytes) => bytes.length + 1
  | .lit _ => 1
  | .nil => 1
  | .ptr d => uptoBulk d + 1
  | .slice elems spare => uptoBulkAll elems + uptoBulkAll spare + 1
  | .agg parts => uptoBulkAll parts + 1
  | .iface _ d => uptoBulk d + 1
  | .map entries => uptoBulkEntries entries + 1
  | .held _ => 1
def uptoBulkAll {H : Type} : List (DataW H) → Nat
  | [] => 0
  | d :: r => uptoBulk d + uptoBulkAll r
def uptoBulkEntries {H : Type} : List (Lit × DataW H) → Nat
  | [] => 0
  | x :: r => uptoBulkEntry x + uptoBulkEntries r
def uptoBulkEntry {H : Type} : Lit × DataW H → Nat
  | (.string bytes, d) => bytes.length + uptoBulk d + 1
  | (_, d) => uptoBulk d + 1
 end
def uptoSmall : (H : Type) → List (DataW H) → Bool := fun _ ds => decide (uptoBulkAll ds ≤ 1048576)
def OpenSpec.upto (s : _root_.Go.ChangeSpec) : _root_.Go.OpenSpec := { _root_.Go.OpenSpec.ofChange s with cond := some uptoSmall }

/-- 'laws.FnParams', WHERE WHAT IT READS IS OF BULK AT MOST 1048576: true; the input reads as it did. -/
def fnParamsUptoRow : OpenClaim := { program := "ytdjdcpcomhjnjaadoor", sum := "43f366608815a96e43afbaa0d833c481bad33f2ef94569a627c2a02fb818e5b5", func := "quicwire/laws.FnParams", spec := "fnParams", named := ["net/netip.z4", "net/netip.z6noz", "net/netip.z0"], apart := false, laid := [("net/netip.z4", laid_net_netip_z4), ("net/netip.z6noz", laid_net_netip_z6noz), ("net/netip.z0", laid_net_netip_z0)], narrowed := true }
def FnParamsUptoSaid : Prop := fnParamsUptoRow.holds Tryd.pinned (OpenSpec.upto fnParamsSpec)

/-- 'laws.FnAnyOrderOfParams', WHERE WHAT IT READS IS OF BULK AT MOST 1048576: true; the input reads as it did. -/
def fnAnyOrderOfParamsUptoRow : OpenClaim := { program := "ytdjdcpcomhjnjaadoor", sum := "43f366608815a96e43afbaa0d833c481bad33f2ef94569a627c2a02fb818e5b5", func := "quicwire/laws.FnAnyOrderOfParams", spec := "fnAnyOrderOfParams", unfollowed := true, recurses := true, named := ["net/netip.z4", "net/netip.z6noz", "net/netip.z0"], apart := false, laid := [("net/netip.z4", laid_net_netip_z4), ("net/netip.z6noz", laid_net_netip_z6noz), ("net/netip.z0", laid_net_netip_z0)], narrowed := true }
def FnAnyOrderOfParamsUptoSaid : Prop := fnAnyOrderOfParamsUptoRow.holds Tryd.pinned (OpenSpec.upto fnAnyOrderOfParamsSpec)

/-- 'laws.FnParamsComeBack', WHERE WHAT IT READS IS OF BULK AT MOST 1048576: true; the input reads as it did. -/
def fnParamsComeBackUptoRow : OpenClaim := { program := "ytdjdcpcomhjnjaadoor", sum := "43f366608815a96e43afbaa0d833c481bad33f2ef94569a627c2a02fb818e5b5", func := "quicwire/laws.FnParamsComeBack", spec := "fnParamsComeBack", named := ["net/netip.z4", "net/netip.z6noz", "net/netip.z0"], apart := false, laid := [("net/netip.z4", laid_net_netip_z4), ("net/netip.z6noz", laid_net_netip_z6noz), ("net/netip.z0", laid_net_netip_z0)], narrowed := true }
def FnParamsComeBackUptoSaid : Prop := fnParamsComeBackUptoRow.holds Tryd.pinned (OpenSpec.upto fnParamsComeBackSpec)

/-- 'laws.FnParamsAreWritten', WHERE WHAT IT READS IS OF BULK AT MOST 1048576: true; the input reads as it did. -/
def fnParamsAreWrittenUptoRow : OpenClaim := { program := "ytdjdcpcomhjnjaadoor", sum := "43f366608815a96e43afbaa0d833c481bad33f2ef94569a627c2a02fb818e5b5", func := "quicwire/laws.FnParamsAreWritten", spec := "fnParamsAreWritten", named := ["net/netip.z4", "net/netip.z6noz", "net/netip.z0"], apart := false, laid := [("net/netip.z4", laid_net_netip_z4), ("net/netip.z6noz", laid_net_netip_z6noz), ("net/netip.z0", laid_net_netip_z0)], narrowed := true }
def FnParamsAreWrittenUptoSaid : Prop := fnParamsAreWrittenUptoRow.holds Tryd.pinned (OpenSpec.upto fnParamsAreWrittenSpec)

end Rows
end Go.Proofs.YtdjdcpcomhjnjaaDoor
