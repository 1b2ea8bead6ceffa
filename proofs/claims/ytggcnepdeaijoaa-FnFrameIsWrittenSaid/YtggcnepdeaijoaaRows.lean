/-
  No cell of these rows narrows 'for every input' (looked for: loops, veiled, ifaces, maps, wideKeys, modest, calm, conditions, laid).
  DERIVED. THE GIVEN ROWS OF THIS SEAT. 3 by the template 'for every input the law returns true; each argument reads behind the call as it read before'; 0 by the template 'total and deterministic' (their statements: YtggcnepdeaijoaaTotals.lean).
  GIVEN WITH THE SEED: the statements are not yours to turn. If you find one false, say at which input.
  Laid BY PROGRAM, IN A SANDBOX (cutbox-rows.mjs): the forced cells as the released guide's own fill.sh prints them over the translation 20d67b7dde0f2de4… (all of the seat's roots in one cut). By AI agents, Wed Nov 11 2026. No macro, syntax, notation, axiom, sorry.
-/
import Derived.Test.YtggcnepdeaijoaaChecked
import GoSem.Claim
import GoSem.ClaimJoined
import GoSem.ClaimMapViews
import Derived.JoinedTies
import Derived.KernelRfl
namespace Go.Proofs.Ytggcnepdeaijoaa
/- THE CELL 'sum', in the pinned program and in every row, IS THE sha256 OF THE DUMP (.gsa) THAT YtggcnepdeaijoaaProg.lean LOADS. Nothing in Lean hashes anything: it is a label: what it is worth is what the hold of that sum in a sandbox is worth. -/
noncomputable def Try.pinned : Pinned := { name := "ytggcnepdeaijoaa", sum := "20d67b7dde0f2de44b66366e92adb43f942a1724c120b81acecb84a8e81ce5c8", checked := Try.checked }
namespace Rows
def none {H : Type} : Left H := { results := [], args := [] }

/-- 'laws.FnFrame': WHATEVER THE INPUT: true; the input reads as it did. -/
def fnFrameSpec : ChangeSpec := { name := "fnFrame", fn := fun _ => fun
  | [d] => { results := [.lit (.bool true)], args := [d] }
  | _ => none }
def fnFrameRow : OpenClaim := { program := "ytggcnepdeaijoaa", sum := "20d67b7dde0f2de44b66366e92adb43f942a1724c120b81acecb84a8e81ce5c8", func := "quicwire/laws.FnFrame", spec := "fnFrame", unfollowed := true, recurses := true, apart := false }
def FnFrameSaid : Prop := fnFrameRow.holds Try.pinned (OpenSpec.ofChange fnFrameSpec)

/-- ITS FALSE NEIGHBOUR: 'it returns false'. Refute it at one input. -/
def fnFrameWrong : ChangeSpec := { name := "fnFrame", fn := fun _ => fun
  | [d] => { results := [.lit (.bool false)], args := [d] }
  | _ => none }
def FnFrameWrongFalsely : Prop := fnFrameRow.holds Try.pinned (OpenSpec.ofChange fnFrameWrong)

/-- 'laws.FnFrameIsWritten': WHATEVER THE INPUT: true; the input reads as it did. -/
def fnFrameIsWrittenSpec : ChangeSpec := { name := "fnFrameIsWritten", fn := fun _ => fun
  | [d] => { results := [.lit (.bool true)], args := [d] }
  | _ => none }
def fnFrameIsWrittenRow : OpenClaim := { program := "ytggcnepdeaijoaa", sum := "20d67b7dde0f2de44b66366e92adb43f942a1724c120b81acecb84a8e81ce5c8", func := "quicwire/laws.FnFrameIsWritten", spec := "fnFrameIsWritten", unfollowed := true, recurses := true, apart := false }
def FnFrameIsWrittenSaid : Prop := fnFrameIsWrittenRow.holds Try.pinned (OpenSpec.ofChange fnFrameIsWrittenSpec)

/-- ITS FALSE NEIGHBOUR: 'it returns false'. Refute it at one input. -/
def fnFrameIsWrittenWrong : ChangeSpec := { name := "fnFrameIsWritten", fn := fun _ => fun
  | [d] => { results := [.lit (.bool false)], args := [d] }
  | _ => none }
def FnFrameIsWrittenWrongFalsely : Prop := fnFrameIsWrittenRow.holds Try.pinned (OpenSpec.ofChange fnFrameIsWrittenWrong)

/-- 'laws.FnFrameComesBack': WHATEVER THE INPUT: true; the input reads as it did. -/
def fnFrameComesBackSpec : ChangeSpec := { name := "fnFrameComesBack", fn := fun _ => fun
  | [d] => { results := [.lit (.bool true)], args := [d] }
  | _ => none }
def fnFrameComesBackRow : OpenClaim := { program := "ytggcnepdeaijoaa", sum := "20d67b7dde0f2de44b66366e92adb43f942a1724c120b81acecb84a8e81ce5c8", func := "quicwire/laws.FnFrameComesBack", spec := "fnFrameComesBack", unfollowed := true, recurses := true, apart := false }
def FnFrameComesBackSaid : Prop := fnFrameComesBackRow.holds Try.pinned (OpenSpec.ofChange fnFrameComesBackSpec)

/-- ITS FALSE NEIGHBOUR: 'it returns false'. Refute it at one input. -/
def fnFrameComesBackWrong : ChangeSpec := { name := "fnFrameComesBack", fn := fun _ => fun
  | [d] => { results := [.lit (.bool false)], args := [d] }
  | _ => none }
def FnFrameComesBackWrongFalsely : Prop := fnFrameComesBackRow.holds Try.pinned (OpenSpec.ofChange fnFrameComesBackWrong)

/- THE SECOND FORM. 'bulk': how many values and letters a reading holds, each counted each time it is reached (what is shared counts as often as it is met; a slice's spare places count too). A statement '..UptoSaid' is the law's where the arguments, and the package variables that the reading takes, are together of bulk at most 1048576: NARROWER than '..Said'. Prove '..Said' where nothing that the law and all that it calls make is longer than what came in: it says more and counts as full. Else prove '..UptoSaid'. A law counts once. -/
mutual
def uptoBulk {H : Type} : DataW H → Nat
  | .lit (.string bytes) => bytes.length + 1
  | .lit _ => 1
  | .nil => 1
  | .ptr d => uptoBulk d + 1
  | .slice elems spare => uptoBulkAll elems + uptoBulkAll spare + 1
  | .agg parts => uptoBulkAll parts + 1
  | .iface _ d => uptoBulk d + 1
  | .map entries => uptoBulkEntries entries + 1
  | .held _ => 1
def uptoBulkAll {H : Type} : List (DataW H) → Nat
  | [] => 0
  | d :: r => uptoBulk d + uptoBulkAll r
def uptoBulkEntries {H : Type} : List (Lit × DataW H) → Nat
  | [] => 0
  | x :: r => uptoBulkEntry x + uptoBulkEntries r
def uptoBulkEntry {H : Type} : Lit × DataW H → Nat
  | (.string bytes, d) => bytes.length + uptoBulk d + 1
  | (_, d) => uptoBulk d + 1
 end
def uptoSmall : (H : Type) → List (DataW H) → Bool := fun _ ds => decide (uptoBulkAll ds ≤ 1048576)
def OpenSpec.upto (s : _root_.Go.ChangeSpec) : _root_.Go.OpenSpec := { _root_.Go.OpenSpec.ofChange s with cond := some uptoSmall }

/-- 'laws.FnFrame', WHERE WHAT IT READS IS OF BULK AT MOST 1048576: true; the input reads as it did. -/
def fnFrameUptoRow : OpenClaim := { program := "ytggcnepdeaijoaa", sum := "20d67b7dde0f2de44b66366e92adb43f942a1724c120b81acecb84a8e81ce5c8", func := "quicwire/laws.FnFrame", spec := "fnFrame", unfollowed := true, recurses := true, apart := false, narrowed := true }
def FnFrameUptoSaid : Prop := fnFrameUptoRow.holds Try.pinned (OpenSpec.upto fnFrameSpec)

/-- 'laws.FnFrameIsWritten', WHERE WHAT IT READS IS OF BULK AT MOST 1048576: true; the input reads as it did. -/
def fnFrameIsWrittenUptoRow : OpenClaim := { program := "ytggcnepdeaijoaa", sum := "20d67b7dde0f2de44b66366e92adb43f942a1724c120b81acecb84a8e81ce5c8", func := "quicwire/laws.FnFrameIsWritten", spec := "fnFrameIsWritten", unfollowed := true, recurses := true, apart := false, narrowed := true }
def FnFrameIsWrittenUptoSaid : Prop := fnFrameIsWrittenUptoRow.holds Try.pinned (OpenSpec.upto fnFrameIsWrittenSpec)

/-- 'laws.FnFrameComesBack', WHERE WHAT IT READS IS OF BULK AT MOST 1048576: true; the input reads as it did. -/
def fnFrameComesBackUptoRow : OpenClaim := { program := "ytggcnepdeaijoaa", sum := "20d67b7dde0f2de44b66366e92adb43f942a1724c120b81acecb84a8e81ce5c8", func := "quicwire/laws.FnFrameComesBack", spec := "fnFrameComesBack", unfollowed := true, recurses := true, apart := false, narrowed := true }
def FnFrameComesBackUptoSaid : Prop := fnFrameComesBackUptoRow.holds Try.pinned (OpenSpec.upto fnFrameComesBackSpec)

end Rows
end Go.Proofs.Ytggcnepdeaijoaa
