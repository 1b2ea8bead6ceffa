/-
  No cell of these rows narrows 'for every input' (looked for: loops, veiled, ifaces, maps, wideKeys, modest, calm, conditions, laid).
  DERIVED. THE GIVEN ROWS OF THIS SEAT. 12 by the template 'for every input the law returns true; each argument reads behind the call as it read before'; 0 by the template 'total and deterministic' (their statements: YtiehheijkabeeaaTotals.lean).
  GIVEN WITH THE SEED: the statements are not yours to turn. If you find one false, say at which input.
  Laid BY PROGRAM, IN A SANDBOX (cutbox-rows.mjs): the forced cells as the released guide's own fill.sh prints them over the translation 93a99ab7d84f60d5… (all of the seat's roots in one cut). By AI agents, Wed Nov 11 2026. No macro, syntax, notation, axiom, sorry.
-/
import Derived.Test.YtiehheijkabeeaaChecked
import GoSem.Claim
import GoSem.ClaimJoined
import GoSem.ClaimMapViews
import Derived.JoinedTies
import Derived.KernelRfl
namespace Go.Proofs.Ytiehheijkabeeaa
/- THE CELL 'sum', in the pinned program and in every row, IS THE sha256 OF THE DUMP (.gsa) THAT YtiehheijkabeeaaProg.lean LOADS. Nothing in Lean hashes anything: it is a label: what it is worth is what the hold of that sum in a sandbox is worth. -/
noncomputable def Try.pinned : Pinned := { name := "ytiehheijkabeeaa", sum := "93a99ab7d84f60d5c6ec6691a29c36e3c4663b3718f04db09edb12244a398818", checked := Try.checked }
namespace Rows
def none {H : Type} : Left H := { results := [], args := [] }

/-- 'laws.FnNumber': WHATEVER THE INPUT: true; the input reads as it did. -/
def fnNumberSpec : ChangeSpec := { name := "fnNumber", fn := fun _ => fun
  | [d1, d2, d3] => { results := [.lit (.bool true)], args := [d1, d2, d3] }
  | _ => none }
def fnNumberRow : OpenClaim := { program := "ytiehheijkabeeaa", sum := "93a99ab7d84f60d5c6ec6691a29c36e3c4663b3718f04db09edb12244a398818", func := "quicwire/laws.FnNumber", spec := "fnNumber", apart := false }
def FnNumberSaid : Prop := fnNumberRow.holds Try.pinned (OpenSpec.ofChange fnNumberSpec)

/-- ITS FALSE NEIGHBOUR: 'it returns false'. Refute it at one input. -/
def fnNumberWrong : ChangeSpec := { name := "fnNumber", fn := fun _ => fun
  | [d1, d2, d3] => { results := [.lit (.bool false)], args := [d1, d2, d3] }
  | _ => none }
def FnNumberWrongFalsely : Prop := fnNumberRow.holds Try.pinned (OpenSpec.ofChange fnNumberWrong)

/-- 'laws.FnFixed': WHATEVER THE INPUT: true; the input reads as it did. -/
def fnFixedSpec : ChangeSpec := { name := "fnFixed", fn := fun _ => fun
  | [d] => { results := [.lit (.bool true)], args := [d] }
  | _ => none }
def fnFixedRow : OpenClaim := { program := "ytiehheijkabeeaa", sum := "93a99ab7d84f60d5c6ec6691a29c36e3c4663b3718f04db09edb12244a398818", func := "quicwire/laws.FnFixed", spec := "fnFixed", apart := false }
def FnFixedSaid : Prop := fnFixedRow.holds Try.pinned (OpenSpec.ofChange fnFixedSpec)

/-- ITS FALSE NEIGHBOUR: 'it returns false'. Refute it at one input. -/
def fnFixedWrong : ChangeSpec := { name := "fnFixed", fn := fun _ => fun
  | [d] => { results := [.lit (.bool false)], args := [d] }
  | _ => none }
def FnFixedWrongFalsely : Prop := fnFixedRow.holds Try.pinned (OpenSpec.ofChange fnFixedWrong)

/-- 'laws.FnReadVarint': WHATEVER THE INPUT: true; the input reads as it did. -/
def fnReadVarintSpec : ChangeSpec := { name := "fnReadVarint", fn := fun _ => fun
  | [d] => { results := [.lit (.bool true)], args := [d] }
  | _ => none }
def fnReadVarintRow : OpenClaim := { program := "ytiehheijkabeeaa", sum := "93a99ab7d84f60d5c6ec6691a29c36e3c4663b3718f04db09edb12244a398818", func := "quicwire/laws.FnReadVarint", spec := "fnReadVarint", apart := false }
def FnReadVarintSaid : Prop := fnReadVarintRow.holds Try.pinned (OpenSpec.ofChange fnReadVarintSpec)

/-- ITS FALSE NEIGHBOUR: 'it returns false'. Refute it at one input. -/
def fnReadVarintWrong : ChangeSpec := { name := "fnReadVarint", fn := fun _ => fun
  | [d] => { results := [.lit (.bool false)], args := [d] }
  | _ => none }
def FnReadVarintWrongFalsely : Prop := fnReadVarintRow.holds Try.pinned (OpenSpec.ofChange fnReadVarintWrong)

/-- 'laws.FnNumberLength': WHATEVER THE INPUT: true; the input reads as it did. -/
def fnNumberLengthSpec : ChangeSpec := { name := "fnNumberLength", fn := fun _ => fun
  | [d1, d2] => { results := [.lit (.bool true)], args := [d1, d2] }
  | _ => none }
def fnNumberLengthRow : OpenClaim := { program := "ytiehheijkabeeaa", sum := "93a99ab7d84f60d5c6ec6691a29c36e3c4663b3718f04db09edb12244a398818", func := "quicwire/laws.FnNumberLength", spec := "fnNumberLength", apart := false }
def FnNumberLengthSaid : Prop := fnNumberLengthRow.holds Try.pinned (OpenSpec.ofChange fnNumberLengthSpec)

/-- ITS FALSE NEIGHBOUR: 'it returns false'. Refute it at one input. -/
def fnNumberLengthWrong : ChangeSpec := { name := "fnNumberLength", fn := fun _ => fun
  | [d1, d2] => { results := [.lit (.bool false)], args := [d1, d2] }
  | _ => none }
def FnNumberLengthWrongFalsely : Prop := fnNumberLengthRow.holds Try.pinned (OpenSpec.ofChange fnNumberLengthWrong)

/-- 'laws.FnVarint': WHATEVER THE INPUT: true; the input reads as it did. -/
def fnVarintSpec : ChangeSpec := { name := "fnVarint", fn := fun _ => fun
  | [d] => { results := [.lit (.bool true)], args := [d] }
  | _ => none }
def fnVarintRow : OpenClaim := { program := "ytiehheijkabeeaa", sum := "93a99ab7d84f60d5c6ec6691a29c36e3c4663b3718f04db09edb12244a398818", func := "quicwire/laws.FnVarint", spec := "fnVarint", apart := false }
def FnVarintSaid : Prop := fnVarintRow.holds Try.pinned (OpenSpec.ofChange fnVarintSpec)

/-- ITS FALSE NEIGHBOUR: 'it returns false'. Refute it at one input. -/
def fnVarintWrong : ChangeSpec := { name := "fnVarint", fn := fun _ => fun
  | [d] => { results := [.lit (.bool false)], args := [d] }
  | _ => none }
def FnVarintWrongFalsely : Prop := fnVarintRow.holds Try.pinned (OpenSpec.ofChange fnVarintWrong)

/-- 'laws.FnCutVarintIsTold': WHATEVER THE INPUT: true; the input reads as it did. -/
def fnCutVarintIsToldSpec : ChangeSpec := { name := "fnCutVarintIsTold", fn := fun _ => fun
  | [d1, d2] => { results := [.lit (.bool true)], args := [d1, d2] }
  | _ => none }
def fnCutVarintIsToldRow : OpenClaim := { program := "ytiehheijkabeeaa", sum := "93a99ab7d84f60d5c6ec6691a29c36e3c4663b3718f04db09edb12244a398818", func := "quicwire/laws.FnCutVarintIsTold", spec := "fnCutVarintIsTold", apart := false }
def FnCutVarintIsToldSaid : Prop := fnCutVarintIsToldRow.holds Try.pinned (OpenSpec.ofChange fnCutVarintIsToldSpec)

/-- ITS FALSE NEIGHBOUR: 'it returns false'. Refute it at one input. -/
def fnCutVarintIsToldWrong : ChangeSpec := { name := "fnCutVarintIsTold", fn := fun _ => fun
  | [d1, d2] => { results := [.lit (.bool false)], args := [d1, d2] }
  | _ => none }
def FnCutVarintIsToldWrongFalsely : Prop := fnCutVarintIsToldRow.holds Try.pinned (OpenSpec.ofChange fnCutVarintIsToldWrong)

/-- 'laws.FnNumberComesBack': WHATEVER THE INPUT: true; the input reads as it did. -/
def fnNumberComesBackSpec : ChangeSpec := { name := "fnNumberComesBack", fn := fun _ => fun
  | [d1, d2, d3] => { results := [.lit (.bool true)], args := [d1, d2, d3] }
  | _ => none }
def fnNumberComesBackRow : OpenClaim := { program := "ytiehheijkabeeaa", sum := "93a99ab7d84f60d5c6ec6691a29c36e3c4663b3718f04db09edb12244a398818", func := "quicwire/laws.FnNumberComesBack", spec := "fnNumberComesBack", apart := false }
def FnNumberComesBackSaid : Prop := fnNumberComesBackRow.holds Try.pinned (OpenSpec.ofChange fnNumberComesBackSpec)

/-- ITS FALSE NEIGHBOUR: 'it returns false'. Refute it at one input. -/
def fnNumberComesBackWrong : ChangeSpec := { name := "fnNumberComesBack", fn := fun _ => fun
  | [d1, d2, d3] => { results := [.lit (.bool false)], args := [d1, d2, d3] }
  | _ => none }
def FnNumberComesBackWrongFalsely : Prop := fnNumberComesBackRow.holds Try.pinned (OpenSpec.ofChange fnNumberComesBackWrong)

/-- 'laws.FnReadBytes': WHATEVER THE INPUT: true; the input reads as it did. -/
def fnReadBytesSpec : ChangeSpec := { name := "fnReadBytes", fn := fun _ => fun
  | [d] => { results := [.lit (.bool true)], args := [d] }
  | _ => none }
def fnReadBytesRow : OpenClaim := { program := "ytiehheijkabeeaa", sum := "93a99ab7d84f60d5c6ec6691a29c36e3c4663b3718f04db09edb12244a398818", func := "quicwire/laws.FnReadBytes", spec := "fnReadBytes", apart := false }
def FnReadBytesSaid : Prop := fnReadBytesRow.holds Try.pinned (OpenSpec.ofChange fnReadBytesSpec)

/-- ITS FALSE NEIGHBOUR: 'it returns false'. Refute it at one input. -/
def fnReadBytesWrong : ChangeSpec := { name := "fnReadBytes", fn := fun _ => fun
  | [d] => { results := [.lit (.bool false)], args := [d] }
  | _ => none }
def FnReadBytesWrongFalsely : Prop := fnReadBytesRow.holds Try.pinned (OpenSpec.ofChange fnReadBytesWrong)

/-- 'laws.FnVarintComesBack': WHATEVER THE INPUT: true; the input reads as it did. -/
def fnVarintComesBackSpec : ChangeSpec := { name := "fnVarintComesBack", fn := fun _ => fun
  | [d1, d2] => { results := [.lit (.bool true)], args := [d1, d2] }
  | _ => none }
def fnVarintComesBackRow : OpenClaim := { program := "ytiehheijkabeeaa", sum := "93a99ab7d84f60d5c6ec6691a29c36e3c4663b3718f04db09edb12244a398818", func := "quicwire/laws.FnVarintComesBack", spec := "fnVarintComesBack", apart := false }
def FnVarintComesBackSaid : Prop := fnVarintComesBackRow.holds Try.pinned (OpenSpec.ofChange fnVarintComesBackSpec)

/-- ITS FALSE NEIGHBOUR: 'it returns false'. Refute it at one input. -/
def fnVarintComesBackWrong : ChangeSpec := { name := "fnVarintComesBack", fn := fun _ => fun
  | [d1, d2] => { results := [.lit (.bool false)], args := [d1, d2] }
  | _ => none }
def FnVarintComesBackWrongFalsely : Prop := fnVarintComesBackRow.holds Try.pinned (OpenSpec.ofChange fnVarintComesBackWrong)

/-- 'laws.FnBytes': WHATEVER THE INPUT: true; the input reads as it did. -/
def fnBytesSpec : ChangeSpec := { name := "fnBytes", fn := fun _ => fun
  | [d1, d2] => { results := [.lit (.bool true)], args := [d1, d2] }
  | _ => none }
def fnBytesRow : OpenClaim := { program := "ytiehheijkabeeaa", sum := "93a99ab7d84f60d5c6ec6691a29c36e3c4663b3718f04db09edb12244a398818", func := "quicwire/laws.FnBytes", spec := "fnBytes", apart := false }
def FnBytesSaid : Prop := fnBytesRow.holds Try.pinned (OpenSpec.ofChange fnBytesSpec)

/-- ITS FALSE NEIGHBOUR: 'it returns false'. Refute it at one input. -/
def fnBytesWrong : ChangeSpec := { name := "fnBytes", fn := fun _ => fun
  | [d1, d2] => { results := [.lit (.bool false)], args := [d1, d2] }
  | _ => none }
def FnBytesWrongFalsely : Prop := fnBytesRow.holds Try.pinned (OpenSpec.ofChange fnBytesWrong)

/-- 'laws.FnStreamID': WHATEVER THE INPUT: true; the input reads as it did. -/
def fnStreamIDSpec : ChangeSpec := { name := "fnStreamID", fn := fun _ => fun
  | [d1, d2, d3] => { results := [.lit (.bool true)], args := [d1, d2, d3] }
  | _ => none }
def fnStreamIDRow : OpenClaim := { program := "ytiehheijkabeeaa", sum := "93a99ab7d84f60d5c6ec6691a29c36e3c4663b3718f04db09edb12244a398818", func := "quicwire/laws.FnStreamID", spec := "fnStreamID", apart := false }
def FnStreamIDSaid : Prop := fnStreamIDRow.holds Try.pinned (OpenSpec.ofChange fnStreamIDSpec)

/-- ITS FALSE NEIGHBOUR: 'it returns false'. Refute it at one input. -/
def fnStreamIDWrong : ChangeSpec := { name := "fnStreamID", fn := fun _ => fun
  | [d1, d2, d3] => { results := [.lit (.bool false)], args := [d1, d2, d3] }
  | _ => none }
def FnStreamIDWrongFalsely : Prop := fnStreamIDRow.holds Try.pinned (OpenSpec.ofChange fnStreamIDWrong)

/-- 'laws.FnPacketType': WHATEVER THE INPUT: true; the input reads as it did. -/
def fnPacketTypeSpec : ChangeSpec := { name := "fnPacketType", fn := fun _ => fun
  | [d] => { results := [.lit (.bool true)], args := [d] }
  | _ => none }
def fnPacketTypeRow : OpenClaim := { program := "ytiehheijkabeeaa", sum := "93a99ab7d84f60d5c6ec6691a29c36e3c4663b3718f04db09edb12244a398818", func := "quicwire/laws.FnPacketType", spec := "fnPacketType", apart := false }
def FnPacketTypeSaid : Prop := fnPacketTypeRow.holds Try.pinned (OpenSpec.ofChange fnPacketTypeSpec)

/-- ITS FALSE NEIGHBOUR: 'it returns false'. Refute it at one input. -/
def fnPacketTypeWrong : ChangeSpec := { name := "fnPacketType", fn := fun _ => fun
  | [d] => { results := [.lit (.bool false)], args := [d] }
  | _ => none }
def FnPacketTypeWrongFalsely : Prop := fnPacketTypeRow.holds Try.pinned (OpenSpec.ofChange fnPacketTypeWrong)

/- THE SECOND FORM. 'bulk': how many values and letters a reading holds, each counted each time it is reached (what is shared counts as often as it is met; a slice's spare places count too). A statement '..UptoSaid' is the law's where the arguments, and the package variables that the reading takes, are together of bulk at most 1048576: NARROWER than '..Said'. Prove '..Said' where nothing that the law and all that it calls make is longer than what came in: it says more and counts as full. Else prove '..UptoSaid'. A law counts once. -/
mutual
def uptoBulk {H : Type} : DataW H → Nat
  | .lit (.string bytes) => bytes.length + 1
  | .lit _ => 1
  | .nil => 1
  | .ptr d => uptoBulk d + 1
  | .slice elems spare => uptoBulkAll elems + uptoBulkAll spare + 1
  | .agg parts => uptoBulkAll parts + 1
  | .iface _ d => uptoBulk d + 1
  | .map entries => uptoBulkEntries entries + 1
  | .held _ => 1
def uptoBulkAll {H : Type} : List (DataW H) → Nat
  | [] => 0
  | d :: r => uptoBulk d + uptoBulkAll r
def uptoBulkEntries {H : Type} : List (Lit × DataW H) → Nat
  | [] => 0
  | x :: r => uptoBulkEntry x + uptoBulkEntries r
def uptoBulkEntry {H : Type} : Lit × DataW H → Nat
  | (.string bytes, d) => bytes.length + uptoBulk d + 1
  | (_, d) => uptoBulk d + 1
 end
def uptoSmall : (H : Type) → List (DataW H) → Bool := fun _ ds => decide (uptoBulkAll ds ≤ 1048576)
def OpenSpec.upto (s : _root_.Go.ChangeSpec) : _root_.Go.OpenSpec := { _root_.Go.OpenSpec.ofChange s with cond := some uptoSmall }

/-- 'laws.FnNumber', WHERE WHAT IT READS IS OF BULK AT MOST 1048576: true; the input reads as it did. -/
def fnNumberUptoRow : OpenClaim := { program := "ytiehheijkabeeaa", sum := "93a99ab7d84f60d5c6ec6691a29c36e3c4663b3718f04db09edb12244a398818", func := "quicwire/laws.FnNumber", spec := "fnNumber", apart := false, narrowed := true }
def FnNumberUptoSaid : Prop := fnNumberUptoRow.holds Try.pinned (OpenSpec.upto fnNumberSpec)

/-- 'laws.FnFixed', WHERE WHAT IT READS IS OF BULK AT MOST 1048576: true; the input reads as it did. -/
def fnFixedUptoRow : OpenClaim := { program := "ytiehheijkabeeaa", sum := "93a99ab7d84f60d5c6ec6691a29c36e3c4663b3718f04db09edb12244a398818", func := "quicwire/laws.FnFixed", spec := "fnFixed", apart := false, narrowed := true }
def FnFixedUptoSaid : Prop := fnFixedUptoRow.holds Try.pinned (OpenSpec.upto fnFixedSpec)

/-- 'laws.FnReadVarint', WHERE WHAT IT READS IS OF BULK AT MOST 1048576: true; the input reads as it did. -/
def fnReadVarintUptoRow : OpenClaim := { program := "ytiehheijkabeeaa", sum := "93a99ab7d84f60d5c6ec6691a29c36e3c4663b3718f04db09edb12244a398818", func := "quicwire/laws.FnReadVarint", spec := "fnReadVarint", apart := false, narrowed := true }
def FnReadVarintUptoSaid : Prop := fnReadVarintUptoRow.holds Try.pinned (OpenSpec.upto fnReadVarintSpec)

/-- 'laws.FnNumberLength', WHERE WHAT IT READS IS OF BULK AT MOST 1048576: true; the input reads as it did. -/
def fnNumberLengthUptoRow : OpenClaim := { program := "ytiehheijkabeeaa", sum := "93a99ab7d84f60d5c6ec6691a29c36e3c4663b3718f04db09edb12244a398818", func := "quicwire/laws.FnNumberLength", spec := "fnNumberLength", apart := false, narrowed := true }
def FnNumberLengthUptoSaid : Prop := fnNumberLengthUptoRow.holds Try.pinned (OpenSpec.upto fnNumberLengthSpec)

/-- 'laws.FnVarint', WHERE WHAT IT READS IS OF BULK AT MOST 1048576: true; the input reads as it did. -/
def fnVarintUptoRow : OpenClaim := { program := "ytiehheijkabeeaa", sum := "93a99ab7d84f60d5c6ec6691a29c36e3c4663b3718f04db09edb12244a398818", func := "quicwire/laws.FnVarint", spec := "fnVarint", apart := false, narrowed := true }
def FnVarintUptoSaid : Prop := fnVarintUptoRow.holds Try.pinned (OpenSpec.upto fnVarintSpec)

/-- 'laws.FnCutVarintIsTold', WHERE WHAT IT READS IS OF BULK AT MOST 1048576: true; the input reads as it did. -/
def fnCutVarintIsToldUptoRow : OpenClaim := { program := "ytiehheijkabeeaa", sum := "93a99ab7d84f60d5c6ec6691a29c36e3c4663b3718f04db09edb12244a398818", func := "quicwire/laws.FnCutVarintIsTold", spec := "fnCutVarintIsTold", apart := false, narrowed := true }
def FnCutVarintIsToldUptoSaid : Prop := fnCutVarintIsToldUptoRow.holds Try.pinned (OpenSpec.upto fnCutVarintIsToldSpec)

/-- 'laws.FnNumberComesBack', WHERE WHAT IT READS IS OF BULK AT MOST 1048576: true; the input reads as it did. -/
def fnNumberComesBackUptoRow : OpenClaim := { program := "ytiehheijkabeeaa", sum := "93a99ab7d84f60d5c6ec6691a29c36e3c4663b3718f04db09edb12244a398818", func := "quicwire/laws.FnNumberComesBack", spec := "fnNumberComesBack", apart := false, narrowed := true }
def FnNumberComesBackUptoSaid : Prop := fnNumberComesBackUptoRow.holds Try.pinned (OpenSpec.upto fnNumberComesBackSpec)

/-- 'laws.FnReadBytes', WHERE WHAT IT READS IS OF BULK AT MOST 1048576: true; the input reads as it did. -/
def fnReadBytesUptoRow : OpenClaim := { program := "ytiehheijkabeeaa", sum := "93a99ab7d84f60d5c6ec6691a29c36e3c4663b3718f04db09edb12244a398818", func := "quicwire/laws.FnReadBytes", spec := "fnReadBytes", apart := false, narrowed := true }
def FnReadBytesUptoSaid : Prop := fnReadBytesUptoRow.holds Try.pinned (OpenSpec.upto fnReadBytesSpec)

/-- 'laws.FnVarintComesBack', WHERE WHAT IT READS IS OF BULK AT MOST 1048576: true; the input reads as it did. -/
def fnVarintComesBackUptoRow : OpenClaim := { program := "ytiehheijkabeeaa", sum := "93a99ab7d84f60d5c6ec6691a29c36e3c4663b3718f04db09edb12244a398818", func := "quicwire/laws.FnVarintComesBack", spec := "fnVarintComesBack", apart := false, narrowed := true }
def FnVarintComesBackUptoSaid : Prop := fnVarintComesBackUptoRow.holds Try.pinned (OpenSpec.upto fnVarintComesBackSpec)

/-- 'laws.FnBytes', WHERE WHAT IT READS IS OF BULK AT MOST 1048576: true; the input reads as it did. -/
def fnBytesUptoRow : OpenClaim := { program := "ytiehheijkabeeaa", sum := "93a99ab7d84f60d5c6ec6691a29c36e3c4663b3718f04db09edb12244a398818", func := "quicwire/laws.FnBytes", spec := "fnBytes", apart := false, narrowed := true }
def FnBytesUptoSaid : Prop := fnBytesUptoRow.holds Try.pinned (OpenSpec.upto fnBytesSpec)

/-- 'laws.FnStreamID', WHERE WHAT IT READS IS OF BULK AT MOST 1048576: true; the input reads as it did. -/
def fnStreamIDUptoRow : OpenClaim := { program := "ytiehheijkabeeaa", sum := "93a99ab7d84f60d5c6ec6691a29c36e3c4663b3718f04db09edb12244a398818", func := "quicwire/laws.FnStreamID", spec := "fnStreamID", apart := false, narrowed := true }
def FnStreamIDUptoSaid : Prop := fnStreamIDUptoRow.holds Try.pinned (OpenSpec.upto fnStreamIDSpec)

/-- 'laws.FnPacketType', WHERE WHAT IT READS IS OF BULK AT MOST 1048576: true; the input reads as it did. -/
def fnPacketTypeUptoRow : OpenClaim := { program := "ytiehheijkabeeaa", sum := "93a99ab7d84f60d5c6ec6691a29c36e3c4663b3718f04db09edb12244a398818", func := "quicwire/laws.FnPacketType", spec := "fnPacketType", apart := false, narrowed := true }
def FnPacketTypeUptoSaid : Prop := fnPacketTypeUptoRow.holds Try.pinned (OpenSpec.upto fnPacketTypeSpec)

end Rows
end Go.Proofs.Ytiehheijkabeeaa
