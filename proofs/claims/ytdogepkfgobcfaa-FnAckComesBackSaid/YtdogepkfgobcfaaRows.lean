/-
  No cell of these rows narrows 'for every input' (looked for: loops, veiled, ifaces, maps, wideKeys, modest, calm, conditions, laid).
  DERIVED. THE GIVEN ROWS OF THIS SEAT. 11 by the template 'for every input the law returns true; each argument reads behind the call as it read before'; 0 by the template 'total and deterministic' (their statements: YtdogepkfgobcfaaTotals.lean).
  GIVEN WITH THE SEED: the statements are not yours to turn. If you find one false, say at which input.
  Laid BY PROGRAM, IN A SANDBOX (cutbox-rows.mjs): the forced cells as the released guide's own fill.sh prints them over the translation a91a4e84d013b0fd… (all of the seat's roots in one cut). By AI agents, Wed Nov 11 2026. No macro, syntax, notation, axiom, sorry.
-/
import Derived.Test.YtdogepkfgobcfaaChecked
import GoSem.Claim
import GoSem.ClaimJoined
import GoSem.ClaimMapViews
import Derived.JoinedTies
import Derived.KernelRfl
namespace Go.Proofs.Ytdogepkfgobcfaa
/- THE CELL 'sum', in the pinned program and in every row, IS THE sha256 OF THE DUMP (.gsa) THAT YtdogepkfgobcfaaProg.lean LOADS. Nothing in Lean hashes anything: it is a label: what it is worth is what the hold of that sum in a sandbox is worth. -/
noncomputable def Try.pinned : Pinned := { name := "ytdogepkfgobcfaa", sum := "a91a4e84d013b0fdf54d89ab7937c32750a01d9dbbc0364530e940471d54a57c", checked := Try.checked }
namespace Rows
def none {H : Type} : Left H := { results := [], args := [] }

/-- 'laws.FnDestination': WHATEVER THE INPUT: true; the input reads as it did. -/
def fnDestinationSpec : ChangeSpec := { name := "fnDestination", fn := fun _ => fun
  | [d] => { results := [.lit (.bool true)], args := [d] }
  | _ => none }
def fnDestinationRow : OpenClaim := { program := "ytdogepkfgobcfaa", sum := "a91a4e84d013b0fdf54d89ab7937c32750a01d9dbbc0364530e940471d54a57c", func := "quicwire/laws.FnDestination", spec := "fnDestination", apart := false }
def FnDestinationSaid : Prop := fnDestinationRow.holds Try.pinned (OpenSpec.ofChange fnDestinationSpec)

/-- ITS FALSE NEIGHBOUR: 'it returns false'. Refute it at one input. -/
def fnDestinationWrong : ChangeSpec := { name := "fnDestination", fn := fun _ => fun
  | [d] => { results := [.lit (.bool false)], args := [d] }
  | _ => none }
def FnDestinationWrongFalsely : Prop := fnDestinationRow.holds Try.pinned (OpenSpec.ofChange fnDestinationWrong)

/-- 'laws.FnLong': WHATEVER THE INPUT: true; the input reads as it did. -/
def fnLongSpec : ChangeSpec := { name := "fnLong", fn := fun _ => fun
  | [d] => { results := [.lit (.bool true)], args := [d] }
  | _ => none }
def fnLongRow : OpenClaim := { program := "ytdogepkfgobcfaa", sum := "a91a4e84d013b0fdf54d89ab7937c32750a01d9dbbc0364530e940471d54a57c", func := "quicwire/laws.FnLong", spec := "fnLong", apart := false }
def FnLongSaid : Prop := fnLongRow.holds Try.pinned (OpenSpec.ofChange fnLongSpec)

/-- ITS FALSE NEIGHBOUR: 'it returns false'. Refute it at one input. -/
def fnLongWrong : ChangeSpec := { name := "fnLong", fn := fun _ => fun
  | [d] => { results := [.lit (.bool false)], args := [d] }
  | _ => none }
def FnLongWrongFalsely : Prop := fnLongRow.holds Try.pinned (OpenSpec.ofChange fnLongWrong)

/-- 'laws.FnSkip': WHATEVER THE INPUT: true; the input reads as it did. -/
def fnSkipSpec : ChangeSpec := { name := "fnSkip", fn := fun _ => fun
  | [d] => { results := [.lit (.bool true)], args := [d] }
  | _ => none }
def fnSkipRow : OpenClaim := { program := "ytdogepkfgobcfaa", sum := "a91a4e84d013b0fdf54d89ab7937c32750a01d9dbbc0364530e940471d54a57c", func := "quicwire/laws.FnSkip", spec := "fnSkip", apart := false }
def FnSkipSaid : Prop := fnSkipRow.holds Try.pinned (OpenSpec.ofChange fnSkipSpec)

/-- ITS FALSE NEIGHBOUR: 'it returns false'. Refute it at one input. -/
def fnSkipWrong : ChangeSpec := { name := "fnSkip", fn := fun _ => fun
  | [d] => { results := [.lit (.bool false)], args := [d] }
  | _ => none }
def FnSkipWrongFalsely : Prop := fnSkipRow.holds Try.pinned (OpenSpec.ofChange fnSkipWrong)

/-- 'laws.FnVersions': WHATEVER THE INPUT: true; the input reads as it did. -/
def fnVersionsSpec : ChangeSpec := { name := "fnVersions", fn := fun _ => fun
  | [d1, d2, d3] => { results := [.lit (.bool true)], args := [d1, d2, d3] }
  | _ => none }
def fnVersionsRow : OpenClaim := { program := "ytdogepkfgobcfaa", sum := "a91a4e84d013b0fdf54d89ab7937c32750a01d9dbbc0364530e940471d54a57c", func := "quicwire/laws.FnVersions", spec := "fnVersions", apart := false }
def FnVersionsSaid : Prop := fnVersionsRow.holds Try.pinned (OpenSpec.ofChange fnVersionsSpec)

/-- ITS FALSE NEIGHBOUR: 'it returns false'. Refute it at one input. -/
def fnVersionsWrong : ChangeSpec := { name := "fnVersions", fn := fun _ => fun
  | [d1, d2, d3] => { results := [.lit (.bool false)], args := [d1, d2, d3] }
  | _ => none }
def FnVersionsWrongFalsely : Prop := fnVersionsRow.holds Try.pinned (OpenSpec.ofChange fnVersionsWrong)

/-- 'laws.FnOrderOfAddsDoesNotMatter': WHATEVER THE INPUT: true; the input reads as it did. -/
def fnOrderOfAddsDoesNotMatterSpec : ChangeSpec := { name := "fnOrderOfAddsDoesNotMatter", fn := fun _ => fun
  | [d] => { results := [.lit (.bool true)], args := [d] }
  | _ => none }
def fnOrderOfAddsDoesNotMatterRow : OpenClaim := { program := "ytdogepkfgobcfaa", sum := "a91a4e84d013b0fdf54d89ab7937c32750a01d9dbbc0364530e940471d54a57c", func := "quicwire/laws.FnOrderOfAddsDoesNotMatter", spec := "fnOrderOfAddsDoesNotMatter", apart := false }
def FnOrderOfAddsDoesNotMatterSaid : Prop := fnOrderOfAddsDoesNotMatterRow.holds Try.pinned (OpenSpec.ofChange fnOrderOfAddsDoesNotMatterSpec)

/-- ITS FALSE NEIGHBOUR: 'it returns false'. Refute it at one input. -/
def fnOrderOfAddsDoesNotMatterWrong : ChangeSpec := { name := "fnOrderOfAddsDoesNotMatter", fn := fun _ => fun
  | [d] => { results := [.lit (.bool false)], args := [d] }
  | _ => none }
def FnOrderOfAddsDoesNotMatterWrongFalsely : Prop := fnOrderOfAddsDoesNotMatterRow.holds Try.pinned (OpenSpec.ofChange fnOrderOfAddsDoesNotMatterWrong)

/-- 'laws.FnRanges': WHATEVER THE INPUT: true; the input reads as it did. -/
def fnRangesSpec : ChangeSpec := { name := "fnRanges", fn := fun _ => fun
  | [d] => { results := [.lit (.bool true)], args := [d] }
  | _ => none }
def fnRangesRow : OpenClaim := { program := "ytdogepkfgobcfaa", sum := "a91a4e84d013b0fdf54d89ab7937c32750a01d9dbbc0364530e940471d54a57c", func := "quicwire/laws.FnRanges", spec := "fnRanges", apart := false }
def FnRangesSaid : Prop := fnRangesRow.holds Try.pinned (OpenSpec.ofChange fnRangesSpec)

/-- ITS FALSE NEIGHBOUR: 'it returns false'. Refute it at one input. -/
def fnRangesWrong : ChangeSpec := { name := "fnRanges", fn := fun _ => fun
  | [d] => { results := [.lit (.bool false)], args := [d] }
  | _ => none }
def FnRangesWrongFalsely : Prop := fnRangesRow.holds Try.pinned (OpenSpec.ofChange fnRangesWrong)

/-- 'laws.FnHas': WHATEVER THE INPUT: true; the input reads as it did. -/
def fnHasSpec : ChangeSpec := { name := "fnHas", fn := fun _ => fun
  | [d1, d2] => { results := [.lit (.bool true)], args := [d1, d2] }
  | _ => none }
def fnHasRow : OpenClaim := { program := "ytdogepkfgobcfaa", sum := "a91a4e84d013b0fdf54d89ab7937c32750a01d9dbbc0364530e940471d54a57c", func := "quicwire/laws.FnHas", spec := "fnHas", apart := false }
def FnHasSaid : Prop := fnHasRow.holds Try.pinned (OpenSpec.ofChange fnHasSpec)

/-- ITS FALSE NEIGHBOUR: 'it returns false'. Refute it at one input. -/
def fnHasWrong : ChangeSpec := { name := "fnHas", fn := fun _ => fun
  | [d1, d2] => { results := [.lit (.bool false)], args := [d1, d2] }
  | _ => none }
def FnHasWrongFalsely : Prop := fnHasRow.holds Try.pinned (OpenSpec.ofChange fnHasWrong)

/-- 'laws.FnMeasures': WHATEVER THE INPUT: true; the input reads as it did. -/
def fnMeasuresSpec : ChangeSpec := { name := "fnMeasures", fn := fun _ => fun
  | [d1, d2, d3] => { results := [.lit (.bool true)], args := [d1, d2, d3] }
  | _ => none }
def fnMeasuresRow : OpenClaim := { program := "ytdogepkfgobcfaa", sum := "a91a4e84d013b0fdf54d89ab7937c32750a01d9dbbc0364530e940471d54a57c", func := "quicwire/laws.FnMeasures", spec := "fnMeasures", apart := false }
def FnMeasuresSaid : Prop := fnMeasuresRow.holds Try.pinned (OpenSpec.ofChange fnMeasuresSpec)

/-- ITS FALSE NEIGHBOUR: 'it returns false'. Refute it at one input. -/
def fnMeasuresWrong : ChangeSpec := { name := "fnMeasures", fn := fun _ => fun
  | [d1, d2, d3] => { results := [.lit (.bool false)], args := [d1, d2, d3] }
  | _ => none }
def FnMeasuresWrongFalsely : Prop := fnMeasuresRow.holds Try.pinned (OpenSpec.ofChange fnMeasuresWrong)

/-- 'laws.FnReadAck': WHATEVER THE INPUT: true; the input reads as it did. -/
def fnReadAckSpec : ChangeSpec := { name := "fnReadAck", fn := fun _ => fun
  | [d] => { results := [.lit (.bool true)], args := [d] }
  | _ => none }
def fnReadAckRow : OpenClaim := { program := "ytdogepkfgobcfaa", sum := "a91a4e84d013b0fdf54d89ab7937c32750a01d9dbbc0364530e940471d54a57c", func := "quicwire/laws.FnReadAck", spec := "fnReadAck", unfollowed := true, recurses := true, apart := false }
def FnReadAckSaid : Prop := fnReadAckRow.holds Try.pinned (OpenSpec.ofChange fnReadAckSpec)

/-- ITS FALSE NEIGHBOUR: 'it returns false'. Refute it at one input. -/
def fnReadAckWrong : ChangeSpec := { name := "fnReadAck", fn := fun _ => fun
  | [d] => { results := [.lit (.bool false)], args := [d] }
  | _ => none }
def FnReadAckWrongFalsely : Prop := fnReadAckRow.holds Try.pinned (OpenSpec.ofChange fnReadAckWrong)

/-- 'laws.FnAckIsWritten': WHATEVER THE INPUT: true; the input reads as it did. -/
def fnAckIsWrittenSpec : ChangeSpec := { name := "fnAckIsWritten", fn := fun _ => fun
  | [d1, d2, d3] => { results := [.lit (.bool true)], args := [d1, d2, d3] }
  | _ => none }
def fnAckIsWrittenRow : OpenClaim := { program := "ytdogepkfgobcfaa", sum := "a91a4e84d013b0fdf54d89ab7937c32750a01d9dbbc0364530e940471d54a57c", func := "quicwire/laws.FnAckIsWritten", spec := "fnAckIsWritten", unfollowed := true, recurses := true, apart := false }
def FnAckIsWrittenSaid : Prop := fnAckIsWrittenRow.holds Try.pinned (OpenSpec.ofChange fnAckIsWrittenSpec)

/-- ITS FALSE NEIGHBOUR: 'it returns false'. Refute it at one input. -/
def fnAckIsWrittenWrong : ChangeSpec := { name := "fnAckIsWritten", fn := fun _ => fun
  | [d1, d2, d3] => { results := [.lit (.bool false)], args := [d1, d2, d3] }
  | _ => none }
def FnAckIsWrittenWrongFalsely : Prop := fnAckIsWrittenRow.holds Try.pinned (OpenSpec.ofChange fnAckIsWrittenWrong)

/-- 'laws.FnAckComesBack': WHATEVER THE INPUT: true; the input reads as it did. -/
def fnAckComesBackSpec : ChangeSpec := { name := "fnAckComesBack", fn := fun _ => fun
  | [d1, d2, d3, d4, d5] => { results := [.lit (.bool true)], args := [d1, d2, d3, d4, d5] }
  | _ => none }
def fnAckComesBackRow : OpenClaim := { program := "ytdogepkfgobcfaa", sum := "a91a4e84d013b0fdf54d89ab7937c32750a01d9dbbc0364530e940471d54a57c", func := "quicwire/laws.FnAckComesBack", spec := "fnAckComesBack", unfollowed := true, recurses := true, apart := false }
def FnAckComesBackSaid : Prop := fnAckComesBackRow.holds Try.pinned (OpenSpec.ofChange fnAckComesBackSpec)

/-- ITS FALSE NEIGHBOUR: 'it returns false'. Refute it at one input. -/
def fnAckComesBackWrong : ChangeSpec := { name := "fnAckComesBack", fn := fun _ => fun
  | [d1, d2, d3, d4, d5] => { results := [.lit (.bool false)], args := [d1, d2, d3, d4, d5] }
  | _ => none }
def FnAckComesBackWrongFalsely : Prop := fnAckComesBackRow.holds Try.pinned (OpenSpec.ofChange fnAckComesBackWrong)

/- THE SECOND FORM. 'bulk': how many values and letters a reading holds, each counted each time it is reached (what is shared counts as often as it is met; a slice's spare places count too). A statement '..UptoSaid' is the law's where the arguments, and the package variables that the reading takes, are together of bulk at most 1048576: NARROWER than '..Said'. Prove '..Said' where nothing that the law and all that it calls make is longer than what came in: it says more and counts as full. Else prove '..UptoSaid'. A law counts once. -/
mutual
def uptoBulk {H : Type} : DataW H → Nat
  | .lit (.string bytes) => bytes.length + 1
  | .lit _ => 1
  | .nil => 1
  | .ptr d => uptoBulk d + 1
  | .slice elems spare => uptoBulkAll elems + uptoBulkAll spare + 1
  | .agg parts => uptoBulkAll parts + 1
  | .iface _ d => uptoBulk d + 1
  | .map entries => uptoBulkEntries entries + 1
  | .held _ => 1
def uptoBulkAll {H : Type} : List (DataW H) → Nat
  | [] => 0
  | d :: r => uptoBulk d + uptoBulkAll r
def uptoBulkEntries {H : Type} : List (Lit × DataW H) → Nat
  | [] => 0
  | x :: r => uptoBulkEntry x + uptoBulkEntries r
def uptoBulkEntry {H : Type} : Lit × DataW H → Nat
  | (.string bytes, d) => bytes.length + uptoBulk d + 1
  | (_, d) => uptoBulk d + 1
 end
def uptoSmall : (H : Type) → List (DataW H) → Bool := fun _ ds => decide (uptoBulkAll ds ≤ 1048576)
def OpenSpec.upto (s : _root_.Go.ChangeSpec) : _root_.Go.OpenSpec := { _root_.Go.OpenSpec.ofChange s with cond := some uptoSmall }

/-- 'laws.FnDestination', WHERE WHAT IT READS IS OF BULK AT MOST 1048576: true; the input reads as it did. -/
def fnDestinationUptoRow : OpenClaim := { program := "ytdogepkfgobcfaa", sum := "a91a4e84d013b0fdf54d89ab7937c32750a01d9dbbc0364530e940471d54a57c", func := "quicwire/laws.FnDestination", spec := "fnDestination", apart := false, narrowed := true }
def FnDestinationUptoSaid : Prop := fnDestinationUptoRow.holds Try.pinned (OpenSpec.upto fnDestinationSpec)

/-- 'laws.FnLong', WHERE WHAT IT READS IS OF BULK AT MOST 1048576: true; the input reads as it did. -/
def fnLongUptoRow : OpenClaim := { program := "ytdogepkfgobcfaa", sum := "a91a4e84d013b0fdf54d89ab7937c32750a01d9dbbc0364530e940471d54a57c", func := "quicwire/laws.FnLong", spec := "fnLong", apart := false, narrowed := true }
def FnLongUptoSaid : Prop := fnLongUptoRow.holds Try.pinned (OpenSpec.upto fnLongSpec)

/-- 'laws.FnSkip', WHERE WHAT IT READS IS OF BULK AT MOST 1048576: true; the input reads as it did. -/
def fnSkipUptoRow : OpenClaim := { program := "ytdogepkfgobcfaa", sum := "a91a4e84d013b0fdf54d89ab7937c32750a01d9dbbc0364530e940471d54a57c", func := "quicwire/laws.FnSkip", spec := "fnSkip", apart := false, narrowed := true }
def FnSkipUptoSaid : Prop := fnSkipUptoRow.holds Try.pinned (OpenSpec.upto fnSkipSpec)

/-- 'laws.FnVersions', WHERE WHAT IT READS IS OF BULK AT MOST 1048576: true; the input reads as it did. -/
def fnVersionsUptoRow : OpenClaim := { program := "ytdogepkfgobcfaa", sum := "a91a4e84d013b0fdf54d89ab7937c32750a01d9dbbc0364530e940471d54a57c", func := "quicwire/laws.FnVersions", spec := "fnVersions", apart := false, narrowed := true }
def FnVersionsUptoSaid : Prop := fnVersionsUptoRow.holds Try.pinned (OpenSpec.upto fnVersionsSpec)

/-- 'laws.FnOrderOfAddsDoesNotMatter', WHERE WHAT IT READS IS OF BULK AT MOST 1048576: true; the input reads as it did. -/
def fnOrderOfAddsDoesNotMatterUptoRow : OpenClaim := { program := "ytdogepkfgobcfaa", sum := "a91a4e84d013b0fdf54d89ab7937c32750a01d9dbbc0364530e940471d54a57c", func := "quicwire/laws.FnOrderOfAddsDoesNotMatter", spec := "fnOrderOfAddsDoesNotMatter", apart := false, narrowed := true }
def FnOrderOfAddsDoesNotMatterUptoSaid : Prop := fnOrderOfAddsDoesNotMatterUptoRow.holds Try.pinned (OpenSpec.upto fnOrderOfAddsDoesNotMatterSpec)

/-- 'laws.FnRanges', WHERE WHAT IT READS IS OF BULK AT MOST 1048576: true; the input reads as it did. -/
def fnRangesUptoRow : OpenClaim := { program := "ytdogepkfgobcfaa", sum := "a91a4e84d013b0fdf54d89ab7937c32750a01d9dbbc0364530e940471d54a57c", func := "quicwire/laws.FnRanges", spec := "fnRanges", apart := false, narrowed := true }
def FnRangesUptoSaid : Prop := fnRangesUptoRow.holds Try.pinned (OpenSpec.upto fnRangesSpec)

/-- 'laws.FnHas', WHERE WHAT IT READS IS OF BULK AT MOST 1048576: true; the input reads as it did. -/
def fnHasUptoRow : OpenClaim := { program := "ytdogepkfgobcfaa", sum := "a91a4e84d013b0fdf54d89ab7937c32750a01d9dbbc0364530e940471d54a57c", func := "quicwire/laws.FnHas", spec := "fnHas", apart := false, narrowed := true }
def FnHasUptoSaid : Prop := fnHasUptoRow.holds Try.pinned (OpenSpec.upto fnHasSpec)

/-- 'laws.FnMeasures', WHERE WHAT IT READS IS OF BULK AT MOST 1048576: true; the input reads as it did. -/
def fnMeasuresUptoRow : OpenClaim := { program := "ytdogepkfgobcfaa", sum := "a91a4e84d013b0fdf54d89ab7937c32750a01d9dbbc0364530e940471d54a57c", func := "quicwire/laws.FnMeasures", spec := "fnMeasures", apart := false, narrowed := true }
def FnMeasuresUptoSaid : Prop := fnMeasuresUptoRow.holds Try.pinned (OpenSpec.upto fnMeasuresSpec)

/-- 'laws.FnReadAck', WHERE WHAT IT READS IS OF BULK AT MOST 1048576: true; the input reads as it did. -/
def fnReadAckUptoRow : OpenClaim := { program := "ytdogepkfgobcfaa", sum := "a91a4e84d013b0fdf54d89ab7937c32750a01d9dbbc0364530e940471d54a57c", func := "quicwire/laws.FnReadAck", spec := "fnReadAck", unfollowed := true, recurses := true, apart := false, narrowed := true }
def FnReadAckUptoSaid : Prop := fnReadAckUptoRow.holds Try.pinned (OpenSpec.upto fnReadAckSpec)

/-- 'laws.FnAckIsWritten', WHERE WHAT IT READS IS OF BULK AT MOST 1048576: true; the input reads as it did. -/
def fnAckIsWrittenUptoRow : OpenClaim := { program := "ytdogepkfgobcfaa", sum := "a91a4e84d013b0fdf54d89ab7937c32750a01d9dbbc0364530e940471d54a57c", func := "quicwire/laws.FnAckIsWritten", spec := "fnAckIsWritten", unfollowed := true, recurses := true, apart := false, narrowed := true }
def FnAckIsWrittenUptoSaid : Prop := fnAckIsWrittenUptoRow.holds Try.pinned (OpenSpec.upto fnAckIsWrittenSpec)

/-- 'laws.FnAckComesBack', WHERE WHAT IT READS IS OF BULK AT MOST 1048576: true; the input reads as it did. -/
def fnAckComesBackUptoRow : OpenClaim := { program := "ytdogepkfgobcfaa", sum := "a91a4e84d013b0fdf54d89ab7937c32750a01d9dbbc0364530e940471d54a57c", func := "quicwire/laws.FnAckComesBack", spec := "fnAckComesBack", unfollowed := true, recurses := true, apart := false, narrowed := true }
def FnAckComesBackUptoSaid : Prop := fnAckComesBackUptoRow.holds Try.pinned (OpenSpec.upto fnAckComesBackSpec)

end Rows
end Go.Proofs.Ytdogepkfgobcfaa
