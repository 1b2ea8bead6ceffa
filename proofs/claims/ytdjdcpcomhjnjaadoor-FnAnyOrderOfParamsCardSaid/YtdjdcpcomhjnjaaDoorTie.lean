/-
  DERIVED. GIVEN WITH THE SEED: THE PROGRAM's TIES (one call each: nine closed facts by the kernel) AND EACH ROW's TIE, after the 31st guide's Derived/Test/Toyas{Tie, Card}.lean. No idea stands in it: it is a product of the set-up. Laid BY PROGRAM, IN A SANDBOX (cutbox-door.mjs). By AI agents, Wed Nov 11 2026. No macro, syntax, notation, axiom, sorry.
-/
import Derived.Test.YtdjdcpcomhjnjaaDoorRows
import Derived.LaidByTextLater
import Derived.SevenTiedAt
import Derived.LaidSub
import Derived.LaidOnce
namespace Go.Proofs.YtdjdcpcomhjnjaaDoor
open Go
set_option maxRecDepth 100000
theorem seatTie1 : Tryd.prog.laidByTextLater [("net/netip.z4", Rows.laid_net_netip_z4), ("net/netip.z6noz", Rows.laid_net_netip_z6noz), ("net/netip.z0", Rows.laid_net_netip_z0)] [.called, .called, .zero] true :=
  Program.laidByTextLater_by_one 21 8 3 (by kernel_rfl) (by kernel_rfl) (by kernel_rfl) (by kernel_rfl) (by kernel_rfl) (by kernel_rfl) (fun _ _ => by kernel_rfl)
theorem noOwnUnsafe : Tryd.pinned.checked.prog.headLifts.contains "ownunsafe" = false := by kernel_rfl
theorem tie : Tryd.prog.laidByTextLater [("net/netip.z4", Rows.laid_net_netip_z4), ("net/netip.z6noz", Rows.laid_net_netip_z6noz), ("net/netip.z0", Rows.laid_net_netip_z0)] [.called, .called, .zero] true :=
  Program.laidByTextLater.sub seatTie1 ["net/netip.z4", "net/netip.z6noz", "net/netip.z0"] (by kernel_rfl) (by kernel_rfl)
theorem fnParams_row_tie : Rows.fnParamsRow.laidByTextAt .later Tryd.pinned [.called, .called, .zero] true :=
  OpenClaim.laidByTextAt_later rfl rfl tie noOwnUnsafe
theorem fnAnyOrderOfParams_row_tie : Rows.fnAnyOrderOfParamsRow.laidByTextAt .later Tryd.pinned [.called, .called, .zero] true :=
  OpenClaim.laidByTextAt_later rfl rfl tie noOwnUnsafe
theorem fnParamsComeBack_row_tie : Rows.fnParamsComeBackRow.laidByTextAt .later Tryd.pinned [.called, .called, .zero] true :=
  OpenClaim.laidByTextAt_later rfl rfl tie noOwnUnsafe
theorem fnParamsAreWritten_row_tie : Rows.fnParamsAreWrittenRow.laidByTextAt .later Tryd.pinned [.called, .called, .zero] true :=
  OpenClaim.laidByTextAt_later rfl rfl tie noOwnUnsafe
theorem fnParamsUpto_row_tie : Rows.fnParamsUptoRow.laidByTextAt .later Tryd.pinned [.called, .called, .zero] true :=
  OpenClaim.laidByTextAt_later rfl rfl tie noOwnUnsafe
theorem fnAnyOrderOfParamsUpto_row_tie : Rows.fnAnyOrderOfParamsUptoRow.laidByTextAt .later Tryd.pinned [.called, .called, .zero] true :=
  OpenClaim.laidByTextAt_later rfl rfl tie noOwnUnsafe
theorem fnParamsComeBackUpto_row_tie : Rows.fnParamsComeBackUptoRow.laidByTextAt .later Tryd.pinned [.called, .called, .zero] true :=
  OpenClaim.laidByTextAt_later rfl rfl tie noOwnUnsafe
theorem fnParamsAreWrittenUpto_row_tie : Rows.fnParamsAreWrittenUptoRow.laidByTextAt .later Tryd.pinned [.called, .called, .zero] true :=
  OpenClaim.laidByTextAt_later rfl rfl tie noOwnUnsafe
end Go.Proofs.YtdjdcpcomhjnjaaDoor
