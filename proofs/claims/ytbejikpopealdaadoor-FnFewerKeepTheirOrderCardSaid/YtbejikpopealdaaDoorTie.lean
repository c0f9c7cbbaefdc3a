/-
  DERIVED. GIVEN WITH THE SEED: THE PROGRAM's TIES (one call each: nine closed facts by the kernel) AND EACH ROW's TIE, after the 31st guide's Derived/Test/Toyas{Tie, Card}.lean. No idea stands in it: it is a product of the set-up. Laid BY PROGRAM, IN A SANDBOX (cutbox-door.mjs). By AI agents, Wed Nov 11 2026. No macro, syntax, notation, axiom, sorry.
-/
import Derived.Test.YtbejikpopealdaaDoorRows
import Derived.LaidByTextLater
import Derived.SevenTiedAt
import Derived.LaidSub
import Derived.LaidOnce
namespace Go.Proofs.YtbejikpopealdaaDoor
open Go
set_option maxRecDepth 100000
theorem seatTie1 : Tryd.prog.laidByTextLater [("math/bits.deBruijn32tab", Rows.laid_math_bits_deBruijn32tab), ("math/bits.deBruijn64tab", Rows.laid_math_bits_deBruijn64tab), ("internal/strconv.uint64pow10", Rows.laid_internal_strconv_uint64pow10), ("strconv.ErrRange", Rows.laid_strconv_ErrRange), ("strconv.ErrSyntax", Rows.laid_strconv_ErrSyntax), ("net/netip.z4", Rows.laid_net_netip_z4), ("net/netip.z6noz", Rows.laid_net_netip_z6noz), ("net/netip.z0", Rows.laid_net_netip_z0)] [.data, .data, .data, .sentinel, .sentinel, .called, .called, .zero] true :=
  Program.laidByTextLater_by_one 74 8 65 (by kernel_rfl) (by kernel_rfl) (by kernel_rfl) (by kernel_rfl) (by kernel_rfl) (by kernel_rfl) (fun _ _ => by kernel_rfl)
theorem noOwnUnsafe : Tryd.pinned.checked.prog.headLifts.contains "ownunsafe" = false := by kernel_rfl
theorem tie : Tryd.prog.laidByTextLater [("net/netip.z4", Rows.laid_net_netip_z4), ("net/netip.z6noz", Rows.laid_net_netip_z6noz), ("net/netip.z0", Rows.laid_net_netip_z0)] [.called, .called, .zero] true :=
  Program.laidByTextLater.sub seatTie1 ["net/netip.z4", "net/netip.z6noz", "net/netip.z0"] (by kernel_rfl) (by kernel_rfl)
theorem fnCommon_row_tie : Rows.fnCommonRow.laidByTextAt .later Tryd.pinned [.called, .called, .zero] true :=
  OpenClaim.laidByTextAt_later rfl rfl tie noOwnUnsafe
theorem fnScope_row_tie : Rows.fnScopeRow.laidByTextAt .later Tryd.pinned [.called, .called, .zero] true :=
  OpenClaim.laidByTextAt_later rfl rfl tie noOwnUnsafe
theorem fnPolicy_row_tie : Rows.fnPolicyRow.laidByTextAt .later Tryd.pinned [.called, .called, .zero] true :=
  OpenClaim.laidByTextAt_later rfl rfl tie noOwnUnsafe
theorem fnMappedIsTheSame_row_tie : Rows.fnMappedIsTheSameRow.laidByTextAt .later Tryd.pinned [.called, .called, .zero] true :=
  OpenClaim.laidByTextAt_later rfl rfl tie noOwnUnsafe
theorem tie2 : Tryd.prog.laidByTextLater [("math/bits.deBruijn32tab", Rows.laid_math_bits_deBruijn32tab), ("math/bits.deBruijn64tab", Rows.laid_math_bits_deBruijn64tab), ("internal/strconv.uint64pow10", Rows.laid_internal_strconv_uint64pow10), ("strconv.ErrRange", Rows.laid_strconv_ErrRange), ("strconv.ErrSyntax", Rows.laid_strconv_ErrSyntax), ("net/netip.z4", Rows.laid_net_netip_z4), ("net/netip.z6noz", Rows.laid_net_netip_z6noz), ("net/netip.z0", Rows.laid_net_netip_z0)] [.data, .data, .data, .sentinel, .sentinel, .called, .called, .zero] true :=
  Program.laidByTextLater.sub seatTie1 ["math/bits.deBruijn32tab", "math/bits.deBruijn64tab", "internal/strconv.uint64pow10", "strconv.ErrRange", "strconv.ErrSyntax", "net/netip.z4", "net/netip.z6noz", "net/netip.z0"] (by kernel_rfl) (by kernel_rfl)
theorem fnAllAreThere_row_tie : Rows.fnAllAreThereRow.laidByTextAt .later Tryd.pinned [.data, .data, .data, .sentinel, .sentinel, .called, .called, .zero] true :=
  OpenClaim.laidByTextAt_later rfl rfl tie2 noOwnUnsafe
theorem fnFewerKeepTheirOrder_row_tie : Rows.fnFewerKeepTheirOrderRow.laidByTextAt .later Tryd.pinned [.data, .data, .data, .sentinel, .sentinel, .called, .called, .zero] true :=
  OpenClaim.laidByTextAt_later rfl rfl tie2 noOwnUnsafe
theorem fnOrder_row_tie : Rows.fnOrderRow.laidByTextAt .later Tryd.pinned [.data, .data, .data, .sentinel, .sentinel, .called, .called, .zero] true :=
  OpenClaim.laidByTextAt_later rfl rfl tie2 noOwnUnsafe
theorem fnTwo_row_tie : Rows.fnTwoRow.laidByTextAt .later Tryd.pinned [.data, .data, .data, .sentinel, .sentinel, .called, .called, .zero] true :=
  OpenClaim.laidByTextAt_later rfl rfl tie2 noOwnUnsafe
theorem fnUnreachableAreLast_row_tie : Rows.fnUnreachableAreLastRow.laidByTextAt .later Tryd.pinned [.data, .data, .data, .sentinel, .sentinel, .called, .called, .zero] true :=
  OpenClaim.laidByTextAt_later rfl rfl tie2 noOwnUnsafe
theorem fnCommonUpto_row_tie : Rows.fnCommonUptoRow.laidByTextAt .later Tryd.pinned [.called, .called, .zero] true :=
  OpenClaim.laidByTextAt_later rfl rfl tie noOwnUnsafe
theorem fnScopeUpto_row_tie : Rows.fnScopeUptoRow.laidByTextAt .later Tryd.pinned [.called, .called, .zero] true :=
  OpenClaim.laidByTextAt_later rfl rfl tie noOwnUnsafe
theorem fnPolicyUpto_row_tie : Rows.fnPolicyUptoRow.laidByTextAt .later Tryd.pinned [.called, .called, .zero] true :=
  OpenClaim.laidByTextAt_later rfl rfl tie noOwnUnsafe
theorem fnMappedIsTheSameUpto_row_tie : Rows.fnMappedIsTheSameUptoRow.laidByTextAt .later Tryd.pinned [.called, .called, .zero] true :=
  OpenClaim.laidByTextAt_later rfl rfl tie noOwnUnsafe
theorem fnAllAreThereUpto_row_tie : Rows.fnAllAreThereUptoRow.laidByTextAt .later Tryd.pinned [.data, .data, .data, .sentinel, .sentinel, .called, .called, .zero] true :=
  OpenClaim.laidByTextAt_later rfl rfl tie2 noOwnUnsafe
theorem fnFewerKeepTheirOrderUpto_row_tie : Rows.fnFewerKeepTheirOrderUptoRow.laidByTextAt .later Tryd.pinned [.data, .data, .data, .sentinel, .sentinel, .called, .called, .zero] true :=
  OpenClaim.laidByTextAt_later rfl rfl tie2 noOwnUnsafe
theorem fnOrderUpto_row_tie : Rows.fnOrderUptoRow.laidByTextAt .later Tryd.pinned [.data, .data, .data, .sentinel, .sentinel, .called, .called, .zero] true :=
  OpenClaim.laidByTextAt_later rfl rfl tie2 noOwnUnsafe
theorem fnTwoUpto_row_tie : Rows.fnTwoUptoRow.laidByTextAt .later Tryd.pinned [.data, .data, .data, .sentinel, .sentinel, .called, .called, .zero] true :=
  OpenClaim.laidByTextAt_later rfl rfl tie2 noOwnUnsafe
theorem fnUnreachableAreLastUpto_row_tie : Rows.fnUnreachableAreLastUptoRow.laidByTextAt .later Tryd.pinned [.data, .data, .data, .sentinel, .sentinel, .called, .called, .zero] true :=
  OpenClaim.laidByTextAt_later rfl rfl tie2 noOwnUnsafe
end Go.Proofs.YtbejikpopealdaaDoor
