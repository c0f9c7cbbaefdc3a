/-
  NARROWER THAN 'FOR EVERY INPUT', by the rows' own cells (each row's printed sentence says how): FnCommon: laid · FnScope: laid · FnPolicy: laid · FnMappedIsTheSame: laid · FnAllAreThere: laid · FnFewerKeepTheirOrder: laid · FnOrder: laid · FnTwo: laid · FnUnreachableAreLast: laid.
  DERIVED. THE GIVEN ROWS OF THIS SEAT. 9 by the template 'for every input the law returns true; each argument reads behind the call as it read before'; 0 by the template 'total and deterministic' (their statements: YtbejikpopealdaaDoorTotals.lean).
  GIVEN WITH THE SEED: the statements are not yours to turn. If you find one false, say at which input.
  Laid BY PROGRAM, IN A SANDBOX (cutbox-rows.mjs): the forced cells as the released guide's own fill.sh prints them over the translation 44c550f7686f62b0… (all of the seat's roots in one cut). By AI agents, Wed Nov 11 2026. No macro, syntax, notation, axiom, sorry.
-/
import Derived.Test.YtbejikpopealdaaDoorChecked
import GoSem.Claim
import GoSem.ClaimJoined
import GoSem.ClaimMapViews
import Derived.JoinedTies
import Derived.KernelRfl
namespace Go.Proofs.YtbejikpopealdaaDoor
/- THE CELL 'sum', in the pinned program and in every row, IS THE sha256 OF THE DUMP (.gsa) THAT YtbejikpopealdaaDoorProg.lean LOADS. Nothing in Lean hashes anything: it is a label: what it is worth is what the hold of that sum in a sandbox is worth. -/
noncomputable def Tryd.pinned : Pinned := { name := "ytbejikpopealdaadoor", sum := "44c550f7686f62b0578780df3a3baa18b4bad2af0d5fe64619bfd7d8450d9716", checked := Tryd.checked }
namespace Rows
def none {H : Type} : Left H := { results := [], args := [] }

/- WHAT THE LISTED PACKAGE-LEVEL VARIABLES READ AS WHEN THE CALL BEGINS. Each datum BY PROGRAM (the guide's laid-datum.mjs) off the statement by which the dump's own 'gosem.cut.vars' lays the variable. In a bare row this is a premise. The card (YtbejikpopealdaaDoorCards.lean) ties it to the program's text. -/
def laid_net_netip_z4 {H : Type} : DataW H := .agg [.ptr (.agg [.lit (.bool false), .lit (.string [])])]
def laid_net_netip_z6noz {H : Type} : DataW H := .agg [.ptr (.agg [.lit (.bool true), .lit (.string [])])]
def laid_net_netip_z0 {H : Type} : DataW H := .agg [.nil]
def laid_math_bits_deBruijn32tab {H : Type} : DataW H := .agg [.lit (.int .u8 0), .lit (.int .u8 1), .lit (.int .u8 28), .lit (.int .u8 2), .lit (.int .u8 29), .lit (.int .u8 14), .lit (.int .u8 24), .lit (.int .u8 3), .lit (.int .u8 30), .lit (.int .u8 22), .lit (.int .u8 20), .lit (.int .u8 15), .lit (.int .u8 25), .lit (.int .u8 17), .lit (.int .u8 4), .lit (.int .u8 8), .lit (.int .u8 31), .lit (.int .u8 27), .lit (.int .u8 13), .lit (.int .u8 23), .lit (.int .u8 21), .lit (.int .u8 19), .lit (.int .u8 16), .lit (.int .u8 7), .lit (.int .u8 26), .lit (.int .u8 12), .lit (.int .u8 18), .lit (.int .u8 6), .lit (.int .u8 11), .lit (.int .u8 5), .lit (.int .u8 10), .lit (.int .u8 9)]
def laid_math_bits_deBruijn64tab {H : Type} : DataW H := .agg [.lit (.int .u8 0), .lit (.int .u8 1), .lit (.int .u8 56), .lit (.int .u8 2), .lit (.int .u8 57), .lit (.int .u8 49), .lit (.int .u8 28), .lit (.int .u8 3), .lit (.int .u8 61), .lit (.int .u8 58), .lit (.int .u8 42), .lit (.int .u8 50), .lit (.int .u8 38), .lit (.int .u8 29), .lit (.int .u8 17), .lit (.int .u8 4), .lit (.int .u8 62), .lit (.int .u8 47), .lit (.int .u8 59), .lit (.int .u8 36), .lit (.int .u8 45), .lit (.int .u8 43), .lit (.int .u8 51), .lit (.int .u8 22), .lit (.int .u8 53), .lit (.int .u8 39), .lit (.int .u8 33), .lit (.int .u8 30), .lit (.int .u8 24), .lit (.int .u8 18), .lit (.int .u8 12), .lit (.int .u8 5), .lit (.int .u8 63), .lit (.int .u8 55), .lit (.int .u8 48), .lit (.int .u8 27), .lit (.int .u8 60), .lit (.int .u8 41), .lit (.int .u8 37), .lit (.int .u8 16), .lit (.int .u8 46), .lit (.int .u8 35), .lit (.int .u8 44), .lit (.int .u8 21), .lit (.int .u8 52), .lit (.int .u8 32), .lit (.int .u8 23), .lit (.int .u8 11), .lit (.int .u8 54), .lit (.int .u8 26), .lit (.int .u8 40), .lit (.int .u8 15), .lit (.int .u8 34), .lit (.int .u8 20), .lit (.int .u8 31), .lit (.int .u8 10), .lit (.int .u8 25), .lit (.int .u8 14), .lit (.int .u8 19), .lit (.int .u8 9), .lit (.int .u8 13), .lit (.int .u8 8), .lit (.int .u8 7), .lit (.int .u8 6)]
def laid_internal_strconv_uint64pow10 {H : Type} : DataW H := .agg [.lit (.int .u64 1), .lit (.int .u64 10), .lit (.int .u64 100), .lit (.int .u64 1000), .lit (.int .u64 10000), .lit (.int .u64 100000), .lit (.int .u64 1000000), .lit (.int .u64 10000000), .lit (.int .u64 100000000), .lit (.int .u64 1000000000), .lit (.int .u64 10000000000), .lit (.int .u64 100000000000), .lit (.int .u64 1000000000000), .lit (.int .u64 10000000000000), .lit (.int .u64 100000000000000), .lit (.int .u64 1000000000000000), .lit (.int .u64 10000000000000000), .lit (.int .u64 100000000000000000), .lit (.int .u64 1000000000000000000), .lit (.int .u64 10000000000000000000)]
def laid_strconv_ErrRange {H : Type} : DataW H := .iface "*errors.errorString" (.ptr (.agg [.lit (.string [118, 97, 108, 117, 101, 32, 111, 117, 116, 32, 111, 102, 32, 114, 97, 110, 103, 101])]))
def laid_strconv_ErrSyntax {H : Type} : DataW H := .iface "*errors.errorString" (.ptr (.agg [.lit (.string [105, 110, 118, 97, 108, 105, 100, 32, 115, 121, 110, 116, 97, 120])]))

/-- 'laws.FnCommon': WHATEVER THE INPUT: true; the input reads as it did. -/
def fnCommonSpec : ChangeSpec := { name := "fnCommon", fn := fun _ => fun
  | [d1, d2] => { results := [.lit (.bool true)], args := [d1, d2] }
  | _ => none }
def fnCommonRow : OpenClaim := { program := "ytbejikpopealdaadoor", sum := "44c550f7686f62b0578780df3a3baa18b4bad2af0d5fe64619bfd7d8450d9716", func := "addresschoice/laws.FnCommon", spec := "fnCommon", named := ["net/netip.z4", "net/netip.z6noz", "net/netip.z0"], apart := false, laid := [("net/netip.z4", laid_net_netip_z4), ("net/netip.z6noz", laid_net_netip_z6noz), ("net/netip.z0", laid_net_netip_z0)] }
def FnCommonSaid : Prop := fnCommonRow.holds Tryd.pinned (OpenSpec.ofChange fnCommonSpec)

/-- ITS FALSE NEIGHBOUR: 'it returns false'. Refute it at one input. -/
def fnCommonWrong : ChangeSpec := { name := "fnCommon", fn := fun _ => fun
  | [d1, d2] => { results := [.lit (.bool false)], args := [d1, d2] }
  | _ => none }
def FnCommonWrongFalsely : Prop := fnCommonRow.holds Tryd.pinned (OpenSpec.ofChange fnCommonWrong)

/-- 'laws.FnScope': WHATEVER THE INPUT: true; the input reads as it did. -/
def fnScopeSpec : ChangeSpec := { name := "fnScope", fn := fun _ => fun
  | [d] => { results := [.lit (.bool true)], args := [d] }
  | _ => none }
def fnScopeRow : OpenClaim := { program := "ytbejikpopealdaadoor", sum := "44c550f7686f62b0578780df3a3baa18b4bad2af0d5fe64619bfd7d8450d9716", func := "addresschoice/laws.FnScope", spec := "fnScope", named := ["net/netip.z4", "net/netip.z6noz", "net/netip.z0"], apart := false, laid := [("net/netip.z4", laid_net_netip_z4), ("net/netip.z6noz", laid_net_netip_z6noz), ("net/netip.z0", laid_net_netip_z0)] }
def FnScopeSaid : Prop := fnScopeRow.holds Tryd.pinned (OpenSpec.ofChange fnScopeSpec)

/-- ITS FALSE NEIGHBOUR: 'it returns false'. Refute it at one input. -/
def fnScopeWrong : ChangeSpec := { name := "fnScope", fn := fun _ => fun
  | [d] => { results := [.lit (.bool false)], args := [d] }
  | _ => none }
def FnScopeWrongFalsely : Prop := fnScopeRow.holds Tryd.pinned (OpenSpec.ofChange fnScopeWrong)

/-- 'laws.FnPolicy': WHATEVER THE INPUT: true; the input reads as it did. -/
def fnPolicySpec : ChangeSpec := { name := "fnPolicy", fn := fun _ => fun
  | [d] => { results := [.lit (.bool true)], args := [d] }
  | _ => none }
def fnPolicyRow : OpenClaim := { program := "ytbejikpopealdaadoor", sum := "44c550f7686f62b0578780df3a3baa18b4bad2af0d5fe64619bfd7d8450d9716", func := "addresschoice/laws.FnPolicy", spec := "fnPolicy", unfollowed := true, recurses := true, named := ["net/netip.z4", "net/netip.z6noz", "net/netip.z0"], apart := false, laid := [("net/netip.z4", laid_net_netip_z4), ("net/netip.z6noz", laid_net_netip_z6noz), ("net/netip.z0", laid_net_netip_z0)] }
def FnPolicySaid : Prop := fnPolicyRow.holds Tryd.pinned (OpenSpec.ofChange fnPolicySpec)

/-- ITS FALSE NEIGHBOUR: 'it returns false'. Refute it at one input. -/
def fnPolicyWrong : ChangeSpec := { name := "fnPolicy", fn := fun _ => fun
  | [d] => { results := [.lit (.bool false)], args := [d] }
  | _ => none }
def FnPolicyWrongFalsely : Prop := fnPolicyRow.holds Tryd.pinned (OpenSpec.ofChange fnPolicyWrong)

/-- 'laws.FnMappedIsTheSame': WHATEVER THE INPUT: true; the input reads as it did. -/
def fnMappedIsTheSameSpec : ChangeSpec := { name := "fnMappedIsTheSame", fn := fun _ => fun
  | [d] => { results := [.lit (.bool true)], args := [d] }
  | _ => none }
def fnMappedIsTheSameRow : OpenClaim := { program := "ytbejikpopealdaadoor", sum := "44c550f7686f62b0578780df3a3baa18b4bad2af0d5fe64619bfd7d8450d9716", func := "addresschoice/laws.FnMappedIsTheSame", spec := "fnMappedIsTheSame", named := ["net/netip.z4", "net/netip.z6noz", "net/netip.z0"], apart := false, laid := [("net/netip.z4", laid_net_netip_z4), ("net/netip.z6noz", laid_net_netip_z6noz), ("net/netip.z0", laid_net_netip_z0)] }
def FnMappedIsTheSameSaid : Prop := fnMappedIsTheSameRow.holds Tryd.pinned (OpenSpec.ofChange fnMappedIsTheSameSpec)

/-- ITS FALSE NEIGHBOUR: 'it returns false'. Refute it at one input. -/
def fnMappedIsTheSameWrong : ChangeSpec := { name := "fnMappedIsTheSame", fn := fun _ => fun
  | [d] => { results := [.lit (.bool false)], args := [d] }
  | _ => none }
def FnMappedIsTheSameWrongFalsely : Prop := fnMappedIsTheSameRow.holds Tryd.pinned (OpenSpec.ofChange fnMappedIsTheSameWrong)

/-- 'laws.FnAllAreThere': WHATEVER THE INPUT: true; the input reads as it did. -/
def fnAllAreThereSpec : ChangeSpec := { name := "fnAllAreThere", fn := fun _ => fun
  | [d1, d2] => { results := [.lit (.bool true)], args := [d1, d2] }
  | _ => none }
def fnAllAreThereRow : OpenClaim := { program := "ytbejikpopealdaadoor", sum := "44c550f7686f62b0578780df3a3baa18b4bad2af0d5fe64619bfd7d8450d9716", func := "addresschoice/laws.FnAllAreThere", spec := "fnAllAreThere", unfollowed := true, recurses := true, named := ["internal/strconv.uint64pow10", "math/bits.deBruijn32tab", "math/bits.deBruijn64tab", "net/netip.z4", "net/netip.z6noz", "net/netip.z0", "strconv.ErrSyntax", "strconv.ErrRange"], apart := false, laid := [("math/bits.deBruijn32tab", laid_math_bits_deBruijn32tab), ("math/bits.deBruijn64tab", laid_math_bits_deBruijn64tab), ("internal/strconv.uint64pow10", laid_internal_strconv_uint64pow10), ("strconv.ErrRange", laid_strconv_ErrRange), ("strconv.ErrSyntax", laid_strconv_ErrSyntax), ("net/netip.z4", laid_net_netip_z4), ("net/netip.z6noz", laid_net_netip_z6noz), ("net/netip.z0", laid_net_netip_z0)] }
def FnAllAreThereSaid : Prop := fnAllAreThereRow.holds Tryd.pinned (OpenSpec.ofChange fnAllAreThereSpec)

/-- ITS FALSE NEIGHBOUR: 'it returns false'. Refute it at one input. -/
def fnAllAreThereWrong : ChangeSpec := { name := "fnAllAreThere", fn := fun _ => fun
  | [d1, d2] => { results := [.lit (.bool false)], args := [d1, d2] }
  | _ => none }
def FnAllAreThereWrongFalsely : Prop := fnAllAreThereRow.holds Tryd.pinned (OpenSpec.ofChange fnAllAreThereWrong)

/-- 'laws.FnFewerKeepTheirOrder': WHATEVER THE INPUT: true; the input reads as it did. -/
def fnFewerKeepTheirOrderSpec : ChangeSpec := { name := "fnFewerKeepTheirOrder", fn := fun _ => fun
  | [d1, d2, d3] => { results := [.lit (.bool true)], args := [d1, d2, d3] }
  | _ => none }
def fnFewerKeepTheirOrderRow : OpenClaim := { program := "ytbejikpopealdaadoor", sum := "44c550f7686f62b0578780df3a3baa18b4bad2af0d5fe64619bfd7d8450d9716", func := "addresschoice/laws.FnFewerKeepTheirOrder", spec := "fnFewerKeepTheirOrder", unfollowed := true, recurses := true, named := ["internal/strconv.uint64pow10", "math/bits.deBruijn32tab", "math/bits.deBruijn64tab", "net/netip.z4", "net/netip.z6noz", "net/netip.z0", "strconv.ErrSyntax", "strconv.ErrRange"], apart := false, laid := [("math/bits.deBruijn32tab", laid_math_bits_deBruijn32tab), ("math/bits.deBruijn64tab", laid_math_bits_deBruijn64tab), ("internal/strconv.uint64pow10", laid_internal_strconv_uint64pow10), ("strconv.ErrRange", laid_strconv_ErrRange), ("strconv.ErrSyntax", laid_strconv_ErrSyntax), ("net/netip.z4", laid_net_netip_z4), ("net/netip.z6noz", laid_net_netip_z6noz), ("net/netip.z0", laid_net_netip_z0)] }
def FnFewerKeepTheirOrderSaid : Prop := fnFewerKeepTheirOrderRow.holds Tryd.pinned (OpenSpec.ofChange fnFewerKeepTheirOrderSpec)

/-- ITS FALSE NEIGHBOUR: 'it returns false'. Refute it at one input. -/
def fnFewerKeepTheirOrderWrong : ChangeSpec := { name := "fnFewerKeepTheirOrder", fn := fun _ => fun
  | [d1, d2, d3] => { results := [.lit (.bool false)], args := [d1, d2, d3] }
  | _ => none }
def FnFewerKeepTheirOrderWrongFalsely : Prop := fnFewerKeepTheirOrderRow.holds Tryd.pinned (OpenSpec.ofChange fnFewerKeepTheirOrderWrong)

/-- 'laws.FnOrder': WHATEVER THE INPUT: true; the input reads as it did. -/
def fnOrderSpec : ChangeSpec := { name := "fnOrder", fn := fun _ => fun
  | [d1, d2] => { results := [.lit (.bool true)], args := [d1, d2] }
  | _ => none }
def fnOrderRow : OpenClaim := { program := "ytbejikpopealdaadoor", sum := "44c550f7686f62b0578780df3a3baa18b4bad2af0d5fe64619bfd7d8450d9716", func := "addresschoice/laws.FnOrder", spec := "fnOrder", unfollowed := true, recurses := true, named := ["internal/strconv.uint64pow10", "math/bits.deBruijn32tab", "math/bits.deBruijn64tab", "net/netip.z4", "net/netip.z6noz", "net/netip.z0", "strconv.ErrSyntax", "strconv.ErrRange"], apart := false, laid := [("math/bits.deBruijn32tab", laid_math_bits_deBruijn32tab), ("math/bits.deBruijn64tab", laid_math_bits_deBruijn64tab), ("internal/strconv.uint64pow10", laid_internal_strconv_uint64pow10), ("strconv.ErrRange", laid_strconv_ErrRange), ("strconv.ErrSyntax", laid_strconv_ErrSyntax), ("net/netip.z4", laid_net_netip_z4), ("net/netip.z6noz", laid_net_netip_z6noz), ("net/netip.z0", laid_net_netip_z0)] }
def FnOrderSaid : Prop := fnOrderRow.holds Tryd.pinned (OpenSpec.ofChange fnOrderSpec)

/-- ITS FALSE NEIGHBOUR: 'it returns false'. Refute it at one input. -/
def fnOrderWrong : ChangeSpec := { name := "fnOrder", fn := fun _ => fun
  | [d1, d2] => { results := [.lit (.bool false)], args := [d1, d2] }
  | _ => none }
def FnOrderWrongFalsely : Prop := fnOrderRow.holds Tryd.pinned (OpenSpec.ofChange fnOrderWrong)

/-- 'laws.FnTwo': WHATEVER THE INPUT: true; the input reads as it did. -/
def fnTwoSpec : ChangeSpec := { name := "fnTwo", fn := fun _ => fun
  | [d1, d2, d3, d4] => { results := [.lit (.bool true)], args := [d1, d2, d3, d4] }
  | _ => none }
def fnTwoRow : OpenClaim := { program := "ytbejikpopealdaadoor", sum := "44c550f7686f62b0578780df3a3baa18b4bad2af0d5fe64619bfd7d8450d9716", func := "addresschoice/laws.FnTwo", spec := "fnTwo", unfollowed := true, recurses := true, named := ["internal/strconv.uint64pow10", "math/bits.deBruijn32tab", "math/bits.deBruijn64tab", "net/netip.z4", "net/netip.z6noz", "net/netip.z0", "strconv.ErrSyntax", "strconv.ErrRange"], apart := false, laid := [("math/bits.deBruijn32tab", laid_math_bits_deBruijn32tab), ("math/bits.deBruijn64tab", laid_math_bits_deBruijn64tab), ("internal/strconv.uint64pow10", laid_internal_strconv_uint64pow10), ("strconv.ErrRange", laid_strconv_ErrRange), ("strconv.ErrSyntax", laid_strconv_ErrSyntax), ("net/netip.z4", laid_net_netip_z4), ("net/netip.z6noz", laid_net_netip_z6noz), ("net/netip.z0", laid_net_netip_z0)] }
def FnTwoSaid : Prop := fnTwoRow.holds Tryd.pinned (OpenSpec.ofChange fnTwoSpec)

/-- ITS FALSE NEIGHBOUR: 'it returns false'. Refute it at one input. -/
def fnTwoWrong : ChangeSpec := { name := "fnTwo", fn := fun _ => fun
  | [d1, d2, d3, d4] => { results := [.lit (.bool false)], args := [d1, d2, d3, d4] }
  | _ => none }
def FnTwoWrongFalsely : Prop := fnTwoRow.holds Tryd.pinned (OpenSpec.ofChange fnTwoWrong)

/-- 'laws.FnUnreachableAreLast': WHATEVER THE INPUT: true; the input reads as it did. -/
def fnUnreachableAreLastSpec : ChangeSpec := { name := "fnUnreachableAreLast", fn := fun _ => fun
  | [d1, d2] => { results := [.lit (.bool true)], args := [d1, d2] }
  | _ => none }
def fnUnreachableAreLastRow : OpenClaim := { program := "ytbejikpopealdaadoor", sum := "44c550f7686f62b0578780df3a3baa18b4bad2af0d5fe64619bfd7d8450d9716", func := "addresschoice/laws.FnUnreachableAreLast", spec := "fnUnreachableAreLast", unfollowed := true, recurses := true, named := ["internal/strconv.uint64pow10", "math/bits.deBruijn32tab", "math/bits.deBruijn64tab", "net/netip.z4", "net/netip.z6noz", "net/netip.z0", "strconv.ErrSyntax", "strconv.ErrRange"], apart := false, laid := [("math/bits.deBruijn32tab", laid_math_bits_deBruijn32tab), ("math/bits.deBruijn64tab", laid_math_bits_deBruijn64tab), ("internal/strconv.uint64pow10", laid_internal_strconv_uint64pow10), ("strconv.ErrRange", laid_strconv_ErrRange), ("strconv.ErrSyntax", laid_strconv_ErrSyntax), ("net/netip.z4", laid_net_netip_z4), ("net/netip.z6noz", laid_net_netip_z6noz), ("net/netip.z0", laid_net_netip_z0)] }
def FnUnreachableAreLastSaid : Prop := fnUnreachableAreLastRow.holds Tryd.pinned (OpenSpec.ofChange fnUnreachableAreLastSpec)

/-- ITS FALSE NEIGHBOUR: 'it returns false'. Refute it at one input. -/
def fnUnreachableAreLastWrong : ChangeSpec := { name := "fnUnreachableAreLast", fn := fun _ => fun
  | [d1, d2] => { results := [.lit (.bool false)], args := [d1, d2] }
  | _ => none }
def FnUnreachableAreLastWrongFalsely : Prop := fnUnreachableAreLastRow.holds Tryd.pinned (OpenSpec.ofChange fnUnreachableAreLastWrong)

/- THE SECOND FORM. 'bulk': how many values and letters a reading holds, each counted each time it is reached (what is shared counts as often as it is met; a slice's spare places count too). A statement '..UptoSaid' is the law's where the arguments, and the package variables that the reading takes, are together of bulk at most 1048576: NARROWER than '..Said'. Prove '..Said' where nothing that the law and all that it calls make is longer than what came in: it says more and counts as full. Else prove '..UptoSaid'. A law counts once. -/
mutual
def uptoBulk {H : Type} : DataW H → Nat
  | .lit (.string bytes) => bytes.length + 1
  | .lit _ => 1
  | .nil => 1
  | .ptr d => uptoBulk d + 1
  | .slice elems spare => uptoBulkAll elems + uptoBulkAll spare + 1
  | .agg parts => uptoBulkAll parts + 1
  | .iface _ d => uptoBulk d + 1
  | .map entries => uptoBulkEntries entries + 1
  | .held _ => 1
def uptoBulkAll {H : Type} : List (DataW H) → Nat
  | [] => 0
  | d :: r => uptoBulk d + uptoBulkAll r
def uptoBulkEntries {H : Type} : List (Lit × DataW H) → Nat
  | [] => 0
  | x :: r => uptoBulkEntry x + uptoBulkEntries r
def uptoBulkEntry {H : Type} : Lit × DataW H → Nat
  | (.string bytes, d) => bytes.length + uptoBulk d + 1
  | (_, d) => uptoBulk d + 1
 end
def uptoSmall : (H : Type) → List (DataW H) → Bool := fun _ ds => decide (uptoBulkAll ds ≤ 1048576)
def OpenSpec.upto (s : _root_.Go.ChangeSpec) : _root_.Go.OpenSpec := { _root_.Go.OpenSpec.ofChange s with cond := some uptoSmall }

/-- 'laws.FnCommon', WHERE WHAT IT READS IS OF BULK AT MOST 1048576: true; the input reads as it did. -/
def fnCommonUptoRow : OpenClaim := { program := "ytbejikpopealdaadoor", sum := "44c550f7686f62b0578780df3a3baa18b4bad2af0d5fe64619bfd7d8450d9716", func := "addresschoice/laws.FnCommon", spec := "fnCommon", named := ["net/netip.z4", "net/netip.z6noz", "net/netip.z0"], apart := false, laid := [("net/netip.z4", laid_net_netip_z4), ("net/netip.z6noz", laid_net_netip_z6noz), ("net/netip.z0", laid_net_netip_z0)], narrowed := true }
def FnCommonUptoSaid : Prop := fnCommonUptoRow.holds Tryd.pinned (OpenSpec.upto fnCommonSpec)

/-- 'laws.FnScope', WHERE WHAT IT READS IS OF BULK AT MOST 1048576: true; the input reads as it did. -/
def fnScopeUptoRow : OpenClaim := { program := "ytbejikpopealdaadoor", sum := "44c550f7686f62b0578780df3a3baa18b4bad2af0d5fe64619bfd7d8450d9716", func := "addresschoice/laws.FnScope", spec := "fnScope", named := ["net/netip.z4", "net/netip.z6noz", "net/netip.z0"], apart := false, laid := [("net/netip.z4", laid_net_netip_z4), ("net/netip.z6noz", laid_net_netip_z6noz), ("net/netip.z0", laid_net_netip_z0)], narrowed := true }
def FnScopeUptoSaid : Prop := fnScopeUptoRow.holds Tryd.pinned (OpenSpec.upto fnScopeSpec)

/-- 'laws.FnPolicy', WHERE WHAT IT READS IS OF BULK AT MOST 1048576: true; the input reads as it did. -/
def fnPolicyUptoRow : OpenClaim := { program := "ytbejikpopealdaadoor", sum := "44c550f7686f62b0578780df3a3baa18b4bad2af0d5fe64619bfd7d8450d9716", func := "addresschoice/laws.FnPolicy", spec := "fnPolicy", unfollowed := true, recurses := true, named := ["net/netip.z4", "net/netip.z6noz", "net/netip.z0"], apart := false, laid := [("net/netip.z4", laid_net_netip_z4), ("net/netip.z6noz", laid_net_netip_z6noz), ("net/netip.z0", laid_net_netip_z0)], narrowed := true }
def FnPolicyUptoSaid : Prop := fnPolicyUptoRow.holds Tryd.pinned (OpenSpec.upto fnPolicySpec)

/-- 'laws.FnMappedIsTheSame', WHERE WHAT IT READS IS OF BULK AT MOST 1048576: true; the input reads as it did. -/
def fnMappedIsTheSameUptoRow : OpenClaim := { program := "ytbejikpopealdaadoor", sum := "44c550f7686f62b0578780df3a3baa18b4bad2af0d5fe64619bfd7d8450d9716", func := "addresschoice/laws.FnMappedIsTheSame", spec := "fnMappedIsTheSame", named := ["net/netip.z4", "net/netip.z6noz", "net/netip.z0"], apart := false, laid := [("net/netip.z4", laid_net_netip_z4), ("net/netip.z6noz", laid_net_netip_z6noz), ("net/netip.z0", laid_net_netip_z0)], narrowed := true }
def FnMappedIsTheSameUptoSaid : Prop := fnMappedIsTheSameUptoRow.holds Tryd.pinned (OpenSpec.upto fnMappedIsTheSameSpec)

/-- 'laws.FnAllAreThere', WHERE WHAT IT READS IS OF BULK AT MOST 1048576: true; the input reads as it did. -/
def fnAllAreThereUptoRow : OpenClaim := { program := "ytbejikpopealdaadoor", sum := "44c550f7686f62b0578780df3a3baa18b4bad2af0d5fe64619bfd7d8450d9716", func := "addresschoice/laws.FnAllAreThere", spec := "fnAllAreThere", unfollowed := true, recurses := true, named := ["internal/strconv.uint64pow10", "math/bits.deBruijn32tab", "math/bits.deBruijn64tab", "net/netip.z4", "net/netip.z6noz", "net/netip.z0", "strconv.ErrSyntax", "strconv.ErrRange"], apart := false, laid := [("math/bits.deBruijn32tab", laid_math_bits_deBruijn32tab), ("math/bits.deBruijn64tab", laid_math_bits_deBruijn64tab), ("internal/strconv.uint64pow10", laid_internal_strconv_uint64pow10), ("strconv.ErrRange", laid_strconv_ErrRange), ("strconv.ErrSyntax", laid_strconv_ErrSyntax), ("net/netip.z4", laid_net_netip_z4), ("net/netip.z6noz", laid_net_netip_z6noz), ("net/netip.z0", laid_net_netip_z0)], narrowed := true }
def FnAllAreThereUptoSaid : Prop := fnAllAreThereUptoRow.holds Tryd.pinned (OpenSpec.upto fnAllAreThereSpec)

/-- 'laws.FnFewerKeepTheirOrder', WHERE WHAT IT READS IS OF BULK AT MOST 1048576: true; the input reads as it did. -/
def fnFewerKeepTheirOrderUptoRow : OpenClaim := { program := "ytbejikpopealdaadoor", sum := "44c550f7686f62b0578780df3a3baa18b4bad2af0d5fe64619bfd7d8450d9716", func := "addresschoice/laws.FnFewerKeepTheirOrder", spec := "fnFewerKeepTheirOrder", unfollowed := true, recurses := true, named := ["internal/strconv.uint64pow10", "math/bits.deBruijn32tab", "math/bits.deBruijn64tab", "net/netip.z4", "net/netip.z6noz", "net/netip.z0", "strconv.ErrSyntax", "strconv.ErrRange"], apart := false, laid := [("math/bits.deBruijn32tab", laid_math_bits_deBruijn32tab), ("math/bits.deBruijn64tab", laid_math_bits_deBruijn64tab), ("internal/strconv.uint64pow10", laid_internal_strconv_uint64pow10), ("strconv.ErrRange", laid_strconv_ErrRange), ("strconv.ErrSyntax", laid_strconv_ErrSyntax), ("net/netip.z4", laid_net_netip_z4), ("net/netip.z6noz", laid_net_netip_z6noz), ("net/netip.z0", laid_net_netip_z0)], narrowed := true }
def FnFewerKeepTheirOrderUptoSaid : Prop := fnFewerKeepTheirOrderUptoRow.holds Tryd.pinned (OpenSpec.upto fnFewerKeepTheirOrderSpec)

/-- 'laws.FnOrder', WHERE WHAT IT READS IS OF BULK AT MOST 1048576: true; the input reads as it did. -/
def fnOrderUptoRow : OpenClaim := { program := "ytbejikpopealdaadoor", sum := "44c550f7686f62b0578780df3a3baa18b4bad2af0d5fe64619bfd7d8450d9716", func := "addresschoice/laws.FnOrder", spec := "fnOrder", unfollowed := true, recurses := true, named := ["internal/strconv.uint64pow10", "math/bits.deBruijn32tab", "math/bits.deBruijn64tab", "net/netip.z4", "net/netip.z6noz", "net/netip.z0", "strconv.ErrSyntax", "strconv.ErrRange"], apart := false, laid := [("math/bits.deBruijn32tab", laid_math_bits_deBruijn32tab), ("math/bits.deBruijn64tab", laid_math_bits_deBruijn64tab), ("internal/strconv.uint64pow10", laid_internal_strconv_uint64pow10), ("strconv.ErrRange", laid_strconv_ErrRange), ("strconv.ErrSyntax", laid_strconv_ErrSyntax), ("net/netip.z4", laid_net_netip_z4), ("net/netip.z6noz", laid_net_netip_z6noz), ("net/netip.z0", laid_net_netip_z0)], narrowed := true }
def FnOrderUptoSaid : Prop := fnOrderUptoRow.holds Tryd.pinned (OpenSpec.upto fnOrderSpec)

/-- 'laws.FnTwo', WHERE WHAT IT READS IS OF BULK AT MOST 1048576: true; the input reads as it did. -/
def fnTwoUptoRow : OpenClaim := { program := "ytbejikpopealdaadoor", sum := "44c550f7686f62b0578780df3a3baa18b4bad2af0d5fe64619bfd7d8450d9716", func := "addresschoice/laws.FnTwo", spec := "fnTwo", unfollowed := true, recurses := true, named := ["internal/strconv.uint64pow10", "math/bits.deBruijn32tab", "math/bits.deBruijn64tab", "net/netip.z4", "net/netip.z6noz", "net/netip.z0", "strconv.ErrSyntax", "strconv.ErrRange"], apart := false, laid := [("math/bits.deBruijn32tab", laid_math_bits_deBruijn32tab), ("math/bits.deBruijn64tab", laid_math_bits_deBruijn64tab), ("internal/strconv.uint64pow10", laid_internal_strconv_uint64pow10), ("strconv.ErrRange", laid_strconv_ErrRange), ("strconv.ErrSyntax", laid_strconv_ErrSyntax), ("net/netip.z4", laid_net_netip_z4), ("net/netip.z6noz", laid_net_netip_z6noz), ("net/netip.z0", laid_net_netip_z0)], narrowed := true }
def FnTwoUptoSaid : Prop := fnTwoUptoRow.holds Tryd.pinned (OpenSpec.upto fnTwoSpec)

/-- 'laws.FnUnreachableAreLast', WHERE WHAT IT READS IS OF BULK AT MOST 1048576: true; the input reads as it did. -/
def fnUnreachableAreLastUptoRow : OpenClaim := { program := "ytbejikpopealdaadoor", sum := "44c550f7686f62b0578780df3a3baa18b4bad2af0d5fe64619bfd7d8450d9716", func := "addresschoice/laws.FnUnreachableAreLast", spec := "fnUnreachableAreLast", unfollowed := true, recurses := true, named := ["internal/strconv.uint64pow10", "math/bits.deBruijn32tab", "math/bits.deBruijn64tab", "net/netip.z4", "net/netip.z6noz", "net/netip.z0", "strconv.ErrSyntax", "strconv.ErrRange"], apart := false, laid := [("math/bits.deBruijn32tab", laid_math_bits_deBruijn32tab), ("math/bits.deBruijn64tab", laid_math_bits_deBruijn64tab), ("internal/strconv.uint64pow10", laid_internal_strconv_uint64pow10), ("strconv.ErrRange", laid_strconv_ErrRange), ("strconv.ErrSyntax", laid_strconv_ErrSyntax), ("net/netip.z4", laid_net_netip_z4), ("net/netip.z6noz", laid_net_netip_z6noz), ("net/netip.z0", laid_net_netip_z0)], narrowed := true }
def FnUnreachableAreLastUptoSaid : Prop := fnUnreachableAreLastUptoRow.holds Tryd.pinned (OpenSpec.upto fnUnreachableAreLastSpec)

end Rows
end Go.Proofs.YtbejikpopealdaaDoor
