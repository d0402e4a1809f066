/-
  NARROWER THAN 'FOR EVERY INPUT', by the rows' own cells (each row's printed sentence says how): FnNamedDouble: laid · FnNamedMult: laid · FnNamedAdd: laid · FnNamedOrder: laid · FnTwistTo: laid · FnDsaVerify: laid · FnTwistOn: laid · FnDsaSign: laid · FnElgamal: laid · FnTwistMult: laid · FnTwistAdd: laid.
  DERIVED. THE GIVEN ROWS OF THIS SEAT. 11 by the template 'for every input the law returns true; each argument reads behind the call as it read before'; 0 by the template 'total and deterministic' (their statements: YtohhkjamddojmaaGreatDoorTotals.lean).
  GIVEN WITH THE SEED: the statements are not yours to turn. If you find one false, say at which input.
  Laid BY PROGRAM, IN A SANDBOX (cutbox-rows.mjs): the forced cells as the released guide's own fill.sh prints them over the translation d73fd32434b95258… (all of the seat's roots in one cut). By AI agents, Wed Nov 11 2026. No macro, syntax, notation, axiom, sorry.
-/
import Derived.Test.YtohhkjamddojmaaGreatDoorChecked
import GoSem.Claim
import GoSem.ClaimJoined
import GoSem.ClaimMapViews
import Derived.JoinedTies
import Derived.KernelRfl
namespace Go.Proofs.YtohhkjamddojmaaGreatDoor
/- THE CELL 'sum', in the pinned program and in every row, IS THE sha256 OF THE DUMP (.gsa) THAT YtohhkjamddojmaaGreatDoorProg.lean LOADS. Nothing in Lean hashes anything: it is a label: what it is worth is what the hold of that sum in a sandbox is worth. -/
noncomputable def Tryz.pinned : Pinned := { name := "ytohhkjamddojmaagreatdoor", sum := "d73fd32434b952583b3764ccedf09b294a035255121c9009c71638ad17839276", checked := Tryz.checked }
namespace Rows
def none {H : Type} : Left H := { results := [], args := [] }

/- WHAT THE LISTED PACKAGE-LEVEL VARIABLES READ AS WHEN THE CALL BEGINS. Each datum BY PROGRAM (the guide's laid-datum.mjs) off the statement by which the dump's own 'gosem.cut.vars' lays the variable. In a bare row this is a premise. The card (YtohhkjamddojmaaGreatDoorCards.lean) ties it to the program's text. -/
def laid_io_EOF {H : Type} : DataW H := .iface "*errors.errorString" (.ptr (.agg [.lit (.string [69, 79, 70])]))
def laid_pub_counterseal_pub_bigall_errNoDigits {H : Type} : DataW H := .iface "*errors.errorString" (.ptr (.agg [.lit (.string [110, 117, 109, 98, 101, 114, 32, 104, 97, 115, 32, 110, 111, 32, 100, 105, 103, 105, 116, 115])]))
def laid_pub_counterseal_pub_bigall_errInvalSep {H : Type} : DataW H := .iface "*errors.errorString" (.ptr (.agg [.lit (.string [39, 95, 39, 32, 109, 117, 115, 116, 32, 115, 101, 112, 97, 114, 97, 116, 101, 32, 115, 117, 99, 99, 101, 115, 115, 105, 118, 101, 32, 100, 105, 103, 105, 116, 115])]))
def laid_pub_counterseal_pub_bigall_divRecursiveThreshold {H : Type} : DataW H := .lit (.int .i64 40)
def laid_pub_counterseal_pub_bigall_karatsubaThreshold {H : Type} : DataW H := .lit (.int .i64 40)
def laid_pub_counterseal_pub_bigall_basicSqrThreshold {H : Type} : DataW H := .lit (.int .i64 12)
def laid_pub_counterseal_pub_bigall_karatsubaSqrThreshold {H : Type} : DataW H := .lit (.int .i64 80)
def laid_math_bits_deBruijn32tab {H : Type} : DataW H := .agg [.lit (.int .u8 0), .lit (.int .u8 1), .lit (.int .u8 28), .lit (.int .u8 2), .lit (.int .u8 29), .lit (.int .u8 14), .lit (.int .u8 24), .lit (.int .u8 3), .lit (.int .u8 30), .lit (.int .u8 22), .lit (.int .u8 20), .lit (.int .u8 15), .lit (.int .u8 25), .lit (.int .u8 17), .lit (.int .u8 4), .lit (.int .u8 8), .lit (.int .u8 31), .lit (.int .u8 27), .lit (.int .u8 13), .lit (.int .u8 23), .lit (.int .u8 21), .lit (.int .u8 19), .lit (.int .u8 16), .lit (.int .u8 7), .lit (.int .u8 26), .lit (.int .u8 12), .lit (.int .u8 18), .lit (.int .u8 6), .lit (.int .u8 11), .lit (.int .u8 5), .lit (.int .u8 10), .lit (.int .u8 9)]
def laid_math_bits_deBruijn64tab {H : Type} : DataW H := .agg [.lit (.int .u8 0), .lit (.int .u8 1), .lit (.int .u8 56), .lit (.int .u8 2), .lit (.int .u8 57), .lit (.int .u8 49), .lit (.int .u8 28), .lit (.int .u8 3), .lit (.int .u8 61), .lit (.int .u8 58), .lit (.int .u8 42), .lit (.int .u8 50), .lit (.int .u8 38), .lit (.int .u8 29), .lit (.int .u8 17), .lit (.int .u8 4), .lit (.int .u8 62), .lit (.int .u8 47), .lit (.int .u8 59), .lit (.int .u8 36), .lit (.int .u8 45), .lit (.int .u8 43), .lit (.int .u8 51), .lit (.int .u8 22), .lit (.int .u8 53), .lit (.int .u8 39), .lit (.int .u8 33), .lit (.int .u8 30), .lit (.int .u8 24), .lit (.int .u8 18), .lit (.int .u8 12), .lit (.int .u8 5), .lit (.int .u8 63), .lit (.int .u8 55), .lit (.int .u8 48), .lit (.int .u8 27), .lit (.int .u8 60), .lit (.int .u8 41), .lit (.int .u8 37), .lit (.int .u8 16), .lit (.int .u8 46), .lit (.int .u8 35), .lit (.int .u8 44), .lit (.int .u8 21), .lit (.int .u8 52), .lit (.int .u8 32), .lit (.int .u8 23), .lit (.int .u8 11), .lit (.int .u8 54), .lit (.int .u8 26), .lit (.int .u8 40), .lit (.int .u8 15), .lit (.int .u8 34), .lit (.int .u8 20), .lit (.int .u8 31), .lit (.int .u8 10), .lit (.int .u8 25), .lit (.int .u8 14), .lit (.int .u8 19), .lit (.int .u8 9), .lit (.int .u8 13), .lit (.int .u8 8), .lit (.int .u8 7), .lit (.int .u8 6)]
def laid_io_ErrShortBuffer {H : Type} : DataW H := .iface "*errors.errorString" (.ptr (.agg [.lit (.string [115, 104, 111, 114, 116, 32, 98, 117, 102, 102, 101, 114])]))
def laid_io_ErrUnexpectedEOF {H : Type} : DataW H := .iface "*errors.errorString" (.ptr (.agg [.lit (.string [117, 110, 101, 120, 112, 101, 99, 116, 101, 100, 32, 69, 79, 70])]))
def laid_pub_counterseal_pub_godsa_ErrInvalidPublicKey {H : Type} : DataW H := .iface "*errors.errorString" (.ptr (.agg [.lit (.string [99, 114, 121, 112, 116, 111, 47, 100, 115, 97, 58, 32, 105, 110, 118, 97, 108, 105, 100, 32, 112, 117, 98, 108, 105, 99, 32, 107, 101, 121])]))

/-- 'laws.FnNamedDouble': WHATEVER THE INPUT: true; the input reads as it did. -/
def fnNamedDoubleSpec : ChangeSpec := { name := "fnNamedDouble", fn := fun _ => fun
  | [d1, d2] => { results := [.lit (.bool true)], args := [d1, d2] }
  | _ => none }
def fnNamedDoubleRow : OpenClaim := { program := "ytohhkjamddojmaagreatdoor", sum := "d73fd32434b952583b3764ccedf09b294a035255121c9009c71638ad17839276", func := "pub-counterseal/laws.FnNamedDouble", spec := "fnNamedDouble", inPlace := ["math/bits.Add64", "math/bits.Sub64"], unfollowed := true, recurses := true, named := ["io.EOF", "pub-counterseal/pub/bigall.errInvalSep", "pub-counterseal/pub/bigall.errNoDigits", "pub-counterseal/pub/bigall.basicSqrThreshold", "pub-counterseal/pub/bigall.karatsubaSqrThreshold", "pub-counterseal/pub/bigall.karatsubaThreshold", "pub-counterseal/pub/bigall.divRecursiveThreshold"], apart := false, laid := [("io.EOF", laid_io_EOF), ("pub-counterseal/pub/bigall.errNoDigits", laid_pub_counterseal_pub_bigall_errNoDigits), ("pub-counterseal/pub/bigall.errInvalSep", laid_pub_counterseal_pub_bigall_errInvalSep), ("pub-counterseal/pub/bigall.divRecursiveThreshold", laid_pub_counterseal_pub_bigall_divRecursiveThreshold), ("pub-counterseal/pub/bigall.karatsubaThreshold", laid_pub_counterseal_pub_bigall_karatsubaThreshold), ("pub-counterseal/pub/bigall.basicSqrThreshold", laid_pub_counterseal_pub_bigall_basicSqrThreshold), ("pub-counterseal/pub/bigall.karatsubaSqrThreshold", laid_pub_counterseal_pub_bigall_karatsubaSqrThreshold)] }
def FnNamedDoubleSaid : Prop := fnNamedDoubleRow.holds Tryz.pinned (OpenSpec.ofChange fnNamedDoubleSpec)

/-- ITS FALSE NEIGHBOUR: 'it returns false'. Refute it at one input. -/
def fnNamedDoubleWrong : ChangeSpec := { name := "fnNamedDouble", fn := fun _ => fun
  | [d1, d2] => { results := [.lit (.bool false)], args := [d1, d2] }
  | _ => none }
def FnNamedDoubleWrongFalsely : Prop := fnNamedDoubleRow.holds Tryz.pinned (OpenSpec.ofChange fnNamedDoubleWrong)

/-- 'laws.FnNamedMult': WHATEVER THE INPUT: true; the input reads as it did. -/
def fnNamedMultSpec : ChangeSpec := { name := "fnNamedMult", fn := fun _ => fun
  | [d1, d2] => { results := [.lit (.bool true)], args := [d1, d2] }
  | _ => none }
def fnNamedMultRow : OpenClaim := { program := "ytohhkjamddojmaagreatdoor", sum := "d73fd32434b952583b3764ccedf09b294a035255121c9009c71638ad17839276", func := "pub-counterseal/laws.FnNamedMult", spec := "fnNamedMult", inPlace := ["math/bits.Add64", "math/bits.Sub64"], unfollowed := true, recurses := true, named := ["io.EOF", "pub-counterseal/pub/bigall.errInvalSep", "pub-counterseal/pub/bigall.errNoDigits", "pub-counterseal/pub/bigall.basicSqrThreshold", "pub-counterseal/pub/bigall.karatsubaSqrThreshold", "pub-counterseal/pub/bigall.karatsubaThreshold", "pub-counterseal/pub/bigall.divRecursiveThreshold"], apart := false, laid := [("io.EOF", laid_io_EOF), ("pub-counterseal/pub/bigall.errNoDigits", laid_pub_counterseal_pub_bigall_errNoDigits), ("pub-counterseal/pub/bigall.errInvalSep", laid_pub_counterseal_pub_bigall_errInvalSep), ("pub-counterseal/pub/bigall.divRecursiveThreshold", laid_pub_counterseal_pub_bigall_divRecursiveThreshold), ("pub-counterseal/pub/bigall.karatsubaThreshold", laid_pub_counterseal_pub_bigall_karatsubaThreshold), ("pub-counterseal/pub/bigall.basicSqrThreshold", laid_pub_counterseal_pub_bigall_basicSqrThreshold), ("pub-counterseal/pub/bigall.karatsubaSqrThreshold", laid_pub_counterseal_pub_bigall_karatsubaSqrThreshold)] }
def FnNamedMultSaid : Prop := fnNamedMultRow.holds Tryz.pinned (OpenSpec.ofChange fnNamedMultSpec)

/-- ITS FALSE NEIGHBOUR: 'it returns false'. Refute it at one input. -/
def fnNamedMultWrong : ChangeSpec := { name := "fnNamedMult", fn := fun _ => fun
  | [d1, d2] => { results := [.lit (.bool false)], args := [d1, d2] }
  | _ => none }
def FnNamedMultWrongFalsely : Prop := fnNamedMultRow.holds Tryz.pinned (OpenSpec.ofChange fnNamedMultWrong)

/-- 'laws.FnNamedAdd': WHATEVER THE INPUT: true; the input reads as it did. -/
def fnNamedAddSpec : ChangeSpec := { name := "fnNamedAdd", fn := fun _ => fun
  | [d1, d2, d3] => { results := [.lit (.bool true)], args := [d1, d2, d3] }
  | _ => none }
def fnNamedAddRow : OpenClaim := { program := "ytohhkjamddojmaagreatdoor", sum := "d73fd32434b952583b3764ccedf09b294a035255121c9009c71638ad17839276", func := "pub-counterseal/laws.FnNamedAdd", spec := "fnNamedAdd", inPlace := ["math/bits.Add64", "math/bits.Sub64"], unfollowed := true, recurses := true, named := ["io.EOF", "pub-counterseal/pub/bigall.errInvalSep", "pub-counterseal/pub/bigall.errNoDigits", "pub-counterseal/pub/bigall.basicSqrThreshold", "pub-counterseal/pub/bigall.karatsubaSqrThreshold", "pub-counterseal/pub/bigall.karatsubaThreshold", "pub-counterseal/pub/bigall.divRecursiveThreshold"], apart := false, laid := [("io.EOF", laid_io_EOF), ("pub-counterseal/pub/bigall.errNoDigits", laid_pub_counterseal_pub_bigall_errNoDigits), ("pub-counterseal/pub/bigall.errInvalSep", laid_pub_counterseal_pub_bigall_errInvalSep), ("pub-counterseal/pub/bigall.divRecursiveThreshold", laid_pub_counterseal_pub_bigall_divRecursiveThreshold), ("pub-counterseal/pub/bigall.karatsubaThreshold", laid_pub_counterseal_pub_bigall_karatsubaThreshold), ("pub-counterseal/pub/bigall.basicSqrThreshold", laid_pub_counterseal_pub_bigall_basicSqrThreshold), ("pub-counterseal/pub/bigall.karatsubaSqrThreshold", laid_pub_counterseal_pub_bigall_karatsubaSqrThreshold)] }
def FnNamedAddSaid : Prop := fnNamedAddRow.holds Tryz.pinned (OpenSpec.ofChange fnNamedAddSpec)

/-- ITS FALSE NEIGHBOUR: 'it returns false'. Refute it at one input. -/
def fnNamedAddWrong : ChangeSpec := { name := "fnNamedAdd", fn := fun _ => fun
  | [d1, d2, d3] => { results := [.lit (.bool false)], args := [d1, d2, d3] }
  | _ => none }
def FnNamedAddWrongFalsely : Prop := fnNamedAddRow.holds Tryz.pinned (OpenSpec.ofChange fnNamedAddWrong)

/-- 'laws.FnNamedOrder': WHATEVER THE INPUT: true; the input reads as it did. -/
def fnNamedOrderSpec : ChangeSpec := { name := "fnNamedOrder", fn := fun _ => fun
  | [d] => { results := [.lit (.bool true)], args := [d] }
  | _ => none }
def fnNamedOrderRow : OpenClaim := { program := "ytohhkjamddojmaagreatdoor", sum := "d73fd32434b952583b3764ccedf09b294a035255121c9009c71638ad17839276", func := "pub-counterseal/laws.FnNamedOrder", spec := "fnNamedOrder", inPlace := ["math/bits.Add64", "math/bits.Sub64"], unfollowed := true, recurses := true, named := ["io.EOF", "pub-counterseal/pub/bigall.errInvalSep", "pub-counterseal/pub/bigall.errNoDigits", "pub-counterseal/pub/bigall.basicSqrThreshold", "pub-counterseal/pub/bigall.karatsubaSqrThreshold", "pub-counterseal/pub/bigall.karatsubaThreshold", "pub-counterseal/pub/bigall.divRecursiveThreshold"], apart := false, laid := [("io.EOF", laid_io_EOF), ("pub-counterseal/pub/bigall.errNoDigits", laid_pub_counterseal_pub_bigall_errNoDigits), ("pub-counterseal/pub/bigall.errInvalSep", laid_pub_counterseal_pub_bigall_errInvalSep), ("pub-counterseal/pub/bigall.divRecursiveThreshold", laid_pub_counterseal_pub_bigall_divRecursiveThreshold), ("pub-counterseal/pub/bigall.karatsubaThreshold", laid_pub_counterseal_pub_bigall_karatsubaThreshold), ("pub-counterseal/pub/bigall.basicSqrThreshold", laid_pub_counterseal_pub_bigall_basicSqrThreshold), ("pub-counterseal/pub/bigall.karatsubaSqrThreshold", laid_pub_counterseal_pub_bigall_karatsubaSqrThreshold)] }
def FnNamedOrderSaid : Prop := fnNamedOrderRow.holds Tryz.pinned (OpenSpec.ofChange fnNamedOrderSpec)

/-- ITS FALSE NEIGHBOUR: 'it returns false'. Refute it at one input. -/
def fnNamedOrderWrong : ChangeSpec := { name := "fnNamedOrder", fn := fun _ => fun
  | [d] => { results := [.lit (.bool false)], args := [d] }
  | _ => none }
def FnNamedOrderWrongFalsely : Prop := fnNamedOrderRow.holds Tryz.pinned (OpenSpec.ofChange fnNamedOrderWrong)

/-- 'laws.FnTwistTo': WHATEVER THE INPUT: true; the input reads as it did. -/
def fnTwistToSpec : ChangeSpec := { name := "fnTwistTo", fn := fun _ => fun
  | [d1, d2, d3] => { results := [.lit (.bool true)], args := [d1, d2, d3] }
  | _ => none }
def fnTwistToRow : OpenClaim := { program := "ytohhkjamddojmaagreatdoor", sum := "d73fd32434b952583b3764ccedf09b294a035255121c9009c71638ad17839276", func := "pub-counterseal/laws.FnTwistTo", spec := "fnTwistTo", inPlace := ["math/bits.Add64", "math/bits.Sub64"], unfollowed := true, recurses := true, named := ["pub-counterseal/pub/bigall.divRecursiveThreshold", "pub-counterseal/pub/bigall.karatsubaThreshold", "pub-counterseal/pub/bigall.basicSqrThreshold", "pub-counterseal/pub/bigall.karatsubaSqrThreshold", "math/bits.deBruijn32tab", "math/bits.deBruijn64tab"], apart := false, laid := [("math/bits.deBruijn32tab", laid_math_bits_deBruijn32tab), ("math/bits.deBruijn64tab", laid_math_bits_deBruijn64tab), ("pub-counterseal/pub/bigall.divRecursiveThreshold", laid_pub_counterseal_pub_bigall_divRecursiveThreshold), ("pub-counterseal/pub/bigall.karatsubaThreshold", laid_pub_counterseal_pub_bigall_karatsubaThreshold), ("pub-counterseal/pub/bigall.basicSqrThreshold", laid_pub_counterseal_pub_bigall_basicSqrThreshold), ("pub-counterseal/pub/bigall.karatsubaSqrThreshold", laid_pub_counterseal_pub_bigall_karatsubaSqrThreshold)] }
def FnTwistToSaid : Prop := fnTwistToRow.holds Tryz.pinned (OpenSpec.ofChange fnTwistToSpec)

/-- ITS FALSE NEIGHBOUR: 'it returns false'. Refute it at one input. -/
def fnTwistToWrong : ChangeSpec := { name := "fnTwistTo", fn := fun _ => fun
  | [d1, d2, d3] => { results := [.lit (.bool false)], args := [d1, d2, d3] }
  | _ => none }
def FnTwistToWrongFalsely : Prop := fnTwistToRow.holds Tryz.pinned (OpenSpec.ofChange fnTwistToWrong)

/-- 'laws.FnDsaVerify': WHATEVER THE INPUT: true; the input reads as it did. -/
def fnDsaVerifySpec : ChangeSpec := { name := "fnDsaVerify", fn := fun _ => fun
  | [d1, d2, d3, d4] => { results := [.lit (.bool true)], args := [d1, d2, d3, d4] }
  | _ => none }
def fnDsaVerifyRow : OpenClaim := { program := "ytohhkjamddojmaagreatdoor", sum := "d73fd32434b952583b3764ccedf09b294a035255121c9009c71638ad17839276", func := "pub-counterseal/laws.FnDsaVerify", spec := "fnDsaVerify", inPlace := ["math/bits.Add64", "math/bits.Sub64"], recurses := true, named := ["pub-counterseal/pub/bigall.divRecursiveThreshold", "pub-counterseal/pub/bigall.karatsubaThreshold", "pub-counterseal/pub/bigall.basicSqrThreshold", "pub-counterseal/pub/bigall.karatsubaSqrThreshold", "math/bits.deBruijn32tab", "math/bits.deBruijn64tab"], apart := false, laid := [("math/bits.deBruijn32tab", laid_math_bits_deBruijn32tab), ("math/bits.deBruijn64tab", laid_math_bits_deBruijn64tab), ("pub-counterseal/pub/bigall.divRecursiveThreshold", laid_pub_counterseal_pub_bigall_divRecursiveThreshold), ("pub-counterseal/pub/bigall.karatsubaThreshold", laid_pub_counterseal_pub_bigall_karatsubaThreshold), ("pub-counterseal/pub/bigall.basicSqrThreshold", laid_pub_counterseal_pub_bigall_basicSqrThreshold), ("pub-counterseal/pub/bigall.karatsubaSqrThreshold", laid_pub_counterseal_pub_bigall_karatsubaSqrThreshold)] }
def FnDsaVerifySaid : Prop := fnDsaVerifyRow.holds Tryz.pinned (OpenSpec.ofChange fnDsaVerifySpec)

/-- ITS FALSE NEIGHBOUR: 'it returns false'. Refute it at one input. -/
def fnDsaVerifyWrong : ChangeSpec := { name := "fnDsaVerify", fn := fun _ => fun
  | [d1, d2, d3, d4] => { results := [.lit (.bool false)], args := [d1, d2, d3, d4] }
  | _ => none }
def FnDsaVerifyWrongFalsely : Prop := fnDsaVerifyRow.holds Tryz.pinned (OpenSpec.ofChange fnDsaVerifyWrong)

/-- 'laws.FnTwistOn': WHATEVER THE INPUT: true; the input reads as it did. -/
def fnTwistOnSpec : ChangeSpec := { name := "fnTwistOn", fn := fun _ => fun
  | [d1, d2, d3] => { results := [.lit (.bool true)], args := [d1, d2, d3] }
  | _ => none }
def fnTwistOnRow : OpenClaim := { program := "ytohhkjamddojmaagreatdoor", sum := "d73fd32434b952583b3764ccedf09b294a035255121c9009c71638ad17839276", func := "pub-counterseal/laws.FnTwistOn", spec := "fnTwistOn", inPlace := ["math/bits.Add64", "math/bits.Sub64"], unfollowed := true, recurses := true, named := ["pub-counterseal/pub/bigall.divRecursiveThreshold", "pub-counterseal/pub/bigall.karatsubaThreshold", "pub-counterseal/pub/bigall.basicSqrThreshold", "pub-counterseal/pub/bigall.karatsubaSqrThreshold", "math/bits.deBruijn32tab", "math/bits.deBruijn64tab"], apart := false, laid := [("math/bits.deBruijn32tab", laid_math_bits_deBruijn32tab), ("math/bits.deBruijn64tab", laid_math_bits_deBruijn64tab), ("pub-counterseal/pub/bigall.divRecursiveThreshold", laid_pub_counterseal_pub_bigall_divRecursiveThreshold), ("pub-counterseal/pub/bigall.karatsubaThreshold", laid_pub_counterseal_pub_bigall_karatsubaThreshold), ("pub-counterseal/pub/bigall.basicSqrThreshold", laid_pub_counterseal_pub_bigall_basicSqrThreshold), ("pub-counterseal/pub/bigall.karatsubaSqrThreshold", laid_pub_counterseal_pub_bigall_karatsubaSqrThreshold)] }
def FnTwistOnSaid : Prop := fnTwistOnRow.holds Tryz.pinned (OpenSpec.ofChange fnTwistOnSpec)

/-- ITS FALSE NEIGHBOUR: 'it returns false'. Refute it at one input. -/
def fnTwistOnWrong : ChangeSpec := { name := "fnTwistOn", fn := fun _ => fun
  | [d1, d2, d3] => { results := [.lit (.bool false)], args := [d1, d2, d3] }
  | _ => none }
def FnTwistOnWrongFalsely : Prop := fnTwistOnRow.holds Tryz.pinned (OpenSpec.ofChange fnTwistOnWrong)

/-- 'laws.FnDsaSign': WHATEVER THE INPUT: true; the input reads as it did. -/
def fnDsaSignSpec : ChangeSpec := { name := "fnDsaSign", fn := fun _ => fun
  | [d1, d2, d3] => { results := [.lit (.bool true)], args := [d1, d2, d3] }
  | _ => none }
def fnDsaSignRow : OpenClaim := { program := "ytohhkjamddojmaagreatdoor", sum := "d73fd32434b952583b3764ccedf09b294a035255121c9009c71638ad17839276", func := "pub-counterseal/laws.FnDsaSign", spec := "fnDsaSign", inPlace := ["math/bits.Add64", "math/bits.Sub64"], unfollowed := true, recurses := true, named := ["pub-counterseal/pub/godsa.ErrInvalidPublicKey", "io.ErrShortBuffer", "io.EOF", "io.ErrUnexpectedEOF", "pub-counterseal/pub/bigall.divRecursiveThreshold", "pub-counterseal/pub/bigall.karatsubaThreshold", "pub-counterseal/pub/bigall.basicSqrThreshold", "pub-counterseal/pub/bigall.karatsubaSqrThreshold", "math/bits.deBruijn32tab", "math/bits.deBruijn64tab"], apart := false, laid := [("math/bits.deBruijn32tab", laid_math_bits_deBruijn32tab), ("math/bits.deBruijn64tab", laid_math_bits_deBruijn64tab), ("io.ErrShortBuffer", laid_io_ErrShortBuffer), ("io.EOF", laid_io_EOF), ("io.ErrUnexpectedEOF", laid_io_ErrUnexpectedEOF), ("pub-counterseal/pub/bigall.divRecursiveThreshold", laid_pub_counterseal_pub_bigall_divRecursiveThreshold), ("pub-counterseal/pub/bigall.karatsubaThreshold", laid_pub_counterseal_pub_bigall_karatsubaThreshold), ("pub-counterseal/pub/bigall.basicSqrThreshold", laid_pub_counterseal_pub_bigall_basicSqrThreshold), ("pub-counterseal/pub/bigall.karatsubaSqrThreshold", laid_pub_counterseal_pub_bigall_karatsubaSqrThreshold), ("pub-counterseal/pub/godsa.ErrInvalidPublicKey", laid_pub_counterseal_pub_godsa_ErrInvalidPublicKey)] }
def FnDsaSignSaid : Prop := fnDsaSignRow.holds Tryz.pinned (OpenSpec.ofChange fnDsaSignSpec)

/-- ITS FALSE NEIGHBOUR: 'it returns false'. Refute it at one input. -/
def fnDsaSignWrong : ChangeSpec := { name := "fnDsaSign", fn := fun _ => fun
  | [d1, d2, d3] => { results := [.lit (.bool false)], args := [d1, d2, d3] }
  | _ => none }
def FnDsaSignWrongFalsely : Prop := fnDsaSignRow.holds Tryz.pinned (OpenSpec.ofChange fnDsaSignWrong)

/-- 'laws.FnElgamal': WHATEVER THE INPUT: true; the input reads as it did. -/
def fnElgamalSpec : ChangeSpec := { name := "fnElgamal", fn := fun _ => fun
  | [d1, d2, d3, d4] => { results := [.lit (.bool true)], args := [d1, d2, d3, d4] }
  | _ => none }
def fnElgamalRow : OpenClaim := { program := "ytohhkjamddojmaagreatdoor", sum := "d73fd32434b952583b3764ccedf09b294a035255121c9009c71638ad17839276", func := "pub-counterseal/laws.FnElgamal", spec := "fnElgamal", inPlace := ["math/bits.Add64", "math/bits.Sub64", "crypto/internal/constanttime.boolToUint8"], unfollowed := true, recurses := true, named := ["io.ErrShortBuffer", "io.EOF", "io.ErrUnexpectedEOF", "pub-counterseal/pub/bigall.divRecursiveThreshold", "pub-counterseal/pub/bigall.karatsubaThreshold", "pub-counterseal/pub/bigall.basicSqrThreshold", "pub-counterseal/pub/bigall.karatsubaSqrThreshold", "math/bits.deBruijn32tab", "math/bits.deBruijn64tab"], apart := false, laid := [("math/bits.deBruijn32tab", laid_math_bits_deBruijn32tab), ("math/bits.deBruijn64tab", laid_math_bits_deBruijn64tab), ("io.ErrShortBuffer", laid_io_ErrShortBuffer), ("io.EOF", laid_io_EOF), ("io.ErrUnexpectedEOF", laid_io_ErrUnexpectedEOF), ("pub-counterseal/pub/bigall.divRecursiveThreshold", laid_pub_counterseal_pub_bigall_divRecursiveThreshold), ("pub-counterseal/pub/bigall.karatsubaThreshold", laid_pub_counterseal_pub_bigall_karatsubaThreshold), ("pub-counterseal/pub/bigall.basicSqrThreshold", laid_pub_counterseal_pub_bigall_basicSqrThreshold), ("pub-counterseal/pub/bigall.karatsubaSqrThreshold", laid_pub_counterseal_pub_bigall_karatsubaSqrThreshold)] }
def FnElgamalSaid : Prop := fnElgamalRow.holds Tryz.pinned (OpenSpec.ofChange fnElgamalSpec)

/-- ITS FALSE NEIGHBOUR: 'it returns false'. Refute it at one input. -/
def fnElgamalWrong : ChangeSpec := { name := "fnElgamal", fn := fun _ => fun
  | [d1, d2, d3, d4] => { results := [.lit (.bool false)], args := [d1, d2, d3, d4] }
  | _ => none }
def FnElgamalWrongFalsely : Prop := fnElgamalRow.holds Tryz.pinned (OpenSpec.ofChange fnElgamalWrong)

/-- 'laws.FnTwistMult': WHATEVER THE INPUT: true; the input reads as it did. -/
def fnTwistMultSpec : ChangeSpec := { name := "fnTwistMult", fn := fun _ => fun
  | [d1, d2, d3, d4, d5] => { results := [.lit (.bool true)], args := [d1, d2, d3, d4, d5] }
  | _ => none }
def fnTwistMultRow : OpenClaim := { program := "ytohhkjamddojmaagreatdoor", sum := "d73fd32434b952583b3764ccedf09b294a035255121c9009c71638ad17839276", func := "pub-counterseal/laws.FnTwistMult", spec := "fnTwistMult", inPlace := ["math/bits.Add64", "math/bits.Sub64"], unfollowed := true, recurses := true, named := ["pub-counterseal/pub/bigall.divRecursiveThreshold", "pub-counterseal/pub/bigall.karatsubaThreshold", "pub-counterseal/pub/bigall.basicSqrThreshold", "pub-counterseal/pub/bigall.karatsubaSqrThreshold", "math/bits.deBruijn32tab", "math/bits.deBruijn64tab"], apart := false, laid := [("math/bits.deBruijn32tab", laid_math_bits_deBruijn32tab), ("math/bits.deBruijn64tab", laid_math_bits_deBruijn64tab), ("pub-counterseal/pub/bigall.divRecursiveThreshold", laid_pub_counterseal_pub_bigall_divRecursiveThreshold), ("pub-counterseal/pub/bigall.karatsubaThreshold", laid_pub_counterseal_pub_bigall_karatsubaThreshold), ("pub-counterseal/pub/bigall.basicSqrThreshold", laid_pub_counterseal_pub_bigall_basicSqrThreshold), ("pub-counterseal/pub/bigall.karatsubaSqrThreshold", laid_pub_counterseal_pub_bigall_karatsubaSqrThreshold)] }
def FnTwistMultSaid : Prop := fnTwistMultRow.holds Tryz.pinned (OpenSpec.ofChange fnTwistMultSpec)

/-- ITS FALSE NEIGHBOUR: 'it returns false'. Refute it at one input. -/
def fnTwistMultWrong : ChangeSpec := { name := "fnTwistMult", fn := fun _ => fun
  | [d1, d2, d3, d4, d5] => { results := [.lit (.bool false)], args := [d1, d2, d3, d4, d5] }
  | _ => none }
def FnTwistMultWrongFalsely : Prop := fnTwistMultRow.holds Tryz.pinned (OpenSpec.ofChange fnTwistMultWrong)

/-- 'laws.FnTwistAdd': WHATEVER THE INPUT: true; the input reads as it did. -/
def fnTwistAddSpec : ChangeSpec := { name := "fnTwistAdd", fn := fun _ => fun
  | [d1, d2] => { results := [.lit (.bool true)], args := [d1, d2] }
  | _ => none }
def fnTwistAddRow : OpenClaim := { program := "ytohhkjamddojmaagreatdoor", sum := "d73fd32434b952583b3764ccedf09b294a035255121c9009c71638ad17839276", func := "pub-counterseal/laws.FnTwistAdd", spec := "fnTwistAdd", inPlace := ["math/bits.Add64", "math/bits.Sub64"], unfollowed := true, recurses := true, named := ["pub-counterseal/pub/bigall.divRecursiveThreshold", "pub-counterseal/pub/bigall.karatsubaThreshold", "pub-counterseal/pub/bigall.basicSqrThreshold", "pub-counterseal/pub/bigall.karatsubaSqrThreshold", "math/bits.deBruijn32tab", "math/bits.deBruijn64tab"], apart := false, laid := [("math/bits.deBruijn32tab", laid_math_bits_deBruijn32tab), ("math/bits.deBruijn64tab", laid_math_bits_deBruijn64tab), ("pub-counterseal/pub/bigall.divRecursiveThreshold", laid_pub_counterseal_pub_bigall_divRecursiveThreshold), ("pub-counterseal/pub/bigall.karatsubaThreshold", laid_pub_counterseal_pub_bigall_karatsubaThreshold), ("pub-counterseal/pub/bigall.basicSqrThreshold", laid_pub_counterseal_pub_bigall_basicSqrThreshold), ("pub-counterseal/pub/bigall.karatsubaSqrThreshold", laid_pub_counterseal_pub_bigall_karatsubaSqrThreshold)] }
def FnTwistAddSaid : Prop := fnTwistAddRow.holds Tryz.pinned (OpenSpec.ofChange fnTwistAddSpec)

/-- ITS FALSE NEIGHBOUR: 'it returns false'. Refute it at one input. -/
def fnTwistAddWrong : ChangeSpec := { name := "fnTwistAdd", fn := fun _ => fun
  | [d1, d2] => { results := [.lit (.bool false)], args := [d1, d2] }
  | _ => none }
def FnTwistAddWrongFalsely : Prop := fnTwistAddRow.holds Tryz.pinned (OpenSpec.ofChange fnTwistAddWrong)

/- THE SECOND FORM. 'bulk': how many values and letters a reading holds, each counted each time it is reached (what is shared counts as often as it is met; a slice's spare places count too). A statement '..UptoSaid' is the law's where the arguments, and the package variables that the reading takes, are together of bulk at most 1048576: NARROWER than '..Said'. Prove '..Said' where nothing that the law and all that it calls make is longer than what came in: it says more and counts as full. Else prove '..UptoSaid'. A law counts once. -/
mutual
def uptoBulk {H : Type} : DataW H → Nat
  | .lit (.string bytes) => bytes.length + 1
  | .lit _ => 1
  | .nil => 1
  | .ptr d => uptoBulk d + 1
  | .slice elems spare => uptoBulkAll elems + uptoBulkAll spare + 1
  | .agg parts => uptoBulkAll parts + 1
  | .iface _ d => uptoBulk d + 1
  | .map entries => uptoBulkEntries entries + 1
  | .held _ => 1
def uptoBulkAll {H : Type} : List (DataW H) → Nat
  | [] => 0
  | d :: r => uptoBulk d + uptoBulkAll r
def uptoBulkEntries {H : Type} : List (Lit × DataW H) → Nat
  | [] => 0
  | x :: r => uptoBulkEntry x + uptoBulkEntries r
def uptoBulkEntry {H : Type} : Lit × DataW H → Nat
  | (.string bytes, d) => bytes.length + uptoBulk d + 1
  | (_, d) => uptoBulk d + 1
 end
def uptoSmall : (H : Type) → List (DataW H) → Bool := fun _ ds => decide (uptoBulkAll ds ≤ 1048576)
def OpenSpec.upto (s : _root_.Go.ChangeSpec) : _root_.Go.OpenSpec := { _root_.Go.OpenSpec.ofChange s with cond := some uptoSmall }

/-- 'laws.FnNamedDouble', WHERE WHAT IT READS IS OF BULK AT MOST 1048576: true; the input reads as it did. -/
def fnNamedDoubleUptoRow : OpenClaim := { program := "ytohhkjamddojmaagreatdoor", sum := "d73fd32434b952583b3764ccedf09b294a035255121c9009c71638ad17839276", func := "pub-counterseal/laws.FnNamedDouble", spec := "fnNamedDouble", inPlace := ["math/bits.Add64", "math/bits.Sub64"], unfollowed := true, recurses := true, named := ["io.EOF", "pub-counterseal/pub/bigall.errInvalSep", "pub-counterseal/pub/bigall.errNoDigits", "pub-counterseal/pub/bigall.basicSqrThreshold", "pub-counterseal/pub/bigall.karatsubaSqrThreshold", "pub-counterseal/pub/bigall.karatsubaThreshold", "pub-counterseal/pub/bigall.divRecursiveThreshold"], apart := false, laid := [("io.EOF", laid_io_EOF), ("pub-counterseal/pub/bigall.errNoDigits", laid_pub_counterseal_pub_bigall_errNoDigits), ("pub-counterseal/pub/bigall.errInvalSep", laid_pub_counterseal_pub_bigall_errInvalSep), ("pub-counterseal/pub/bigall.divRecursiveThreshold", laid_pub_counterseal_pub_bigall_divRecursiveThreshold), ("pub-counterseal/pub/bigall.karatsubaThreshold", laid_pub_counterseal_pub_bigall_karatsubaThreshold), ("pub-counterseal/pub/bigall.basicSqrThreshold", laid_pub_counterseal_pub_bigall_basicSqrThreshold), ("pub-counterseal/pub/bigall.karatsubaSqrThreshold", laid_pub_counterseal_pub_bigall_karatsubaSqrThreshold)], narrowed := true }
def FnNamedDoubleUptoSaid : Prop := fnNamedDoubleUptoRow.holds Tryz.pinned (OpenSpec.upto fnNamedDoubleSpec)

/-- 'laws.FnNamedMult', WHERE WHAT IT READS IS OF BULK AT MOST 1048576: true; the input reads as it did. -/
def fnNamedMultUptoRow : OpenClaim := { program := "ytohhkjamddojmaagreatdoor", sum := "d73fd32434b952583b3764ccedf09b294a035255121c9009c71638ad17839276", func := "pub-counterseal/laws.FnNamedMult", spec := "fnNamedMult", inPlace := ["math/bits.Add64", "math/bits.Sub64"], unfollowed := true, recurses := true, named := ["io.EOF", "pub-counterseal/pub/bigall.errInvalSep", "pub-counterseal/pub/bigall.errNoDigits", "pub-counterseal/pub/bigall.basicSqrThreshold", "pub-counterseal/pub/bigall.karatsubaSqrThreshold", "pub-counterseal/pub/bigall.karatsubaThreshold", "pub-counterseal/pub/bigall.divRecursiveThreshold"], apart := false, laid := [("io.EOF", laid_io_EOF), ("pub-counterseal/pub/bigall.errNoDigits", laid_pub_counterseal_pub_bigall_errNoDigits), ("pub-counterseal/pub/bigall.errInvalSep", laid_pub_counterseal_pub_bigall_errInvalSep), ("pub-counterseal/pub/bigall.divRecursiveThreshold", laid_pub_counterseal_pub_bigall_divRecursiveThreshold), ("pub-counterseal/pub/bigall.karatsubaThreshold", laid_pub_counterseal_pub_bigall_karatsubaThreshold), ("pub-counterseal/pub/bigall.basicSqrThreshold", laid_pub_counterseal_pub_bigall_basicSqrThreshold), ("pub-counterseal/pub/bigall.karatsubaSqrThreshold", laid_pub_counterseal_pub_bigall_karatsubaSqrThreshold)], narrowed := true }
def FnNamedMultUptoSaid : Prop := fnNamedMultUptoRow.holds Tryz.pinned (OpenSpec.upto fnNamedMultSpec)

/-- 'laws.FnNamedAdd', WHERE WHAT IT READS IS OF BULK AT MOST 1048576: true; the input reads as it did. -/
def fnNamedAddUptoRow : OpenClaim := { program := "ytohhkjamddojmaagreatdoor", sum := "d73fd32434b952583b3764ccedf09b294a035255121c9009c71638ad17839276", func := "pub-counterseal/laws.FnNamedAdd", spec := "fnNamedAdd", inPlace := ["math/bits.Add64", "math/bits.Sub64"], unfollowed := true, recurses := true, named := ["io.EOF", "pub-counterseal/pub/bigall.errInvalSep", "pub-counterseal/pub/bigall.errNoDigits", "pub-counterseal/pub/bigall.basicSqrThreshold", "pub-counterseal/pub/bigall.karatsubaSqrThreshold", "pub-counterseal/pub/bigall.karatsubaThreshold", "pub-counterseal/pub/bigall.divRecursiveThreshold"], apart := false, laid := [("io.EOF", laid_io_EOF), ("pub-counterseal/pub/bigall.errNoDigits", laid_pub_counterseal_pub_bigall_errNoDigits), ("pub-counterseal/pub/bigall.errInvalSep", laid_pub_counterseal_pub_bigall_errInvalSep), ("pub-counterseal/pub/bigall.divRecursiveThreshold", laid_pub_counterseal_pub_bigall_divRecursiveThreshold), ("pub-counterseal/pub/bigall.karatsubaThreshold", laid_pub_counterseal_pub_bigall_karatsubaThreshold), ("pub-counterseal/pub/bigall.basicSqrThreshold", laid_pub_counterseal_pub_bigall_basicSqrThreshold), ("pub-counterseal/pub/bigall.karatsubaSqrThreshold", laid_pub_counterseal_pub_bigall_karatsubaSqrThreshold)], narrowed := true }
def FnNamedAddUptoSaid : Prop := fnNamedAddUptoRow.holds Tryz.pinned (OpenSpec.upto fnNamedAddSpec)

/-- 'laws.FnNamedOrder', WHERE WHAT IT READS IS OF BULK AT MOST 1048576: true; the input reads as it did. -/
def fnNamedOrderUptoRow : OpenClaim := { program := "ytohhkjamddojmaagreatdoor", sum := "d73fd32434b952583b3764ccedf09b294a035255121c9009c71638ad17839276", func := "pub-counterseal/laws.FnNamedOrder", spec := "fnNamedOrder", inPlace := ["math/bits.Add64", "math/bits.Sub64"], unfollowed := true, recurses := true, named := ["io.EOF", "pub-counterseal/pub/bigall.errInvalSep", "pub-counterseal/pub/bigall.errNoDigits", "pub-counterseal/pub/bigall.basicSqrThreshold", "pub-counterseal/pub/bigall.karatsubaSqrThreshold", "pub-counterseal/pub/bigall.karatsubaThreshold", "pub-counterseal/pub/bigall.divRecursiveThreshold"], apart := false, laid := [("io.EOF", laid_io_EOF), ("pub-counterseal/pub/bigall.errNoDigits", laid_pub_counterseal_pub_bigall_errNoDigits), ("pub-counterseal/pub/bigall.errInvalSep", laid_pub_counterseal_pub_bigall_errInvalSep), ("pub-counterseal/pub/bigall.divRecursiveThreshold", laid_pub_counterseal_pub_bigall_divRecursiveThreshold), ("pub-counterseal/pub/bigall.karatsubaThreshold", laid_pub_counterseal_pub_bigall_karatsubaThreshold), ("pub-counterseal/pub/bigall.basicSqrThreshold", laid_pub_counterseal_pub_bigall_basicSqrThreshold), ("pub-counterseal/pub/bigall.karatsubaSqrThreshold", laid_pub_counterseal_pub_bigall_karatsubaSqrThreshold)], narrowed := true }
def FnNamedOrderUptoSaid : Prop := fnNamedOrderUptoRow.holds Tryz.pinned (OpenSpec.upto fnNamedOrderSpec)

/-- 'laws.FnTwistTo', WHERE WHAT IT READS IS OF BULK AT MOST 1048576: true; the input reads as it did. -/
def fnTwistToUptoRow : OpenClaim := { program := "ytohhkjamddojmaagreatdoor", sum := "d73fd32434b952583b3764ccedf09b294a035255121c9009c71638ad17839276", func := "pub-counterseal/laws.FnTwistTo", spec := "fnTwistTo", inPlace := ["math/bits.Add64", "math/bits.Sub64"], unfollowed := true, recurses := true, named := ["pub-counterseal/pub/bigall.divRecursiveThreshold", "pub-counterseal/pub/bigall.karatsubaThreshold", "pub-counterseal/pub/bigall.basicSqrThreshold", "pub-counterseal/pub/bigall.karatsubaSqrThreshold", "math/bits.deBruijn32tab", "math/bits.deBruijn64tab"], apart := false, laid := [("math/bits.deBruijn32tab", laid_math_bits_deBruijn32tab), ("math/bits.deBruijn64tab", laid_math_bits_deBruijn64tab), ("pub-counterseal/pub/bigall.divRecursiveThreshold", laid_pub_counterseal_pub_bigall_divRecursiveThreshold), ("pub-counterseal/pub/bigall.karatsubaThreshold", laid_pub_counterseal_pub_bigall_karatsubaThreshold), ("pub-counterseal/pub/bigall.basicSqrThreshold", laid_pub_counterseal_pub_bigall_basicSqrThreshold), ("pub-counterseal/pub/bigall.karatsubaSqrThreshold", laid_pub_counterseal_pub_bigall_karatsubaSqrThreshold)], narrowed := true }
def FnTwistToUptoSaid : Prop := fnTwistToUptoRow.holds Tryz.pinned (OpenSpec.upto fnTwistToSpec)

/-- 'laws.FnDsaVerify', WHERE WHAT IT READS IS OF BULK AT MOST 1048576: true; the input reads as it did. -/
def fnDsaVerifyUptoRow : OpenClaim := { program := "ytohhkjamddojmaagreatdoor", sum := "d73fd32434b952583b3764ccedf09b294a035255121c9009c71638ad17839276", func := "pub-counterseal/laws.FnDsaVerify", spec := "fnDsaVerify", inPlace := ["math/bits.Add64", "math/bits.Sub64"], recurses := true, named := ["pub-counterseal/pub/bigall.divRecursiveThreshold", "pub-counterseal/pub/bigall.karatsubaThreshold", "pub-counterseal/pub/bigall.basicSqrThreshold", "pub-counterseal/pub/bigall.karatsubaSqrThreshold", "math/bits.deBruijn32tab", "math/bits.deBruijn64tab"], apart := false, laid := [("math/bits.deBruijn32tab", laid_math_bits_deBruijn32tab), ("math/bits.deBruijn64tab", laid_math_bits_deBruijn64tab), ("pub-counterseal/pub/bigall.divRecursiveThreshold", laid_pub_counterseal_pub_bigall_divRecursiveThreshold), ("pub-counterseal/pub/bigall.karatsubaThreshold", laid_pub_counterseal_pub_bigall_karatsubaThreshold), ("pub-counterseal/pub/bigall.basicSqrThreshold", laid_pub_counterseal_pub_bigall_basicSqrThreshold), ("pub-counterseal/pub/bigall.karatsubaSqrThreshold", laid_pub_counterseal_pub_bigall_karatsubaSqrThreshold)], narrowed := true }
def FnDsaVerifyUptoSaid : Prop := fnDsaVerifyUptoRow.holds Tryz.pinned (OpenSpec.upto fnDsaVerifySpec)

/-- 'laws.FnTwistOn', WHERE WHAT IT READS IS OF BULK AT MOST 1048576: true; the input reads as it did. -/
def fnTwistOnUptoRow : OpenClaim := { program := "ytohhkjamddojmaagreatdoor", sum := "d73fd32434b952583b3764ccedf09b294a035255121c9009c71638ad17839276", func := "pub-counterseal/laws.FnTwistOn", spec := "fnTwistOn", inPlace := ["math/bits.Add64", "math/bits.Sub64"], unfollowed := true, recurses := true, named := ["pub-counterseal/pub/bigall.divRecursiveThreshold", "pub-counterseal/pub/bigall.karatsubaThreshold", "pub-counterseal/pub/bigall.basicSqrThreshold", "pub-counterseal/pub/bigall.karatsubaSqrThreshold", "math/bits.deBruijn32tab", "math/bits.deBruijn64tab"], apart := false, laid := [("math/bits.deBruijn32tab", laid_math_bits_deBruijn32tab), ("math/bits.deBruijn64tab", laid_math_bits_deBruijn64tab), ("pub-counterseal/pub/bigall.divRecursiveThreshold", laid_pub_counterseal_pub_bigall_divRecursiveThreshold), ("pub-counterseal/pub/bigall.karatsubaThreshold", laid_pub_counterseal_pub_bigall_karatsubaThreshold), ("pub-counterseal/pub/bigall.basicSqrThreshold", laid_pub_counterseal_pub_bigall_basicSqrThreshold), ("pub-counterseal/pub/bigall.karatsubaSqrThreshold", laid_pub_counterseal_pub_bigall_karatsubaSqrThreshold)], narrowed := true }
def FnTwistOnUptoSaid : Prop := fnTwistOnUptoRow.holds Tryz.pinned (OpenSpec.upto fnTwistOnSpec)

/-- 'laws.FnDsaSign', WHERE WHAT IT READS IS OF BULK AT MOST 1048576: true; the input reads as it did. -/
def fnDsaSignUptoRow : OpenClaim := { program := "ytohhkjamddojmaagreatdoor", sum := "d73fd32434b952583b3764ccedf09b294a035255121c9009c71638ad17839276", func := "pub-counterseal/laws.FnDsaSign", spec := "fnDsaSign", inPlace := ["math/bits.Add64", "math/bits.Sub64"], unfollowed := true, recurses := true, named := ["pub-counterseal/pub/godsa.ErrInvalidPublicKey", "io.ErrShortBuffer", "io.EOF", "io.ErrUnexpectedEOF", "pub-counterseal/pub/bigall.divRecursiveThreshold", "pub-counterseal/pub/bigall.karatsubaThreshold", "pub-counterseal/pub/bigall.basicSqrThreshold", "pub-counterseal/pub/bigall.karatsubaSqrThreshold", "math/bits.deBruijn32tab", "math/bits.deBruijn64tab"], apart := false, laid := [("math/bits.deBruijn32tab", laid_math_bits_deBruijn32tab), ("math/bits.deBruijn64tab", laid_math_bits_deBruijn64tab), ("io.ErrShortBuffer", laid_io_ErrShortBuffer), ("io.EOF", laid_io_EOF), ("io.ErrUnexpectedEOF", laid_io_ErrUnexpectedEOF), ("pub-counterseal/pub/bigall.divRecursiveThreshold", laid_pub_counterseal_pub_bigall_divRecursiveThreshold), ("pub-counterseal/pub/bigall.karatsubaThreshold", laid_pub_counterseal_pub_bigall_karatsubaThreshold), ("pub-counterseal/pub/bigall.basicSqrThreshold", laid_pub_counterseal_pub_bigall_basicSqrThreshold), ("pub-counterseal/pub/bigall.karatsubaSqrThreshold", laid_pub_counterseal_pub_bigall_karatsubaSqrThreshold), ("pub-counterseal/pub/godsa.ErrInvalidPublicKey", laid_pub_counterseal_pub_godsa_ErrInvalidPublicKey)], narrowed := true }
def FnDsaSignUptoSaid : Prop := fnDsaSignUptoRow.holds Tryz.pinned (OpenSpec.upto fnDsaSignSpec)

/-- 'laws.FnElgamal', WHERE WHAT IT READS IS OF BULK AT MOST 1048576: true; the input reads as it did. -/
def fnElgamalUptoRow : OpenClaim := { program := "ytohhkjamddojmaagreatdoor", sum := "d73fd32434b952583b3764ccedf09b294a035255121c9009c71638ad17839276", func := "pub-counterseal/laws.FnElgamal", spec := "fnElgamal", inPlace := ["math/bits.Add64", "math/bits.Sub64", "crypto/internal/constanttime.boolToUint8"], unfollowed := true, recurses := true, named := ["io.ErrShortBuffer", "io.EOF", "io.ErrUnexpectedEOF", "pub-counterseal/pub/bigall.divRecursiveThreshold", "pub-counterseal/pub/bigall.karatsubaThreshold", "pub-counterseal/pub/bigall.basicSqrThreshold", "pub-counterseal/pub/bigall.karatsubaSqrThreshold", "math/bits.deBruijn32tab", "math/bits.deBruijn64tab"], apart := false, laid := [("math/bits.deBruijn32tab", laid_math_bits_deBruijn32tab), ("math/bits.deBruijn64tab", laid_math_bits_deBruijn64tab), ("io.ErrShortBuffer", laid_io_ErrShortBuffer), ("io.EOF", laid_io_EOF), ("io.ErrUnexpectedEOF", laid_io_ErrUnexpectedEOF), ("pub-counterseal/pub/bigall.divRecursiveThreshold", laid_pub_counterseal_pub_bigall_divRecursiveThreshold), ("pub-counterseal/pub/bigall.karatsubaThreshold", laid_pub_counterseal_pub_bigall_karatsubaThreshold), ("pub-counterseal/pub/bigall.basicSqrThreshold", laid_pub_counterseal_pub_bigall_basicSqrThreshold), ("pub-counterseal/pub/bigall.karatsubaSqrThreshold", laid_pub_counterseal_pub_bigall_karatsubaSqrThreshold)], narrowed := true }
def FnElgamalUptoSaid : Prop := fnElgamalUptoRow.holds Tryz.pinned (OpenSpec.upto fnElgamalSpec)

/-- 'laws.FnTwistMult', WHERE WHAT IT READS IS OF BULK AT MOST 1048576: true; the input reads as it did. -/
def fnTwistMultUptoRow : OpenClaim := { program := "ytohhkjamddojmaagreatdoor", sum := "d73fd32434b952583b3764ccedf09b294a035255121c9009c71638ad17839276", func := "pub-counterseal/laws.FnTwistMult", spec := "fnTwistMult", inPlace := ["math/bits.Add64", "math/bits.Sub64"], unfollowed := true, recurses := true, named := ["pub-counterseal/pub/bigall.divRecursiveThreshold", "pub-counterseal/pub/bigall.karatsubaThreshold", "pub-counterseal/pub/bigall.basicSqrThreshold", "pub-counterseal/pub/bigall.karatsubaSqrThreshold", "math/bits.deBruijn32tab", "math/bits.deBruijn64tab"], apart := false, laid := [("math/bits.deBruijn32tab", laid_math_bits_deBruijn32tab), ("math/bits.deBruijn64tab", laid_math_bits_deBruijn64tab), ("pub-counterseal/pub/bigall.divRecursiveThreshold", laid_pub_counterseal_pub_bigall_divRecursiveThreshold), ("pub-counterseal/pub/bigall.karatsubaThreshold", laid_pub_counterseal_pub_bigall_karatsubaThreshold), ("pub-counterseal/pub/bigall.basicSqrThreshold", laid_pub_counterseal_pub_bigall_basicSqrThreshold), ("pub-counterseal/pub/bigall.karatsubaSqrThreshold", laid_pub_counterseal_pub_bigall_karatsubaSqrThreshold)], narrowed := true }
def FnTwistMultUptoSaid : Prop := fnTwistMultUptoRow.holds Tryz.pinned (OpenSpec.upto fnTwistMultSpec)

/-- 'laws.FnTwistAdd', WHERE WHAT IT READS IS OF BULK AT MOST 1048576: true; the input reads as it did. -/
def fnTwistAddUptoRow : OpenClaim := { program := "ytohhkjamddojmaagreatdoor", sum := "d73fd32434b952583b3764ccedf09b294a035255121c9009c71638ad17839276", func := "pub-counterseal/laws.FnTwistAdd", spec := "fnTwistAdd", inPlace := ["math/bits.Add64", "math/bits.Sub64"], unfollowed := true, recurses := true, named := ["pub-counterseal/pub/bigall.divRecursiveThreshold", "pub-counterseal/pub/bigall.karatsubaThreshold", "pub-counterseal/pub/bigall.basicSqrThreshold", "pub-counterseal/pub/bigall.karatsubaSqrThreshold", "math/bits.deBruijn32tab", "math/bits.deBruijn64tab"], apart := false, laid := [("math/bits.deBruijn32tab", laid_math_bits_deBruijn32tab), ("math/bits.deBruijn64tab", laid_math_bits_deBruijn64tab), ("pub-counterseal/pub/bigall.divRecursiveThreshold", laid_pub_counterseal_pub_bigall_divRecursiveThreshold), ("pub-counterseal/pub/bigall.karatsubaThreshold", laid_pub_counterseal_pub_bigall_karatsubaThreshold), ("pub-counterseal/pub/bigall.basicSqrThreshold", laid_pub_counterseal_pub_bigall_basicSqrThreshold), ("pub-counterseal/pub/bigall.karatsubaSqrThreshold", laid_pub_counterseal_pub_bigall_karatsubaSqrThreshold)], narrowed := true }
def FnTwistAddUptoSaid : Prop := fnTwistAddUptoRow.holds Tryz.pinned (OpenSpec.upto fnTwistAddSpec)

end Rows
end Go.Proofs.YtohhkjamddojmaaGreatDoor
