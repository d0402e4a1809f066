/-
  DERIVED. GIVEN WITH THE SEED: THE PROGRAM's TIES (one call each: nine closed facts by the kernel) AND EACH ROW's TIE, after the 31st guide's Derived/Test/Toyas{Tie, Card}.lean. No idea stands in it: it is a product of the set-up. Laid BY PROGRAM, IN A SANDBOX (cutbox-door.mjs). By AI agents, Wed Nov 11 2026. No macro, syntax, notation, axiom, sorry.
-/
import Derived.Test.YtohhkjamddojmaaGreatDoorRows
import Derived.LaidByTextLater
import Derived.SevenTiedAt
import Derived.LaidSub
import Derived.LaidOnce
namespace Go.Proofs.YtohhkjamddojmaaGreatDoor
open Go
set_option maxRecDepth 100000
theorem seatTie1 : Tryz.prog.laidByTextLater [("math/bits.deBruijn32tab", Rows.laid_math_bits_deBruijn32tab), ("math/bits.deBruijn64tab", Rows.laid_math_bits_deBruijn64tab), ("io.ErrShortBuffer", Rows.laid_io_ErrShortBuffer), ("io.EOF", Rows.laid_io_EOF), ("io.ErrUnexpectedEOF", Rows.laid_io_ErrUnexpectedEOF), ("pub-counterseal/pub/bigall.errNoDigits", Rows.laid_pub_counterseal_pub_bigall_errNoDigits), ("pub-counterseal/pub/bigall.errInvalSep", Rows.laid_pub_counterseal_pub_bigall_errInvalSep), ("pub-counterseal/pub/bigall.divRecursiveThreshold", Rows.laid_pub_counterseal_pub_bigall_divRecursiveThreshold), ("pub-counterseal/pub/bigall.karatsubaThreshold", Rows.laid_pub_counterseal_pub_bigall_karatsubaThreshold), ("pub-counterseal/pub/bigall.basicSqrThreshold", Rows.laid_pub_counterseal_pub_bigall_basicSqrThreshold), ("pub-counterseal/pub/bigall.karatsubaSqrThreshold", Rows.laid_pub_counterseal_pub_bigall_karatsubaSqrThreshold), ("pub-counterseal/pub/godsa.ErrInvalidPublicKey", Rows.laid_pub_counterseal_pub_godsa_ErrInvalidPublicKey)] [.data, .data, .sentinel, .sentinel, .sentinel, .sentinel, .sentinel, .data, .data, .data, .data, .sentinel] true :=
  Program.laidByTextLater_by_one 149 8 65 (by kernel_rfl) (by kernel_rfl) (by kernel_rfl) (by kernel_rfl) (by kernel_rfl) (by kernel_rfl) (fun _ _ => by kernel_rfl)
theorem noOwnUnsafe : Tryz.pinned.checked.prog.headLifts.contains "ownunsafe" = false := by kernel_rfl
theorem tie : Tryz.prog.laidByTextLater [("io.EOF", Rows.laid_io_EOF), ("pub-counterseal/pub/bigall.errNoDigits", Rows.laid_pub_counterseal_pub_bigall_errNoDigits), ("pub-counterseal/pub/bigall.errInvalSep", Rows.laid_pub_counterseal_pub_bigall_errInvalSep), ("pub-counterseal/pub/bigall.divRecursiveThreshold", Rows.laid_pub_counterseal_pub_bigall_divRecursiveThreshold), ("pub-counterseal/pub/bigall.karatsubaThreshold", Rows.laid_pub_counterseal_pub_bigall_karatsubaThreshold), ("pub-counterseal/pub/bigall.basicSqrThreshold", Rows.laid_pub_counterseal_pub_bigall_basicSqrThreshold), ("pub-counterseal/pub/bigall.karatsubaSqrThreshold", Rows.laid_pub_counterseal_pub_bigall_karatsubaSqrThreshold)] [.sentinel, .sentinel, .sentinel, .data, .data, .data, .data] true :=
  Program.laidByTextLater.sub seatTie1 ["io.EOF", "pub-counterseal/pub/bigall.errNoDigits", "pub-counterseal/pub/bigall.errInvalSep", "pub-counterseal/pub/bigall.divRecursiveThreshold", "pub-counterseal/pub/bigall.karatsubaThreshold", "pub-counterseal/pub/bigall.basicSqrThreshold", "pub-counterseal/pub/bigall.karatsubaSqrThreshold"] (by kernel_rfl) (by kernel_rfl)
theorem fnNamedDouble_row_tie : Rows.fnNamedDoubleRow.laidByTextAt .later Tryz.pinned [.sentinel, .sentinel, .sentinel, .data, .data, .data, .data] true :=
  OpenClaim.laidByTextAt_later rfl rfl tie noOwnUnsafe
theorem fnNamedMult_row_tie : Rows.fnNamedMultRow.laidByTextAt .later Tryz.pinned [.sentinel, .sentinel, .sentinel, .data, .data, .data, .data] true :=
  OpenClaim.laidByTextAt_later rfl rfl tie noOwnUnsafe
theorem fnNamedAdd_row_tie : Rows.fnNamedAddRow.laidByTextAt .later Tryz.pinned [.sentinel, .sentinel, .sentinel, .data, .data, .data, .data] true :=
  OpenClaim.laidByTextAt_later rfl rfl tie noOwnUnsafe
theorem fnNamedOrder_row_tie : Rows.fnNamedOrderRow.laidByTextAt .later Tryz.pinned [.sentinel, .sentinel, .sentinel, .data, .data, .data, .data] true :=
  OpenClaim.laidByTextAt_later rfl rfl tie noOwnUnsafe
theorem tie2 : Tryz.prog.laidByTextLater [("math/bits.deBruijn32tab", Rows.laid_math_bits_deBruijn32tab), ("math/bits.deBruijn64tab", Rows.laid_math_bits_deBruijn64tab), ("pub-counterseal/pub/bigall.divRecursiveThreshold", Rows.laid_pub_counterseal_pub_bigall_divRecursiveThreshold), ("pub-counterseal/pub/bigall.karatsubaThreshold", Rows.laid_pub_counterseal_pub_bigall_karatsubaThreshold), ("pub-counterseal/pub/bigall.basicSqrThreshold", Rows.laid_pub_counterseal_pub_bigall_basicSqrThreshold), ("pub-counterseal/pub/bigall.karatsubaSqrThreshold", Rows.laid_pub_counterseal_pub_bigall_karatsubaSqrThreshold)] [.data, .data, .data, .data, .data, .data] true :=
  Program.laidByTextLater.sub seatTie1 ["math/bits.deBruijn32tab", "math/bits.deBruijn64tab", "pub-counterseal/pub/bigall.divRecursiveThreshold", "pub-counterseal/pub/bigall.karatsubaThreshold", "pub-counterseal/pub/bigall.basicSqrThreshold", "pub-counterseal/pub/bigall.karatsubaSqrThreshold"] (by kernel_rfl) (by kernel_rfl)
theorem fnTwistTo_row_tie : Rows.fnTwistToRow.laidByTextAt .later Tryz.pinned [.data, .data, .data, .data, .data, .data] true :=
  OpenClaim.laidByTextAt_later rfl rfl tie2 noOwnUnsafe
theorem fnDsaVerify_row_tie : Rows.fnDsaVerifyRow.laidByTextAt .later Tryz.pinned [.data, .data, .data, .data, .data, .data] true :=
  OpenClaim.laidByTextAt_later rfl rfl tie2 noOwnUnsafe
theorem fnTwistOn_row_tie : Rows.fnTwistOnRow.laidByTextAt .later Tryz.pinned [.data, .data, .data, .data, .data, .data] true :=
  OpenClaim.laidByTextAt_later rfl rfl tie2 noOwnUnsafe
theorem fnTwistMult_row_tie : Rows.fnTwistMultRow.laidByTextAt .later Tryz.pinned [.data, .data, .data, .data, .data, .data] true :=
  OpenClaim.laidByTextAt_later rfl rfl tie2 noOwnUnsafe
theorem fnTwistAdd_row_tie : Rows.fnTwistAddRow.laidByTextAt .later Tryz.pinned [.data, .data, .data, .data, .data, .data] true :=
  OpenClaim.laidByTextAt_later rfl rfl tie2 noOwnUnsafe
theorem tie3 : Tryz.prog.laidByTextLater [("math/bits.deBruijn32tab", Rows.laid_math_bits_deBruijn32tab), ("math/bits.deBruijn64tab", Rows.laid_math_bits_deBruijn64tab), ("io.ErrShortBuffer", Rows.laid_io_ErrShortBuffer), ("io.EOF", Rows.laid_io_EOF), ("io.ErrUnexpectedEOF", Rows.laid_io_ErrUnexpectedEOF), ("pub-counterseal/pub/bigall.divRecursiveThreshold", Rows.laid_pub_counterseal_pub_bigall_divRecursiveThreshold), ("pub-counterseal/pub/bigall.karatsubaThreshold", Rows.laid_pub_counterseal_pub_bigall_karatsubaThreshold), ("pub-counterseal/pub/bigall.basicSqrThreshold", Rows.laid_pub_counterseal_pub_bigall_basicSqrThreshold), ("pub-counterseal/pub/bigall.karatsubaSqrThreshold", Rows.laid_pub_counterseal_pub_bigall_karatsubaSqrThreshold), ("pub-counterseal/pub/godsa.ErrInvalidPublicKey", Rows.laid_pub_counterseal_pub_godsa_ErrInvalidPublicKey)] [.data, .data, .sentinel, .sentinel, .sentinel, .data, .data, .data, .data, .sentinel] true :=
  Program.laidByTextLater.sub seatTie1 ["math/bits.deBruijn32tab", "math/bits.deBruijn64tab", "io.ErrShortBuffer", "io.EOF", "io.ErrUnexpectedEOF", "pub-counterseal/pub/bigall.divRecursiveThreshold", "pub-counterseal/pub/bigall.karatsubaThreshold", "pub-counterseal/pub/bigall.basicSqrThreshold", "pub-counterseal/pub/bigall.karatsubaSqrThreshold", "pub-counterseal/pub/godsa.ErrInvalidPublicKey"] (by kernel_rfl) (by kernel_rfl)
theorem fnDsaSign_row_tie : Rows.fnDsaSignRow.laidByTextAt .later Tryz.pinned [.data, .data, .sentinel, .sentinel, .sentinel, .data, .data, .data, .data, .sentinel] true :=
  OpenClaim.laidByTextAt_later rfl rfl tie3 noOwnUnsafe
theorem tie4 : Tryz.prog.laidByTextLater [("math/bits.deBruijn32tab", Rows.laid_math_bits_deBruijn32tab), ("math/bits.deBruijn64tab", Rows.laid_math_bits_deBruijn64tab), ("io.ErrShortBuffer", Rows.laid_io_ErrShortBuffer), ("io.EOF", Rows.laid_io_EOF), ("io.ErrUnexpectedEOF", Rows.laid_io_ErrUnexpectedEOF), ("pub-counterseal/pub/bigall.divRecursiveThreshold", Rows.laid_pub_counterseal_pub_bigall_divRecursiveThreshold), ("pub-counterseal/pub/bigall.karatsubaThreshold", Rows.laid_pub_counterseal_pub_bigall_karatsubaThreshold), ("pub-counterseal/pub/bigall.basicSqrThreshold", Rows.laid_pub_counterseal_pub_bigall_basicSqrThreshold), ("pub-counterseal/pub/bigall.karatsubaSqrThreshold", Rows.laid_pub_counterseal_pub_bigall_karatsubaSqrThreshold)] [.data, .data, .sentinel, .sentinel, .sentinel, .data, .data, .data, .data] true :=
  Program.laidByTextLater.sub seatTie1 ["math/bits.deBruijn32tab", "math/bits.deBruijn64tab", "io.ErrShortBuffer", "io.EOF", "io.ErrUnexpectedEOF", "pub-counterseal/pub/bigall.divRecursiveThreshold", "pub-counterseal/pub/bigall.karatsubaThreshold", "pub-counterseal/pub/bigall.basicSqrThreshold", "pub-counterseal/pub/bigall.karatsubaSqrThreshold"] (by kernel_rfl) (by kernel_rfl)
theorem fnElgamal_row_tie : Rows.fnElgamalRow.laidByTextAt .later Tryz.pinned [.data, .data, .sentinel, .sentinel, .sentinel, .data, .data, .data, .data] true :=
  OpenClaim.laidByTextAt_later rfl rfl tie4 noOwnUnsafe
theorem fnNamedDoubleUpto_row_tie : Rows.fnNamedDoubleUptoRow.laidByTextAt .later Tryz.pinned [.sentinel, .sentinel, .sentinel, .data, .data, .data, .data] true :=
  OpenClaim.laidByTextAt_later rfl rfl tie noOwnUnsafe
theorem fnNamedMultUpto_row_tie : Rows.fnNamedMultUptoRow.laidByTextAt .later Tryz.pinned [.sentinel, .sentinel, .sentinel, .data, .data, .data, .data] true :=
  OpenClaim.laidByTextAt_later rfl rfl tie noOwnUnsafe
theorem fnNamedAddUpto_row_tie : Rows.fnNamedAddUptoRow.laidByTextAt .later Tryz.pinned [.sentinel, .sentinel, .sentinel, .data, .data, .data, .data] true :=
  OpenClaim.laidByTextAt_later rfl rfl tie noOwnUnsafe
theorem fnNamedOrderUpto_row_tie : Rows.fnNamedOrderUptoRow.laidByTextAt .later Tryz.pinned [.sentinel, .sentinel, .sentinel, .data, .data, .data, .data] true :=
  OpenClaim.laidByTextAt_later rfl rfl tie noOwnUnsafe
theorem fnTwistToUpto_row_tie : Rows.fnTwistToUptoRow.laidByTextAt .later Tryz.pinned [.data, .data, .data, .data, .data, .data] true :=
  OpenClaim.laidByTextAt_later rfl rfl tie2 noOwnUnsafe
theorem fnDsaVerifyUpto_row_tie : Rows.fnDsaVerifyUptoRow.laidByTextAt .later Tryz.pinned [.data, .data, .data, .data, .data, .data] true :=
  OpenClaim.laidByTextAt_later rfl rfl tie2 noOwnUnsafe
theorem fnTwistOnUpto_row_tie : Rows.fnTwistOnUptoRow.laidByTextAt .later Tryz.pinned [.data, .data, .data, .data, .data, .data] true :=
  OpenClaim.laidByTextAt_later rfl rfl tie2 noOwnUnsafe
theorem fnDsaSignUpto_row_tie : Rows.fnDsaSignUptoRow.laidByTextAt .later Tryz.pinned [.data, .data, .sentinel, .sentinel, .sentinel, .data, .data, .data, .data, .sentinel] true :=
  OpenClaim.laidByTextAt_later rfl rfl tie3 noOwnUnsafe
theorem fnElgamalUpto_row_tie : Rows.fnElgamalUptoRow.laidByTextAt .later Tryz.pinned [.data, .data, .sentinel, .sentinel, .sentinel, .data, .data, .data, .data] true :=
  OpenClaim.laidByTextAt_later rfl rfl tie4 noOwnUnsafe
theorem fnTwistMultUpto_row_tie : Rows.fnTwistMultUptoRow.laidByTextAt .later Tryz.pinned [.data, .data, .data, .data, .data, .data] true :=
  OpenClaim.laidByTextAt_later rfl rfl tie2 noOwnUnsafe
theorem fnTwistAddUpto_row_tie : Rows.fnTwistAddUptoRow.laidByTextAt .later Tryz.pinned [.data, .data, .data, .data, .data, .data] true :=
  OpenClaim.laidByTextAt_later rfl rfl tie2 noOwnUnsafe
end Go.Proofs.YtohhkjamddojmaaGreatDoor
