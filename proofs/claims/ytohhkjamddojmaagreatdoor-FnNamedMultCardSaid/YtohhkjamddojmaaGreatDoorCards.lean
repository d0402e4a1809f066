/-
  DERIVED. GIVEN WITH THE SEED: THE CARDS: each row of YtohhkjamddojmaaGreatDoorRows.lean that lists a variable, with what it lists TIED to the program's text (the seventh form; the later family's looks); each row that meets fmt, with fmt's text TOLD by the authors' own Lean function (tested against real Go, not proved from fmt's source: count such statements apart). THE CARD IS WHAT COUNTS. Prove the row's statement (the work); the ties are given (YtohhkjamddojmaaGreatDoorTie.lean); close each card by the builder's one call (the guide's Derived/Test/ToyasCard.lean, 'card_holds'). Laid BY PROGRAM, IN A SANDBOX (cutbox-door.mjs). By AI agents, Wed Nov 11 2026. No macro, syntax, notation, axiom, sorry.
-/
import Derived.Test.YtohhkjamddojmaaGreatDoorRows
import GoSem.ClaimSeven
namespace Go.Proofs.YtohhkjamddojmaaGreatDoor
namespace Rows

/-- THE TIED CARD OF 'laws.FnNamedDouble'. -/
def fnNamedDoubleCard : Claim7 := { stood := { row := fnNamedDoubleRow, standIns := [], harness := (true, "712021d6c67aa2327005fc596375ebf672adae539efd9831fce3974b84e1c352"), looks := true }, kinds := [], alts := [], laidByText := true, laidKinds := [.sentinel, .sentinel, .sentinel, .data, .data, .data, .data], laidTests := true, laidLooks := .later }
def FnNamedDoubleCardSaid : Prop := Claim7.holds Tryz.pinned (.plain (OpenSpec.ofChange fnNamedDoubleSpec)) fnNamedDoubleCard

/-- THE TIED CARD OF 'laws.FnNamedMult'. -/
def fnNamedMultCard : Claim7 := { stood := { row := fnNamedMultRow, standIns := [], harness := (true, "712021d6c67aa2327005fc596375ebf672adae539efd9831fce3974b84e1c352"), looks := true }, kinds := [], alts := [], laidByText := true, laidKinds := [.sentinel, .sentinel, .sentinel, .data, .data, .data, .data], laidTests := true, laidLooks := .later }
def FnNamedMultCardSaid : Prop := Claim7.holds Tryz.pinned (.plain (OpenSpec.ofChange fnNamedMultSpec)) fnNamedMultCard

/-- THE TIED CARD OF 'laws.FnNamedAdd'. -/
def fnNamedAddCard : Claim7 := { stood := { row := fnNamedAddRow, standIns := [], harness := (true, "712021d6c67aa2327005fc596375ebf672adae539efd9831fce3974b84e1c352"), looks := true }, kinds := [], alts := [], laidByText := true, laidKinds := [.sentinel, .sentinel, .sentinel, .data, .data, .data, .data], laidTests := true, laidLooks := .later }
def FnNamedAddCardSaid : Prop := Claim7.holds Tryz.pinned (.plain (OpenSpec.ofChange fnNamedAddSpec)) fnNamedAddCard

/-- THE TIED CARD OF 'laws.FnNamedOrder'. -/
def fnNamedOrderCard : Claim7 := { stood := { row := fnNamedOrderRow, standIns := [], harness := (true, "712021d6c67aa2327005fc596375ebf672adae539efd9831fce3974b84e1c352"), looks := true }, kinds := [], alts := [], laidByText := true, laidKinds := [.sentinel, .sentinel, .sentinel, .data, .data, .data, .data], laidTests := true, laidLooks := .later }
def FnNamedOrderCardSaid : Prop := Claim7.holds Tryz.pinned (.plain (OpenSpec.ofChange fnNamedOrderSpec)) fnNamedOrderCard

/-- THE TIED CARD OF 'laws.FnTwistTo'. -/
def fnTwistToCard : Claim7 := { stood := { row := fnTwistToRow, standIns := [], harness := (true, "712021d6c67aa2327005fc596375ebf672adae539efd9831fce3974b84e1c352"), looks := true }, kinds := [], alts := [], laidByText := true, laidKinds := [.data, .data, .data, .data, .data, .data], laidTests := true, laidLooks := .later }
def FnTwistToCardSaid : Prop := Claim7.holds Tryz.pinned (.plain (OpenSpec.ofChange fnTwistToSpec)) fnTwistToCard

/-- THE TIED CARD OF 'laws.FnDsaVerify'. -/
def fnDsaVerifyCard : Claim7 := { stood := { row := fnDsaVerifyRow, standIns := [], harness := (true, "712021d6c67aa2327005fc596375ebf672adae539efd9831fce3974b84e1c352"), looks := true }, kinds := [], alts := [], laidByText := true, laidKinds := [.data, .data, .data, .data, .data, .data], laidTests := true, laidLooks := .later }
def FnDsaVerifyCardSaid : Prop := Claim7.holds Tryz.pinned (.plain (OpenSpec.ofChange fnDsaVerifySpec)) fnDsaVerifyCard

/-- THE TIED CARD OF 'laws.FnTwistOn'. -/
def fnTwistOnCard : Claim7 := { stood := { row := fnTwistOnRow, standIns := [], harness := (true, "712021d6c67aa2327005fc596375ebf672adae539efd9831fce3974b84e1c352"), looks := true }, kinds := [], alts := [], laidByText := true, laidKinds := [.data, .data, .data, .data, .data, .data], laidTests := true, laidLooks := .later }
def FnTwistOnCardSaid : Prop := Claim7.holds Tryz.pinned (.plain (OpenSpec.ofChange fnTwistOnSpec)) fnTwistOnCard

/-- THE TIED CARD OF 'laws.FnDsaSign'. -/
def fnDsaSignCard : Claim7 := { stood := { row := fnDsaSignRow, standIns := [], harness := (true, "712021d6c67aa2327005fc596375ebf672adae539efd9831fce3974b84e1c352"), looks := true }, kinds := [], alts := [], laidByText := true, laidKinds := [.data, .data, .sentinel, .sentinel, .sentinel, .data, .data, .data, .data, .sentinel], laidTests := true, laidLooks := .later }
def FnDsaSignCardSaid : Prop := Claim7.holds Tryz.pinned (.plain (OpenSpec.ofChange fnDsaSignSpec)) fnDsaSignCard

/-- THE TIED CARD OF 'laws.FnElgamal'. -/
def fnElgamalCard : Claim7 := { stood := { row := fnElgamalRow, standIns := [], harness := (true, "712021d6c67aa2327005fc596375ebf672adae539efd9831fce3974b84e1c352"), looks := true }, kinds := [], alts := [], laidByText := true, laidKinds := [.data, .data, .sentinel, .sentinel, .sentinel, .data, .data, .data, .data], laidTests := true, laidLooks := .later }
def FnElgamalCardSaid : Prop := Claim7.holds Tryz.pinned (.plain (OpenSpec.ofChange fnElgamalSpec)) fnElgamalCard

/-- THE TIED CARD OF 'laws.FnTwistMult'. -/
def fnTwistMultCard : Claim7 := { stood := { row := fnTwistMultRow, standIns := [], harness := (true, "712021d6c67aa2327005fc596375ebf672adae539efd9831fce3974b84e1c352"), looks := true }, kinds := [], alts := [], laidByText := true, laidKinds := [.data, .data, .data, .data, .data, .data], laidTests := true, laidLooks := .later }
def FnTwistMultCardSaid : Prop := Claim7.holds Tryz.pinned (.plain (OpenSpec.ofChange fnTwistMultSpec)) fnTwistMultCard

/-- THE TIED CARD OF 'laws.FnTwistAdd'. -/
def fnTwistAddCard : Claim7 := { stood := { row := fnTwistAddRow, standIns := [], harness := (true, "712021d6c67aa2327005fc596375ebf672adae539efd9831fce3974b84e1c352"), looks := true }, kinds := [], alts := [], laidByText := true, laidKinds := [.data, .data, .data, .data, .data, .data], laidTests := true, laidLooks := .later }
def FnTwistAddCardSaid : Prop := Claim7.holds Tryz.pinned (.plain (OpenSpec.ofChange fnTwistAddSpec)) fnTwistAddCard

/-- THE SECOND FORM's CARD OF 'laws.FnNamedDouble'. -/
def fnNamedDoubleUptoCard : Claim7 := { stood := { row := fnNamedDoubleUptoRow, standIns := [], harness := (true, "712021d6c67aa2327005fc596375ebf672adae539efd9831fce3974b84e1c352"), looks := true }, kinds := [], alts := [], laidByText := true, laidKinds := [.sentinel, .sentinel, .sentinel, .data, .data, .data, .data], laidTests := true, laidLooks := .later }
def FnNamedDoubleUptoCardSaid : Prop := Claim7.holds Tryz.pinned (.plain (OpenSpec.upto fnNamedDoubleSpec)) fnNamedDoubleUptoCard

/-- THE SECOND FORM's CARD OF 'laws.FnNamedMult'. -/
def fnNamedMultUptoCard : Claim7 := { stood := { row := fnNamedMultUptoRow, standIns := [], harness := (true, "712021d6c67aa2327005fc596375ebf672adae539efd9831fce3974b84e1c352"), looks := true }, kinds := [], alts := [], laidByText := true, laidKinds := [.sentinel, .sentinel, .sentinel, .data, .data, .data, .data], laidTests := true, laidLooks := .later }
def FnNamedMultUptoCardSaid : Prop := Claim7.holds Tryz.pinned (.plain (OpenSpec.upto fnNamedMultSpec)) fnNamedMultUptoCard

/-- THE SECOND FORM's CARD OF 'laws.FnNamedAdd'. -/
def fnNamedAddUptoCard : Claim7 := { stood := { row := fnNamedAddUptoRow, standIns := [], harness := (true, "712021d6c67aa2327005fc596375ebf672adae539efd9831fce3974b84e1c352"), looks := true }, kinds := [], alts := [], laidByText := true, laidKinds := [.sentinel, .sentinel, .sentinel, .data, .data, .data, .data], laidTests := true, laidLooks := .later }
def FnNamedAddUptoCardSaid : Prop := Claim7.holds Tryz.pinned (.plain (OpenSpec.upto fnNamedAddSpec)) fnNamedAddUptoCard

/-- THE SECOND FORM's CARD OF 'laws.FnNamedOrder'. -/
def fnNamedOrderUptoCard : Claim7 := { stood := { row := fnNamedOrderUptoRow, standIns := [], harness := (true, "712021d6c67aa2327005fc596375ebf672adae539efd9831fce3974b84e1c352"), looks := true }, kinds := [], alts := [], laidByText := true, laidKinds := [.sentinel, .sentinel, .sentinel, .data, .data, .data, .data], laidTests := true, laidLooks := .later }
def FnNamedOrderUptoCardSaid : Prop := Claim7.holds Tryz.pinned (.plain (OpenSpec.upto fnNamedOrderSpec)) fnNamedOrderUptoCard

/-- THE SECOND FORM's CARD OF 'laws.FnTwistTo'. -/
def fnTwistToUptoCard : Claim7 := { stood := { row := fnTwistToUptoRow, standIns := [], harness := (true, "712021d6c67aa2327005fc596375ebf672adae539efd9831fce3974b84e1c352"), looks := true }, kinds := [], alts := [], laidByText := true, laidKinds := [.data, .data, .data, .data, .data, .data], laidTests := true, laidLooks := .later }
def FnTwistToUptoCardSaid : Prop := Claim7.holds Tryz.pinned (.plain (OpenSpec.upto fnTwistToSpec)) fnTwistToUptoCard

/-- THE SECOND FORM's CARD OF 'laws.FnDsaVerify'. -/
def fnDsaVerifyUptoCard : Claim7 := { stood := { row := fnDsaVerifyUptoRow, standIns := [], harness := (true, "712021d6c67aa2327005fc596375ebf672adae539efd9831fce3974b84e1c352"), looks := true }, kinds := [], alts := [], laidByText := true, laidKinds := [.data, .data, .data, .data, .data, .data], laidTests := true, laidLooks := .later }
def FnDsaVerifyUptoCardSaid : Prop := Claim7.holds Tryz.pinned (.plain (OpenSpec.upto fnDsaVerifySpec)) fnDsaVerifyUptoCard

/-- THE SECOND FORM's CARD OF 'laws.FnTwistOn'. -/
def fnTwistOnUptoCard : Claim7 := { stood := { row := fnTwistOnUptoRow, standIns := [], harness := (true, "712021d6c67aa2327005fc596375ebf672adae539efd9831fce3974b84e1c352"), looks := true }, kinds := [], alts := [], laidByText := true, laidKinds := [.data, .data, .data, .data, .data, .data], laidTests := true, laidLooks := .later }
def FnTwistOnUptoCardSaid : Prop := Claim7.holds Tryz.pinned (.plain (OpenSpec.upto fnTwistOnSpec)) fnTwistOnUptoCard

/-- THE SECOND FORM's CARD OF 'laws.FnDsaSign'. -/
def fnDsaSignUptoCard : Claim7 := { stood := { row := fnDsaSignUptoRow, standIns := [], harness := (true, "712021d6c67aa2327005fc596375ebf672adae539efd9831fce3974b84e1c352"), looks := true }, kinds := [], alts := [], laidByText := true, laidKinds := [.data, .data, .sentinel, .sentinel, .sentinel, .data, .data, .data, .data, .sentinel], laidTests := true, laidLooks := .later }
def FnDsaSignUptoCardSaid : Prop := Claim7.holds Tryz.pinned (.plain (OpenSpec.upto fnDsaSignSpec)) fnDsaSignUptoCard

/-- THE SECOND FORM's CARD OF 'laws.FnElgamal'. -/
def fnElgamalUptoCard : Claim7 := { stood := { row := fnElgamalUptoRow, standIns := [], harness := (true, "712021d6c67aa2327005fc596375ebf672adae539efd9831fce3974b84e1c352"), looks := true }, kinds := [], alts := [], laidByText := true, laidKinds := [.data, .data, .sentinel, .sentinel, .sentinel, .data, .data, .data, .data], laidTests := true, laidLooks := .later }
def FnElgamalUptoCardSaid : Prop := Claim7.holds Tryz.pinned (.plain (OpenSpec.upto fnElgamalSpec)) fnElgamalUptoCard

/-- THE SECOND FORM's CARD OF 'laws.FnTwistMult'. -/
def fnTwistMultUptoCard : Claim7 := { stood := { row := fnTwistMultUptoRow, standIns := [], harness := (true, "712021d6c67aa2327005fc596375ebf672adae539efd9831fce3974b84e1c352"), looks := true }, kinds := [], alts := [], laidByText := true, laidKinds := [.data, .data, .data, .data, .data, .data], laidTests := true, laidLooks := .later }
def FnTwistMultUptoCardSaid : Prop := Claim7.holds Tryz.pinned (.plain (OpenSpec.upto fnTwistMultSpec)) fnTwistMultUptoCard

/-- THE SECOND FORM's CARD OF 'laws.FnTwistAdd'. -/
def fnTwistAddUptoCard : Claim7 := { stood := { row := fnTwistAddUptoRow, standIns := [], harness := (true, "712021d6c67aa2327005fc596375ebf672adae539efd9831fce3974b84e1c352"), looks := true }, kinds := [], alts := [], laidByText := true, laidKinds := [.data, .data, .data, .data, .data, .data], laidTests := true, laidLooks := .later }
def FnTwistAddUptoCardSaid : Prop := Claim7.holds Tryz.pinned (.plain (OpenSpec.upto fnTwistAddSpec)) fnTwistAddUptoCard
end Rows
end Go.Proofs.YtohhkjamddojmaaGreatDoor
