/- The row and the card of FnNamedOrder. -/
import Derived.Test.YtohhkjamddojmaaGreatDoorCards
import Derived.Test.YtohhkjamddojmaaGreatDoorTie
import Derived.Test.YtohhkjamddojmaaGreatDoorTQG
import Derived.Test.YtohhkjamddojmaaGreatDoorQV
namespace Go.Proofs.YtohhkjamddojmaaGreatDoor.Bit
open Big
open Go.ChangeShapes Go.WideShapes Go.ChangeAt Go.RowKit

theorem said6 : Rows.FnNamedOrderSaid :=
  OpenClaim.holds_of_cond 6 Tryz.f6 rfl rfl rfl rfl rfl rfl rfl ⟨rfl, rfl, rfl, rfl, rfl⟩ rfl rfl rfl rfl rfl Facts6.named Tryz.func6 Facts6.joined Facts6.isInst Facts6.isWrap
    (fun os started H enc _ F => by rw [OpenClaim.pre_eq_preRow]; exact lifted6 os started H enc F)

theorem plain6 (f : FuncId) (fn : Func) (hf : Tryz.pinned.checked.prog.funcNamed "pub-counterseal/laws.FnNamedOrder" = some f) (hfn : Tryz.pinned.checked.prog.funcs[f]? = some fn) :
    true = Tryz.pinned.checked.prog.looks [] ∧ ∀ (j : Nat) t, fn.params[j]? = some t → Tryz.pinned.checked.prog.wantsStandIn t = false := by
  obtain rfl : f = 6 := Option.some.inj (Facts6.named.symm.trans hf) |>.symm
  obtain rfl : fn = Tryz.f6 := (Option.some.inj (Tryz.func6.symm.trans hfn)).symm
  refine ⟨Facts6.looks, fun j t ht => ?_⟩
  rw [Tryz.params6] at ht
  obtain rfl : t = 5 := by simpa using Array.mem_of_getElem? ht
  exact (show Tryz.prog.wantsStandIn 5 = false by kernel_rfl)

theorem card6 : Rows.FnNamedOrderCardSaid :=
  Claim7.holds_tied_plain_at .later [] _ _ _ _ said6 (fun _ h => by cases h) Facts6.wfText (fun _ h => by cases h) fnNamedOrder_row_tie rfl ⟨rfl, rfl⟩ (by kernel_rfl) rfl plain6 Facts6.goesBy
#print axioms card6
end Go.Proofs.YtohhkjamddojmaaGreatDoor.Bit
