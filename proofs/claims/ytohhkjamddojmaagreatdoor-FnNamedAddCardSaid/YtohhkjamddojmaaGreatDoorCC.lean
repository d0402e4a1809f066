/- The row and the card of FnNamedAdd. -/
import Derived.Test.YtohhkjamddojmaaGreatDoorCards
import Derived.Test.YtohhkjamddojmaaGreatDoorTie
import Derived.Test.YtohhkjamddojmaaGreatDoorTQI
import Derived.Test.YtohhkjamddojmaaGreatDoorCB
namespace Go.Proofs.YtohhkjamddojmaaGreatDoor.Bit
open Big
open Go.ChangeShapes Go.WideShapes Go.ChangeAt Go.RowKit
theorem said5 : Rows.FnNamedAddSaid :=
 OpenClaim.holds_of_cond 5 Tryz.f5 rfl rfl rfl rfl rfl rfl rfl ⟨rfl, rfl, rfl, rfl, rfl⟩ rfl rfl rfl rfl rfl Facts5.named Tryz.func5 Facts5.joined Facts5.isInst Facts5.isWrap
  (fun os started H enc _ F => by rw [OpenClaim.pre_eq_preRow]; exact lifted5 os started H enc F)
theorem plain5 (f : FuncId) (fn : Func) (hf : Tryz.pinned.checked.prog.funcNamed "pub-counterseal/laws.FnNamedAdd" = some f) (hfn : Tryz.pinned.checked.prog.funcs[f]? = some fn) :
 true = Tryz.pinned.checked.prog.looks [] ∧ ∀ (j : Nat) t, fn.params[j]? = some t → Tryz.pinned.checked.prog.wantsStandIn t = false := by
 obtain rfl : f = 5 := Option.some.inj (Facts5.named.symm.trans hf) |>.symm
 obtain rfl : fn = Tryz.f5 := (Option.some.inj (Tryz.func5.symm.trans hfn)).symm
 refine ⟨Facts5.looks, fun j t ht => ?_⟩
 rw [Tryz.params5] at ht
 have hm := Array.mem_of_getElem? ht
 have : t = 5 ∨ t = 22 := by simpa using hm
 rcases this with rfl | rfl
 · exact (show Tryz.prog.wantsStandIn 5 = false by kernel_rfl)
 · exact (show Tryz.prog.wantsStandIn 22 = false by kernel_rfl)
theorem card5 : Rows.FnNamedAddCardSaid :=
 Claim7.holds_tied_plain_at .later [] _ _ _ _ said5 (fun _ h => by cases h) Facts5.wfText (fun _ h => by cases h) fnNamedAdd_row_tie rfl ⟨rfl, rfl⟩ (by kernel_rfl) rfl plain5 Facts5.goesBy
#print axioms card5
end Go.Proofs.YtohhkjamddojmaaGreatDoor.Bit
