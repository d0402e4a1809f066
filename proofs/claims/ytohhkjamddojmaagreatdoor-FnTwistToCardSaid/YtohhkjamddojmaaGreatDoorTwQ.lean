/- The row and the card of FnTwistTo. -/
import Derived.Test.YtohhkjamddojmaaGreatDoorTQA
import Derived.Test.YtohhkjamddojmaaGreatDoorTwP
namespace Go.Proofs.YtohhkjamddojmaaGreatDoor.Big
open Go.ChangeShapes Go.WideShapes Go.ChangeAt Go.RowKit

theorem said7 : Rows.FnTwistToSaid :=
  OpenClaim.holds_of_cond 7 Tryz.f7 rfl rfl rfl rfl rfl rfl rfl ⟨rfl, rfl, rfl, rfl, rfl⟩ rfl rfl rfl rfl rfl Facts7.named Tryz.func7 Facts7.joined Facts7.isInst Facts7.isWrap
    (fun os started H enc _ F => by rw [OpenClaim.pre_eq_preRow]; exact lifted os started H enc F)

theorem plain7 (f : FuncId) (fn : Func) (hf : Tryz.pinned.checked.prog.funcNamed "pub-counterseal/laws.FnTwistTo" = some f) (hfn : Tryz.pinned.checked.prog.funcs[f]? = some fn) :
    true = Tryz.pinned.checked.prog.looks [] ∧ ∀ (j : Nat) t, fn.params[j]? = some t → Tryz.pinned.checked.prog.wantsStandIn t = false := by
  obtain rfl : f = 7 := Option.some.inj (Facts7.named.symm.trans hf) |>.symm
  obtain rfl : fn = Tryz.f7 := (Option.some.inj (Tryz.func7.symm.trans hfn)).symm
  refine ⟨Facts7.looks, fun j t ht => ?_⟩
  rw [Tryz.params7] at ht
  have hm := Array.mem_of_getElem? ht
  have : t = 57 ∨ t = 3 := by simpa using hm
  rcases this with rfl | rfl
  · exact (show Tryz.prog.wantsStandIn 57 = false by kernel_rfl)
  · exact (show Tryz.prog.wantsStandIn 3 = false by kernel_rfl)

theorem card7 : Rows.FnTwistToCardSaid :=
  Claim7.holds_tied_plain_at .later [] _ _ _ _ said7 (fun _ h => by cases h) Facts7.wfText (fun _ h => by cases h) fnTwistTo_row_tie rfl ⟨rfl, rfl⟩ (by kernel_rfl) rfl plain7 Facts7.goesBy
#print axioms card7
end Go.Proofs.YtohhkjamddojmaaGreatDoor.Big
