/- The row and the card of FnTwistAdd. -/
import Derived.Test.YtohhkjamddojmaaGreatDoorTQC
import Derived.Test.YtohhkjamddojmaaGreatDoorJZA
namespace Go.Proofs.YtohhkjamddojmaaGreatDoor.Big
open Go.ChangeShapes Go.WideShapes Go.ChangeAt Go.RowKit

theorem said13 : Rows.FnTwistAddSaid :=
  OpenClaim.holds_of_cond 13 Tryz.f13 rfl rfl rfl rfl rfl rfl rfl ⟨rfl, rfl, rfl, rfl, rfl⟩ rfl rfl rfl rfl rfl Facts13.named Tryz.func13 Facts13.joined Facts13.isInst Facts13.isWrap
    (fun os started H enc _ F => by rw [OpenClaim.pre_eq_preRow]; exact lifted13 os started H enc F)

theorem plain13 (f : FuncId) (fn : Func) (hf : Tryz.pinned.checked.prog.funcNamed "pub-counterseal/laws.FnTwistAdd" = some f) (hfn : Tryz.pinned.checked.prog.funcs[f]? = some fn) :
    true = Tryz.pinned.checked.prog.looks [] ∧ ∀ (j : Nat) t, fn.params[j]? = some t → Tryz.pinned.checked.prog.wantsStandIn t = false := by
  obtain rfl : f = 13 := Option.some.inj (Facts13.named.symm.trans hf) |>.symm
  obtain rfl : fn = Tryz.f13 := (Option.some.inj (Tryz.func13.symm.trans hfn)).symm
  refine ⟨Facts13.looks, fun j t ht => ?_⟩
  rw [Tryz.params13] at ht
  have hm := Array.mem_of_getElem? ht
  have : t = 57 ∨ t = 102 := by simpa using hm
  rcases this with rfl | rfl
  · exact (show Tryz.prog.wantsStandIn 57 = false by kernel_rfl)
  · exact (show Tryz.prog.wantsStandIn 102 = false by kernel_rfl)

theorem card13 : Rows.FnTwistAddCardSaid :=
  Claim7.holds_tied_plain_at .later [] _ _ _ _ said13 (fun _ h => by cases h) Facts13.wfText (fun _ h => by cases h) fnTwistAdd_row_tie rfl ⟨rfl, rfl⟩ (by kernel_rfl) rfl plain13 Facts13.goesBy
#print axioms card13
end Go.Proofs.YtohhkjamddojmaaGreatDoor.Big
