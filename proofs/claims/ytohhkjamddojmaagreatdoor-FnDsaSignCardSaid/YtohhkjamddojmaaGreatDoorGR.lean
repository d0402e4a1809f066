/- The row and the card of FnDsaSign. -/
import Derived.Test.YtohhkjamddojmaaGreatDoorTQF
import Derived.Test.YtohhkjamddojmaaGreatDoorGQ
namespace Go.Proofs.YtohhkjamddojmaaGreatDoor.Big
open Go.ChangeShapes Go.WideShapes Go.ChangeAt Go.RowKit

theorem said10 : Rows.FnDsaSignSaid :=
  OpenClaim.holds_of_cond 10 Tryz.f10 rfl rfl rfl rfl rfl rfl rfl ⟨rfl, rfl, rfl, rfl, rfl⟩ rfl rfl rfl rfl rfl Facts10.named Tryz.func10 Facts10.joined Facts10.isInst Facts10.isWrap
    (fun os started H enc _ F => by rw [OpenClaim.pre_eq_preRow]; exact lifted10 os started H enc F)

theorem plain10 (f : FuncId) (fn : Func) (hf : Tryz.pinned.checked.prog.funcNamed "pub-counterseal/laws.FnDsaSign" = some f) (hfn : Tryz.pinned.checked.prog.funcs[f]? = some fn) :
    true = Tryz.pinned.checked.prog.looks [] ∧ ∀ (j : Nat) t, fn.params[j]? = some t → Tryz.pinned.checked.prog.wantsStandIn t = false := by
  obtain rfl : f = 10 := Option.some.inj (Facts10.named.symm.trans hf) |>.symm
  obtain rfl : fn = Tryz.f10 := (Option.some.inj (Tryz.func10.symm.trans hfn)).symm
  refine ⟨Facts10.looks, fun j t ht => ?_⟩
  rw [Tryz.params10] at ht
  have hm := Array.mem_of_getElem? ht
  have : t = 65 ∨ t = 25 := by simpa using hm
  rcases this with rfl | rfl
  · exact (show Tryz.prog.wantsStandIn 65 = false by kernel_rfl)
  · exact (show Tryz.prog.wantsStandIn 25 = false by kernel_rfl)

theorem card10 : Rows.FnDsaSignCardSaid :=
  Claim7.holds_tied_plain_at .later [] _ _ _ _ said10 (fun _ h => by cases h) Facts10.wfText (fun _ h => by cases h) fnDsaSign_row_tie rfl ⟨rfl, rfl⟩ (by kernel_rfl) rfl plain10 Facts10.goesBy
#print axioms card10
end Go.Proofs.YtohhkjamddojmaaGreatDoor.Big
