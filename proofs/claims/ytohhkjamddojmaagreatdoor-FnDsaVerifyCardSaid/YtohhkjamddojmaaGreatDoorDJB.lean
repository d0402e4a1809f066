/- The row and the card of FnDsaVerify. -/
import Derived.Test.YtohhkjamddojmaaGreatDoorTQE
import Derived.Test.YtohhkjamddojmaaGreatDoorDJA
namespace Go.Proofs.YtohhkjamddojmaaGreatDoor.Big
open Go.ChangeShapes Go.WideShapes Go.ChangeAt Go.RowKit

theorem said8 : Rows.FnDsaVerifySaid :=
  OpenClaim.holds_of_cond 8 Tryz.f8 rfl rfl rfl rfl rfl rfl rfl ⟨rfl, rfl, rfl, rfl, rfl⟩ rfl rfl rfl rfl rfl Facts8.named Tryz.func8 Facts8.joined Facts8.isInst Facts8.isWrap
    (fun os started H enc _ F => by rw [OpenClaim.pre_eq_preRow]; exact lifted8 os started H enc F)

theorem plain8 (f : FuncId) (fn : Func) (hf : Tryz.pinned.checked.prog.funcNamed "pub-counterseal/laws.FnDsaVerify" = some f) (hfn : Tryz.pinned.checked.prog.funcs[f]? = some fn) :
    true = Tryz.pinned.checked.prog.looks [] ∧ ∀ (j : Nat) t, fn.params[j]? = some t → Tryz.pinned.checked.prog.wantsStandIn t = false := by
  obtain rfl : f = 8 := Option.some.inj (Facts8.named.symm.trans hf) |>.symm
  obtain rfl : fn = Tryz.f8 := (Option.some.inj (Tryz.func8.symm.trans hfn)).symm
  refine ⟨Facts8.looks, fun j t ht => ?_⟩
  rw [Tryz.params8] at ht
  have hm := Array.mem_of_getElem? ht
  have : t = 65 ∨ t = 66 ∨ t = 63 := by simpa using hm
  rcases this with rfl | rfl | rfl
  · exact (show Tryz.prog.wantsStandIn 65 = false by kernel_rfl)
  · exact (show Tryz.prog.wantsStandIn 66 = false by kernel_rfl)
  · exact (show Tryz.prog.wantsStandIn 63 = false by kernel_rfl)

theorem card8 : Rows.FnDsaVerifyCardSaid :=
  Claim7.holds_tied_plain_at .later [] _ _ _ _ said8 (fun _ h => by cases h) Facts8.wfText (fun _ h => by cases h) fnDsaVerify_row_tie rfl ⟨rfl, rfl⟩ (by kernel_rfl) rfl plain8 Facts8.goesBy
#print axioms card8
end Go.Proofs.YtohhkjamddojmaaGreatDoor.Big
