/- The row and the card of FnTwistOn. -/
import Derived.Test.YtohhkjamddojmaaGreatDoorTQB
import Derived.Test.YtohhkjamddojmaaGreatDoorJJ
namespace Go.Proofs.YtohhkjamddojmaaGreatDoor.Big
open Go.ChangeShapes Go.WideShapes Go.ChangeAt Go.RowKit

theorem said9 : Rows.FnTwistOnSaid :=
  OpenClaim.holds_of_cond 9 Tryz.f9 rfl rfl rfl rfl rfl rfl rfl ⟨rfl, rfl, rfl, rfl, rfl⟩ rfl rfl rfl rfl rfl Facts9.named Tryz.func9 Facts9.joined Facts9.isInst Facts9.isWrap
    (fun os started H enc _ F => by rw [OpenClaim.pre_eq_preRow]; exact lifted9 os started H enc F)

theorem plain9 (f : FuncId) (fn : Func) (hf : Tryz.pinned.checked.prog.funcNamed "pub-counterseal/laws.FnTwistOn" = some f) (hfn : Tryz.pinned.checked.prog.funcs[f]? = some fn) :
    true = Tryz.pinned.checked.prog.looks [] ∧ ∀ (j : Nat) t, fn.params[j]? = some t → Tryz.pinned.checked.prog.wantsStandIn t = false := by
  obtain rfl : f = 9 := Option.some.inj (Facts9.named.symm.trans hf) |>.symm
  obtain rfl : fn = Tryz.f9 := (Option.some.inj (Tryz.func9.symm.trans hfn)).symm
  refine ⟨Facts9.looks, fun j t ht => ?_⟩
  rw [Tryz.params9] at ht
  have hm := Array.mem_of_getElem? ht
  have : t = 57 ∨ t = 3 := by simpa using hm
  rcases this with rfl | rfl
  · exact (show Tryz.prog.wantsStandIn 57 = false by kernel_rfl)
  · exact (show Tryz.prog.wantsStandIn 3 = false by kernel_rfl)

theorem card9 : Rows.FnTwistOnCardSaid :=
  Claim7.holds_tied_plain_at .later [] _ _ _ _ said9 (fun _ h => by cases h) Facts9.wfText (fun _ h => by cases h) fnTwistOn_row_tie rfl ⟨rfl, rfl⟩ (by kernel_rfl) rfl plain9 Facts9.goesBy
#print axioms card9
end Go.Proofs.YtohhkjamddojmaaGreatDoor.Big
