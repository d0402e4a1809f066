/- The row and the card of FnTwistMult. -/
import Derived.Test.YtohhkjamddojmaaGreatDoorTQD
import Derived.Test.YtohhkjamddojmaaGreatDoorKHA
namespace Go.Proofs.YtohhkjamddojmaaGreatDoor.Big
open Go.ChangeShapes Go.WideShapes Go.ChangeAt Go.RowKit

theorem said12 : Rows.FnTwistMultSaid :=
  OpenClaim.holds_of_cond 12 Tryz.f12 rfl rfl rfl rfl rfl rfl rfl ⟨rfl, rfl, rfl, rfl, rfl⟩ rfl rfl rfl rfl rfl Facts12.named Tryz.func12 Facts12.joined Facts12.isInst Facts12.isWrap
    (fun os started H enc _ F => by rw [OpenClaim.pre_eq_preRow]; exact lifted12 os started H enc F)

theorem plain12 (f : FuncId) (fn : Func) (hf : Tryz.pinned.checked.prog.funcNamed "pub-counterseal/laws.FnTwistMult" = some f) (hfn : Tryz.pinned.checked.prog.funcs[f]? = some fn) :
    true = Tryz.pinned.checked.prog.looks [] ∧ ∀ (j : Nat) t, fn.params[j]? = some t → Tryz.pinned.checked.prog.wantsStandIn t = false := by
  obtain rfl : f = 12 := Option.some.inj (Facts12.named.symm.trans hf) |>.symm
  obtain rfl : fn = Tryz.f12 := (Option.some.inj (Tryz.func12.symm.trans hfn)).symm
  refine ⟨Facts12.looks, fun j t ht => ?_⟩
  rw [Tryz.params12] at ht
  have hm := Array.mem_of_getElem? ht
  have : t = 57 ∨ t = 3 ∨ t = 5 := by simpa using hm
  rcases this with rfl | rfl | rfl
  · exact (show Tryz.prog.wantsStandIn 57 = false by kernel_rfl)
  · exact (show Tryz.prog.wantsStandIn 3 = false by kernel_rfl)
  · exact (show Tryz.prog.wantsStandIn 5 = false by kernel_rfl)

theorem card12 : Rows.FnTwistMultCardSaid :=
  Claim7.holds_tied_plain_at .later [] _ _ _ _ said12 (fun _ h => by cases h) Facts12.wfText (fun _ h => by cases h) fnTwistMult_row_tie rfl ⟨rfl, rfl⟩ (by kernel_rfl) rfl plain12 Facts12.goesBy
#print axioms card12
end Go.Proofs.YtohhkjamddojmaaGreatDoor.Big
