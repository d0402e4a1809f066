/- The row and the card of FnNamedDouble. -/
import Derived.Test.YtohhkjamddojmaaGreatDoorCards
import Derived.Test.YtohhkjamddojmaaGreatDoorTie
import Derived.Test.YtohhkjamddojmaaGreatDoorTQH
import Derived.Test.YtohhkjamddojmaaGreatDoorBU
namespace Go.Proofs.YtohhkjamddojmaaGreatDoor.Bit
open Big
open Go.ChangeShapes Go.WideShapes Go.ChangeAt Go.RowKit

theorem said3 : Rows.FnNamedDoubleSaid :=
 OpenClaim.holds_of_cond 3 Tryz.f3 rfl rfl rfl rfl rfl rfl rfl ⟨rfl, rfl, rfl, rfl, rfl⟩ rfl rfl rfl rfl rfl Facts3.named Tryz.func3 Facts3.joined Facts3.isInst Facts3.isWrap
  (fun os started H enc _ F => by rw [OpenClaim.pre_eq_preRow]; exact lifted3 os started H enc F)

theorem plain3 (f : FuncId) (fn : Func) (hf : Tryz.pinned.checked.prog.funcNamed "pub-counterseal/laws.FnNamedDouble" = some f) (hfn : Tryz.pinned.checked.prog.funcs[f]? = some fn) :
 true = Tryz.pinned.checked.prog.looks [] ∧ ∀ (j : Nat) t, fn.params[j]? = some t → Tryz.pinned.checked.prog.wantsStandIn t = false := by
 obtain rfl : f = 3 := Option.some.inj (Facts3.named.symm.trans hf) |>.symm
 obtain rfl : fn = Tryz.f3 := (Option.some.inj (Tryz.func3.symm.trans hfn)).symm
 refine ⟨Facts3.looks, fun j t ht => ?_⟩
 rw [Tryz.params3] at ht
 have hm := Array.mem_of_getElem? ht
 have : t = 5 ∨ t = 22 := by simpa using hm
 rcases this with rfl | rfl
 · exact (show Tryz.prog.wantsStandIn 5 = false by kernel_rfl)
 · exact (show Tryz.prog.wantsStandIn 22 = false by kernel_rfl)

theorem card3 : Rows.FnNamedDoubleCardSaid :=
 Claim7.holds_tied_plain_at .later [] _ _ _ _ said3 (fun _ h => by cases h) Facts3.wfText (fun _ h => by cases h) fnNamedDouble_row_tie rfl ⟨rfl, rfl⟩ (by kernel_rfl) rfl plain3 Facts3.goesBy
#print axioms card3
end Go.Proofs.YtohhkjamddojmaaGreatDoor.Bit
