/- The row and the card of FnNamedMult. -/
import Derived.Test.YtohhkjamddojmaaGreatDoorCards
import Derived.Test.YtohhkjamddojmaaGreatDoorTie
import Derived.Test.YtohhkjamddojmaaGreatDoorTQJ
import Derived.Test.YtohhkjamddojmaaGreatDoorCP
namespace Go.Proofs.YtohhkjamddojmaaGreatDoor.Bit
open Big
open Go.ChangeShapes Go.WideShapes Go.ChangeAt Go.RowKit
theorem said4:Rows.FnNamedMultSaid:=
 OpenClaim.holds_of_cond 4 Tryz.f4 rfl rfl rfl rfl rfl rfl rfl ⟨rfl,rfl,rfl,rfl,rfl⟩ rfl rfl rfl rfl rfl Facts4.named Tryz.func4 Facts4.joined Facts4.isInst Facts4.isWrap
  (λos started H enc _ F=>by rw[OpenClaim.pre_eq_preRow];exact lifted4 os started H enc F)
theorem plain4 (f:FuncId) (fn:Func) (hf:Tryz.pinned.checked.prog.funcNamed "pub-counterseal/laws.FnNamedMult" = some f) (hfn:Tryz.pinned.checked.prog.funcs[f]? = some fn) :
 true=Tryz.pinned.checked.prog.looks []/\∀ (j:Nat) t,fn.params[j]? = some t->Tryz.pinned.checked.prog.wantsStandIn t=false:=by
 obtain rfl:f=4:=Option.some.inj (Facts4.named.symm.trans hf) |>.symm
 obtain rfl:fn=Tryz.f4:=(Option.some.inj (Tryz.func4.symm.trans hfn)).symm
 refine⟨Facts4.looks,λj t ht=>?_⟩
 rw[Tryz.params4] at ht
 have hm:=Array.mem_of_getElem? ht
 have:t=5\/t=25:=by simpa using hm
 rcases this with rfl|rfl
 . exact(show Tryz.prog.wantsStandIn 5=false by kernel_rfl)
 . exact(show Tryz.prog.wantsStandIn 25=false by kernel_rfl)
theorem card4:Rows.FnNamedMultCardSaid:=
 Claim7.holds_tied_plain_at .later [] _ _ _ _ said4 (λ_ h=>by cases h) Facts4.wfText (λ_ h=>by cases h) fnNamedMult_row_tie rfl ⟨rfl,rfl⟩ (by kernel_rfl) rfl plain4 Facts4.goesBy
#print axioms card4
end Go.Proofs.YtohhkjamddojmaaGreatDoor.Bit
