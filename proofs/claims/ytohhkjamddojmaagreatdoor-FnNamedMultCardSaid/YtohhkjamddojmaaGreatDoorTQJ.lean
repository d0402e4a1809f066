/- The closed facts of the row of FnNamedMult. -/
import Derived.Test.YtohhkjamddojmaaGreatDoorCards
import Derived.Test.YtohhkjamddojmaaGreatDoorChecked
import Derived.ProofKit
import Derived.OpenShut
import Derived.JoinedCond
import Derived.KernelRfl
set_option maxRecDepth 100000
namespace Go.Proofs.YtohhkjamddojmaaGreatDoor.Facts4
open Go
theorem j0:(Rows.fnNamedMultRow.wf (OpenSpec.ofChange (OpenSpec.ofChange Rows.fnNamedMultSpec).bare):Bool)=true:=by kernel_rfl
theorem j1:(laidOutB Tryz.pinned.checked.prog:Bool)=true:=by kernel_rfl
theorem j2:(mapsRowed Tryz.pinned.checked.prog:Bool)=true:=by kernel_rfl
theorem j3:(Tryz.f4.params.all (Tryz.pinned.checked.prog.readableRec ·):Bool)=true:=by kernel_rfl
theorem j4:(namedTie Tryz.pinned.checked.prog Rows.fnNamedMultRow.named (OpenSpec.ofChange Rows.fnNamedMultSpec).bare.vars:Bool)=true:=by kernel_rfl
theorem j5:(Rows.fnNamedMultRow.stops == []:Bool)=true:=by kernel_rfl
theorem j6:(Tryz.pinned.checked.prog.stops == []:Bool)=true:=by kernel_rfl
theorem j7:(Rows.fnNamedMultRow.knobs == []:Bool)=true:=by kernel_rfl
theorem j8:(Tryz.pinned.checked.prog.stopKnobs == []:Bool)=true:=by kernel_rfl
theorem j9:(Rows.fnNamedMultRow.inPlace==Tryz.pinned.checked.prog.inPlace 4:Bool)=true:=by kernel_rfl
theorem j10:(Rows.fnNamedMultRow.unfollowed==Tryz.pinned.checked.prog.unfollowed 4:Bool)=true:=by kernel_rfl
theorem j11:(Rows.fnNamedMultRow.recurses==Tryz.pinned.checked.prog.recurses 4:Bool)=true:=by kernel_rfl
theorem j12:(Rows.fnNamedMultRow.named==Tryz.pinned.checked.prog.varsNamed 4:Bool)=true:=by kernel_rfl
theorem j13:(Rows.fnNamedMultRow.maps==(Tryz.f4.params.toList++(OpenSpec.ofChange Rows.fnNamedMultSpec).bare.plain.varTypes Tryz.pinned.checked.prog).any (Tryz.pinned.checked.prog.mapsRec ·):Bool)=true:=by kernel_rfl
theorem j14:(Rows.fnNamedMultRow.ifaces==(Tryz.f4.params.toList++(OpenSpec.ofChange Rows.fnNamedMultSpec).bare.plain.varTypes Tryz.pinned.checked.prog).any (Tryz.pinned.checked.prog.ifacesRec ·):Bool)=true:=by kernel_rfl
theorem j15:(Rows.fnNamedMultRow.mapsOut==Tryz.pinned.checked.prog.mapsAmong Tryz.f4.resultTypes.toList:Bool)=true:=by kernel_rfl
theorem j16:(Rows.fnNamedMultRow.loops==(Tryz.f4.params.toList++(OpenSpec.ofChange Rows.fnNamedMultSpec).bare.plain.varTypes Tryz.pinned.checked.prog).any (Tryz.pinned.checked.prog.loopsFrom ·):Bool)=true:=by kernel_rfl
theorem j17:(Rows.fnNamedMultRow.wideKeys==(Tryz.f4.params.toList++(OpenSpec.ofChange Rows.fnNamedMultSpec).bare.plain.varTypes Tryz.pinned.checked.prog++Tryz.f4.resultTypes.toList).any (Tryz.pinned.checked.prog.wideKeysFrom ·):Bool)=true:=by kernel_rfl
theorem j18:((OpenSpec.ofChange Rows.fnNamedMultSpec).bare.vars.all (Tryz.pinned.checked.prog.varReadable ·):Bool)=true:=by kernel_rfl
theorem j19:(Tryz.f4.resultTypes.all (λt=>Tryz.pinned.checked.prog.readableRec t&&decide (t<Tryz.pinned.checked.prog.types.size)):Bool)=true:=by kernel_rfl
theorem j20:(Rows.fnNamedMultRow.ifacesOut==Tryz.f4.resultTypes.toList.any (Tryz.pinned.checked.prog.ifacesRec ·):Bool)=true:=by kernel_rfl
theorem j21:(Rows.fnNamedMultRow.loopsOut==Tryz.f4.resultTypes.toList.any (Tryz.pinned.checked.prog.loopsFrom ·):Bool)=true:=by kernel_rfl
theorem j22:(Rows.fnNamedMultRow.plainKeys==Tryz.pinned.checked.prog.plainKeys:Bool)=true:=by kernel_rfl
theorem j23:(Rows.fnNamedMultRow.shortTexts.isNone:Bool)=true:=by kernel_rfl
theorem j24:(Tryz.pinned.checked.prog.stopsHeard:Bool)=true:=by kernel_rfl
theorem j25:(Tryz.pinned.checked.prog.mayEnter:Bool)=true:=by kernel_rfl
theorem j26:(Rows.fnNamedMultRow.lifted==Tryz.pinned.checked.prog.liftsFinal:Bool)=true:=by kernel_rfl
theorem j27:(Tryz.pinned.checked.prog.make==some Rows.fnNamedMultRow.make:Bool)=true:=by kernel_rfl
theorem j28:(Rows.fnNamedMultRow.kinds==(if Rows.fnNamedMultRow.domain.isEmpty then[] else Tryz.f4.params.toList.map λt=>match Tryz.pinned.checked.prog.underlying t with|some (.int k)=>some k|_=>none):Bool)=true:=by kernel_rfl
theorem j29:(Rows.fnNamedMultRow.pinned==Rows.fnNamedMultRow.pinnedBy:Bool)=true:=by kernel_rfl
theorem j30:(Rows.fnNamedMultRow.veiled==(Tryz.f4.params.toList++(OpenSpec.ofChange Rows.fnNamedMultSpec).bare.plain.varTypes Tryz.pinned.checked.prog++Tryz.f4.resultTypes.toList).any (Tryz.pinned.checked.prog.veiledRec ·):Bool)=true:=by kernel_rfl
theorem j31:(Rows.fnNamedMultRow.veiledFits Tryz.pinned.checked.prog Tryz.f4.params.toList (Tryz.f4.params.toList++(OpenSpec.ofChange Rows.fnNamedMultSpec).bare.plain.varTypes Tryz.pinned.checked.prog++Tryz.f4.resultTypes.toList):Bool)=true:=by kernel_rfl
theorem and2 {a b:Bool} (h:a=true) (k:b=true):(a&&b)=true:=by rw[h,k];rfl
theorem joined:joinedFacts Tryz.pinned.checked.prog 4 Tryz.f4 (OpenSpec.ofChange Rows.fnNamedMultSpec).bare Rows.fnNamedMultRow=true:=by
 unfold joinedFacts
 exact(and2 (and2 (and2 (and2 (and2 (and2 (and2 (and2 (and2 (and2 (and2 (and2 (and2 (and2 (and2 (and2 (and2 (and2 (and2 (and2 (and2 (and2 (and2 (and2 (and2 (and2 (and2 (and2 (and2 (and2 (and2 j0 j1) j2) j3) j4) j5) j6) j7) j8) j9) j10) j11) j12) j13) j14) j15) j16) j17) j18) j19) j20) j21) j22) j23) j24) j25) j26) j27) j28) j29) j30) j31)
theorem named:Tryz.pinned.checked.prog.funcNamed "pub-counterseal/laws.FnNamedMult" = some 4:=by kernel_rfl
theorem isInst:Tryz.f4.isInstance Tryz.pinned.checked.prog Rows.fnNamedMultRow.origin Rows.fnNamedMultRow.targs:=of_decide_eq_true (by kernel_rfl)
theorem isWrap:Tryz.f4.isWrapper Tryz.pinned.checked.prog Rows.fnNamedMultRow.wrapper Rows.fnNamedMultRow.mainSum:=by unfold Func.isWrapper;first|(rw[if_pos (by decide +kernel)];kernel_rfl)|(rw[if_neg (by decide +kernel)];exact⟨rfl,rfl⟩)
theorem wfText:Rows.fnNamedMultRow.wfByText (OpenSpec.ofChange Rows.fnNamedMultSpec)=true:=by kernel_rfl
theorem looks:true=Tryz.pinned.checked.prog.looks []:=by kernel_rfl
theorem goesBy:false=Rows.fnNamedMultRow.goesBy Tryz.pinned.checked.prog:=by kernel_rfl
end Go.Proofs.YtohhkjamddojmaaGreatDoor.Facts4
