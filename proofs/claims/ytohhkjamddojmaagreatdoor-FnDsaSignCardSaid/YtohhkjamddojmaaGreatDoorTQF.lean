/- The closed facts of the row of FnDsaSign. -/
import Derived.Test.YtohhkjamddojmaaGreatDoorCards
import Derived.Test.YtohhkjamddojmaaGreatDoorChecked
import Derived.ProofKit
import Derived.OpenShut
import Derived.JoinedCond
import Derived.KernelRfl
namespace Go.Proofs.YtohhkjamddojmaaGreatDoor.Facts10
open Go

theorem j0 : (Rows.fnDsaSignRow.wf (OpenSpec.ofChange (OpenSpec.ofChange Rows.fnDsaSignSpec).bare) : Bool) = true := by kernel_rfl
theorem j1 : (laidOutB Tryz.pinned.checked.prog : Bool) = true := by kernel_rfl
theorem j2 : (mapsRowed Tryz.pinned.checked.prog : Bool) = true := by kernel_rfl
theorem j3 : (Tryz.f10.params.all (Tryz.pinned.checked.prog.readableRec ·) : Bool) = true := by kernel_rfl
theorem j4 : (namedTie Tryz.pinned.checked.prog Rows.fnDsaSignRow.named (OpenSpec.ofChange Rows.fnDsaSignSpec).bare.vars : Bool) = true := by kernel_rfl
theorem j5 : (Rows.fnDsaSignRow.stops == [] : Bool) = true := by kernel_rfl
theorem j6 : (Tryz.pinned.checked.prog.stops == [] : Bool) = true := by kernel_rfl
theorem j7 : (Rows.fnDsaSignRow.knobs == [] : Bool) = true := by kernel_rfl
theorem j8 : (Tryz.pinned.checked.prog.stopKnobs == [] : Bool) = true := by kernel_rfl
theorem j9 : (Rows.fnDsaSignRow.inPlace == Tryz.pinned.checked.prog.inPlace 10 : Bool) = true := by kernel_rfl
theorem j10 : (Rows.fnDsaSignRow.unfollowed == Tryz.pinned.checked.prog.unfollowed 10 : Bool) = true := by kernel_rfl
theorem j11 : (Rows.fnDsaSignRow.recurses == Tryz.pinned.checked.prog.recurses 10 : Bool) = true := by kernel_rfl
theorem j12 : (Rows.fnDsaSignRow.named == Tryz.pinned.checked.prog.varsNamed 10 : Bool) = true := by kernel_rfl
theorem j13 : (Rows.fnDsaSignRow.maps == (Tryz.f10.params.toList ++ (OpenSpec.ofChange Rows.fnDsaSignSpec).bare.plain.varTypes Tryz.pinned.checked.prog).any (Tryz.pinned.checked.prog.mapsRec ·) : Bool) = true := by kernel_rfl
theorem j14 : (Rows.fnDsaSignRow.ifaces == (Tryz.f10.params.toList ++ (OpenSpec.ofChange Rows.fnDsaSignSpec).bare.plain.varTypes Tryz.pinned.checked.prog).any (Tryz.pinned.checked.prog.ifacesRec ·) : Bool) = true := by kernel_rfl
theorem j15 : (Rows.fnDsaSignRow.mapsOut == Tryz.pinned.checked.prog.mapsAmong Tryz.f10.resultTypes.toList : Bool) = true := by kernel_rfl
theorem j16 : (Rows.fnDsaSignRow.loops == (Tryz.f10.params.toList ++ (OpenSpec.ofChange Rows.fnDsaSignSpec).bare.plain.varTypes Tryz.pinned.checked.prog).any (Tryz.pinned.checked.prog.loopsFrom ·) : Bool) = true := by kernel_rfl
theorem j17 : (Rows.fnDsaSignRow.wideKeys == (Tryz.f10.params.toList ++ (OpenSpec.ofChange Rows.fnDsaSignSpec).bare.plain.varTypes Tryz.pinned.checked.prog ++ Tryz.f10.resultTypes.toList).any (Tryz.pinned.checked.prog.wideKeysFrom ·) : Bool) = true := by kernel_rfl
theorem j18 : ((OpenSpec.ofChange Rows.fnDsaSignSpec).bare.vars.all (Tryz.pinned.checked.prog.varReadable ·) : Bool) = true := by kernel_rfl
theorem j19 : (Tryz.f10.resultTypes.all (fun t => Tryz.pinned.checked.prog.readableRec t && decide (t < Tryz.pinned.checked.prog.types.size)) : Bool) = true := by kernel_rfl
theorem j20 : (Rows.fnDsaSignRow.ifacesOut == Tryz.f10.resultTypes.toList.any (Tryz.pinned.checked.prog.ifacesRec ·) : Bool) = true := by kernel_rfl
theorem j21 : (Rows.fnDsaSignRow.loopsOut == Tryz.f10.resultTypes.toList.any (Tryz.pinned.checked.prog.loopsFrom ·) : Bool) = true := by kernel_rfl
theorem j22 : (Rows.fnDsaSignRow.plainKeys == Tryz.pinned.checked.prog.plainKeys : Bool) = true := by kernel_rfl
theorem j23 : (Rows.fnDsaSignRow.shortTexts.isNone : Bool) = true := by kernel_rfl
theorem j24 : (Tryz.pinned.checked.prog.stopsHeard : Bool) = true := by kernel_rfl
theorem j25 : (Tryz.pinned.checked.prog.mayEnter : Bool) = true := by kernel_rfl
theorem j26 : (Rows.fnDsaSignRow.lifted == Tryz.pinned.checked.prog.liftsFinal : Bool) = true := by kernel_rfl
theorem j27 : (Tryz.pinned.checked.prog.make == some Rows.fnDsaSignRow.make : Bool) = true := by kernel_rfl
theorem j28 : (Rows.fnDsaSignRow.kinds == (if Rows.fnDsaSignRow.domain.isEmpty then [] else Tryz.f10.params.toList.map fun t => match Tryz.pinned.checked.prog.underlying t with | some (.int k) => some k | _ => none) : Bool) = true := by kernel_rfl
theorem j29 : (Rows.fnDsaSignRow.pinned == Rows.fnDsaSignRow.pinnedBy : Bool) = true := by kernel_rfl
theorem j30 : (Rows.fnDsaSignRow.veiled == (Tryz.f10.params.toList ++ (OpenSpec.ofChange Rows.fnDsaSignSpec).bare.plain.varTypes Tryz.pinned.checked.prog ++ Tryz.f10.resultTypes.toList).any (Tryz.pinned.checked.prog.veiledRec ·) : Bool) = true := by kernel_rfl
theorem j31 : (Rows.fnDsaSignRow.veiledFits Tryz.pinned.checked.prog Tryz.f10.params.toList (Tryz.f10.params.toList ++ (OpenSpec.ofChange Rows.fnDsaSignSpec).bare.plain.varTypes Tryz.pinned.checked.prog ++ Tryz.f10.resultTypes.toList) : Bool) = true := by kernel_rfl
theorem and2 {a b : Bool} (h : a = true) (k : b = true) : (a && b) = true := by rw [h, k]; rfl
set_option maxRecDepth 100000 in
theorem joined : joinedFacts Tryz.pinned.checked.prog 10 Tryz.f10 (OpenSpec.ofChange Rows.fnDsaSignSpec).bare Rows.fnDsaSignRow = true := by
  unfold joinedFacts
  exact (and2 (and2 (and2 (and2 (and2 (and2 (and2 (and2 (and2 (and2 (and2 (and2 (and2 (and2 (and2 (and2 (and2 (and2 (and2 (and2 (and2 (and2 (and2 (and2 (and2 (and2 (and2 (and2 (and2 (and2 (and2 j0 j1) j2) j3) j4) j5) j6) j7) j8) j9) j10) j11) j12) j13) j14) j15) j16) j17) j18) j19) j20) j21) j22) j23) j24) j25) j26) j27) j28) j29) j30) j31)
theorem named : Tryz.pinned.checked.prog.funcNamed "pub-counterseal/laws.FnDsaSign" = some 10 := by kernel_rfl
theorem isInst : Tryz.f10.isInstance Tryz.pinned.checked.prog Rows.fnDsaSignRow.origin Rows.fnDsaSignRow.targs := of_decide_eq_true (by kernel_rfl)
theorem isWrap : Tryz.f10.isWrapper Tryz.pinned.checked.prog Rows.fnDsaSignRow.wrapper Rows.fnDsaSignRow.mainSum := by unfold Func.isWrapper; first | (rw [if_pos (by decide +kernel)]; kernel_rfl) | (rw [if_neg (by decide +kernel)]; exact ⟨rfl, rfl⟩)
theorem wfText : Rows.fnDsaSignRow.wfByText (OpenSpec.ofChange Rows.fnDsaSignSpec) = true := by kernel_rfl
theorem looks : true = Tryz.pinned.checked.prog.looks [] := by kernel_rfl
theorem goesBy : false = Rows.fnDsaSignRow.goesBy Tryz.pinned.checked.prog := by kernel_rfl
end Go.Proofs.YtohhkjamddojmaaGreatDoor.Facts10
