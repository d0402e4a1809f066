/- The closed facts of the row of FnTwistOn. -/
import Derived.Test.YtohhkjamddojmaaGreatDoorCards
import Derived.Test.YtohhkjamddojmaaGreatDoorChecked
import Derived.ProofKit
import Derived.OpenShut
import Derived.JoinedCond
import Derived.KernelRfl
namespace Go.Proofs.YtohhkjamddojmaaGreatDoor.Facts9
open Go

theorem j0 : (Rows.fnTwistOnRow.wf (OpenSpec.ofChange (OpenSpec.ofChange Rows.fnTwistOnSpec).bare) : Bool) = true := by kernel_rfl
theorem j1 : (laidOutB Tryz.pinned.checked.prog : Bool) = true := by kernel_rfl
theorem j2 : (mapsRowed Tryz.pinned.checked.prog : Bool) = true := by kernel_rfl
theorem j3 : (Tryz.f9.params.all (Tryz.pinned.checked.prog.readableRec ·) : Bool) = true := by kernel_rfl
theorem j4 : (namedTie Tryz.pinned.checked.prog Rows.fnTwistOnRow.named (OpenSpec.ofChange Rows.fnTwistOnSpec).bare.vars : Bool) = true := by kernel_rfl
theorem j5 : (Rows.fnTwistOnRow.stops == [] : Bool) = true := by kernel_rfl
theorem j6 : (Tryz.pinned.checked.prog.stops == [] : Bool) = true := by kernel_rfl
theorem j7 : (Rows.fnTwistOnRow.knobs == [] : Bool) = true := by kernel_rfl
theorem j8 : (Tryz.pinned.checked.prog.stopKnobs == [] : Bool) = true := by kernel_rfl
theorem j9 : (Rows.fnTwistOnRow.inPlace == Tryz.pinned.checked.prog.inPlace 9 : Bool) = true := by kernel_rfl
theorem j10 : (Rows.fnTwistOnRow.unfollowed == Tryz.pinned.checked.prog.unfollowed 9 : Bool) = true := by kernel_rfl
theorem j11 : (Rows.fnTwistOnRow.recurses == Tryz.pinned.checked.prog.recurses 9 : Bool) = true := by kernel_rfl
theorem j12 : (Rows.fnTwistOnRow.named == Tryz.pinned.checked.prog.varsNamed 9 : Bool) = true := by kernel_rfl
theorem j13 : (Rows.fnTwistOnRow.maps == (Tryz.f9.params.toList ++ (OpenSpec.ofChange Rows.fnTwistOnSpec).bare.plain.varTypes Tryz.pinned.checked.prog).any (Tryz.pinned.checked.prog.mapsRec ·) : Bool) = true := by kernel_rfl
theorem j14 : (Rows.fnTwistOnRow.ifaces == (Tryz.f9.params.toList ++ (OpenSpec.ofChange Rows.fnTwistOnSpec).bare.plain.varTypes Tryz.pinned.checked.prog).any (Tryz.pinned.checked.prog.ifacesRec ·) : Bool) = true := by kernel_rfl
theorem j15 : (Rows.fnTwistOnRow.mapsOut == Tryz.pinned.checked.prog.mapsAmong Tryz.f9.resultTypes.toList : Bool) = true := by kernel_rfl
theorem j16 : (Rows.fnTwistOnRow.loops == (Tryz.f9.params.toList ++ (OpenSpec.ofChange Rows.fnTwistOnSpec).bare.plain.varTypes Tryz.pinned.checked.prog).any (Tryz.pinned.checked.prog.loopsFrom ·) : Bool) = true := by kernel_rfl
theorem j17 : (Rows.fnTwistOnRow.wideKeys == (Tryz.f9.params.toList ++ (OpenSpec.ofChange Rows.fnTwistOnSpec).bare.plain.varTypes Tryz.pinned.checked.prog ++ Tryz.f9.resultTypes.toList).any (Tryz.pinned.checked.prog.wideKeysFrom ·) : Bool) = true := by kernel_rfl
theorem j18 : ((OpenSpec.ofChange Rows.fnTwistOnSpec).bare.vars.all (Tryz.pinned.checked.prog.varReadable ·) : Bool) = true := by kernel_rfl
theorem j19 : (Tryz.f9.resultTypes.all (fun t => Tryz.pinned.checked.prog.readableRec t && decide (t < Tryz.pinned.checked.prog.types.size)) : Bool) = true := by kernel_rfl
theorem j20 : (Rows.fnTwistOnRow.ifacesOut == Tryz.f9.resultTypes.toList.any (Tryz.pinned.checked.prog.ifacesRec ·) : Bool) = true := by kernel_rfl
theorem j21 : (Rows.fnTwistOnRow.loopsOut == Tryz.f9.resultTypes.toList.any (Tryz.pinned.checked.prog.loopsFrom ·) : Bool) = true := by kernel_rfl
theorem j22 : (Rows.fnTwistOnRow.plainKeys == Tryz.pinned.checked.prog.plainKeys : Bool) = true := by kernel_rfl
theorem j23 : (Rows.fnTwistOnRow.shortTexts.isNone : Bool) = true := by kernel_rfl
theorem j24 : (Tryz.pinned.checked.prog.stopsHeard : Bool) = true := by kernel_rfl
theorem j25 : (Tryz.pinned.checked.prog.mayEnter : Bool) = true := by kernel_rfl
theorem j26 : (Rows.fnTwistOnRow.lifted == Tryz.pinned.checked.prog.liftsFinal : Bool) = true := by kernel_rfl
theorem j27 : (Tryz.pinned.checked.prog.make == some Rows.fnTwistOnRow.make : Bool) = true := by kernel_rfl
theorem j28 : (Rows.fnTwistOnRow.kinds == (if Rows.fnTwistOnRow.domain.isEmpty then [] else Tryz.f9.params.toList.map fun t => match Tryz.pinned.checked.prog.underlying t with | some (.int k) => some k | _ => none) : Bool) = true := by kernel_rfl
theorem j29 : (Rows.fnTwistOnRow.pinned == Rows.fnTwistOnRow.pinnedBy : Bool) = true := by kernel_rfl
theorem j30 : (Rows.fnTwistOnRow.veiled == (Tryz.f9.params.toList ++ (OpenSpec.ofChange Rows.fnTwistOnSpec).bare.plain.varTypes Tryz.pinned.checked.prog ++ Tryz.f9.resultTypes.toList).any (Tryz.pinned.checked.prog.veiledRec ·) : Bool) = true := by kernel_rfl
theorem j31 : (Rows.fnTwistOnRow.veiledFits Tryz.pinned.checked.prog Tryz.f9.params.toList (Tryz.f9.params.toList ++ (OpenSpec.ofChange Rows.fnTwistOnSpec).bare.plain.varTypes Tryz.pinned.checked.prog ++ Tryz.f9.resultTypes.toList) : Bool) = true := by kernel_rfl
theorem and2 {a b : Bool} (h : a = true) (k : b = true) : (a && b) = true := by rw [h, k]; rfl
set_option maxRecDepth 100000 in
theorem joined : joinedFacts Tryz.pinned.checked.prog 9 Tryz.f9 (OpenSpec.ofChange Rows.fnTwistOnSpec).bare Rows.fnTwistOnRow = true := by
  unfold joinedFacts
  exact (and2 (and2 (and2 (and2 (and2 (and2 (and2 (and2 (and2 (and2 (and2 (and2 (and2 (and2 (and2 (and2 (and2 (and2 (and2 (and2 (and2 (and2 (and2 (and2 (and2 (and2 (and2 (and2 (and2 (and2 (and2 j0 j1) j2) j3) j4) j5) j6) j7) j8) j9) j10) j11) j12) j13) j14) j15) j16) j17) j18) j19) j20) j21) j22) j23) j24) j25) j26) j27) j28) j29) j30) j31)
theorem named : Tryz.pinned.checked.prog.funcNamed "pub-counterseal/laws.FnTwistOn" = some 9 := by kernel_rfl
theorem isInst : Tryz.f9.isInstance Tryz.pinned.checked.prog Rows.fnTwistOnRow.origin Rows.fnTwistOnRow.targs := of_decide_eq_true (by kernel_rfl)
theorem isWrap : Tryz.f9.isWrapper Tryz.pinned.checked.prog Rows.fnTwistOnRow.wrapper Rows.fnTwistOnRow.mainSum := by unfold Func.isWrapper; first | (rw [if_pos (by decide +kernel)]; kernel_rfl) | (rw [if_neg (by decide +kernel)]; exact ⟨rfl, rfl⟩)
theorem wfText : Rows.fnTwistOnRow.wfByText (OpenSpec.ofChange Rows.fnTwistOnSpec) = true := by kernel_rfl
theorem looks : true = Tryz.pinned.checked.prog.looks [] := by kernel_rfl
theorem goesBy : false = Rows.fnTwistOnRow.goesBy Tryz.pinned.checked.prog := by kernel_rfl
end Go.Proofs.YtohhkjamddojmaaGreatDoor.Facts9
