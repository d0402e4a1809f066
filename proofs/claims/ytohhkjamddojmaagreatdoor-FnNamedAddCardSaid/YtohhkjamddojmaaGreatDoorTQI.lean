/- The closed facts of the row of FnNamedAdd. -/
import Derived.Test.YtohhkjamddojmaaGreatDoorCards
import Derived.Test.YtohhkjamddojmaaGreatDoorChecked
import Derived.ProofKit
import Derived.OpenShut
import Derived.JoinedCond
import Derived.KernelRfl
namespace Go.Proofs.YtohhkjamddojmaaGreatDoor.Facts5
open Go
theorem j0 : (Rows.fnNamedAddRow.wf (OpenSpec.ofChange (OpenSpec.ofChange Rows.fnNamedAddSpec).bare) : Bool) = true := by kernel_rfl
theorem j1 : (laidOutB Tryz.pinned.checked.prog : Bool) = true := by kernel_rfl
theorem j2 : (mapsRowed Tryz.pinned.checked.prog : Bool) = true := by kernel_rfl
theorem j3 : (Tryz.f5.params.all (Tryz.pinned.checked.prog.readableRec ·) : Bool) = true := by kernel_rfl
theorem j4 : (namedTie Tryz.pinned.checked.prog Rows.fnNamedAddRow.named (OpenSpec.ofChange Rows.fnNamedAddSpec).bare.vars : Bool) = true := by kernel_rfl
theorem j5 : (Rows.fnNamedAddRow.stops == [] : Bool) = true := by kernel_rfl
theorem j6 : (Tryz.pinned.checked.prog.stops == [] : Bool) = true := by kernel_rfl
theorem j7 : (Rows.fnNamedAddRow.knobs == [] : Bool) = true := by kernel_rfl
theorem j8 : (Tryz.pinned.checked.prog.stopKnobs == [] : Bool) = true := by kernel_rfl
theorem j9 : (Rows.fnNamedAddRow.inPlace == Tryz.pinned.checked.prog.inPlace 5 : Bool) = true := by kernel_rfl
theorem j10 : (Rows.fnNamedAddRow.unfollowed == Tryz.pinned.checked.prog.unfollowed 5 : Bool) = true := by kernel_rfl
theorem j11 : (Rows.fnNamedAddRow.recurses == Tryz.pinned.checked.prog.recurses 5 : Bool) = true := by kernel_rfl
theorem j12 : (Rows.fnNamedAddRow.named == Tryz.pinned.checked.prog.varsNamed 5 : Bool) = true := by kernel_rfl
theorem j13 : (Rows.fnNamedAddRow.maps == (Tryz.f5.params.toList ++ (OpenSpec.ofChange Rows.fnNamedAddSpec).bare.plain.varTypes Tryz.pinned.checked.prog).any (Tryz.pinned.checked.prog.mapsRec ·) : Bool) = true := by kernel_rfl
theorem j14 : (Rows.fnNamedAddRow.ifaces == (Tryz.f5.params.toList ++ (OpenSpec.ofChange Rows.fnNamedAddSpec).bare.plain.varTypes Tryz.pinned.checked.prog).any (Tryz.pinned.checked.prog.ifacesRec ·) : Bool) = true := by kernel_rfl
theorem j15 : (Rows.fnNamedAddRow.mapsOut == Tryz.pinned.checked.prog.mapsAmong Tryz.f5.resultTypes.toList : Bool) = true := by kernel_rfl
theorem j16 : (Rows.fnNamedAddRow.loops == (Tryz.f5.params.toList ++ (OpenSpec.ofChange Rows.fnNamedAddSpec).bare.plain.varTypes Tryz.pinned.checked.prog).any (Tryz.pinned.checked.prog.loopsFrom ·) : Bool) = true := by kernel_rfl
theorem j17 : (Rows.fnNamedAddRow.wideKeys == (Tryz.f5.params.toList ++ (OpenSpec.ofChange Rows.fnNamedAddSpec).bare.plain.varTypes Tryz.pinned.checked.prog ++ Tryz.f5.resultTypes.toList).any (Tryz.pinned.checked.prog.wideKeysFrom ·) : Bool) = true := by kernel_rfl
theorem j18 : ((OpenSpec.ofChange Rows.fnNamedAddSpec).bare.vars.all (Tryz.pinned.checked.prog.varReadable ·) : Bool) = true := by kernel_rfl
theorem j19 : (Tryz.f5.resultTypes.all (fun t => Tryz.pinned.checked.prog.readableRec t && decide (t < Tryz.pinned.checked.prog.types.size)) : Bool) = true := by kernel_rfl
theorem j20 : (Rows.fnNamedAddRow.ifacesOut == Tryz.f5.resultTypes.toList.any (Tryz.pinned.checked.prog.ifacesRec ·) : Bool) = true := by kernel_rfl
theorem j21 : (Rows.fnNamedAddRow.loopsOut == Tryz.f5.resultTypes.toList.any (Tryz.pinned.checked.prog.loopsFrom ·) : Bool) = true := by kernel_rfl
theorem j22 : (Rows.fnNamedAddRow.plainKeys == Tryz.pinned.checked.prog.plainKeys : Bool) = true := by kernel_rfl
theorem j23 : (Rows.fnNamedAddRow.shortTexts.isNone : Bool) = true := by kernel_rfl
theorem j24 : (Tryz.pinned.checked.prog.stopsHeard : Bool) = true := by kernel_rfl
theorem j25 : (Tryz.pinned.checked.prog.mayEnter : Bool) = true := by kernel_rfl
theorem j26 : (Rows.fnNamedAddRow.lifted == Tryz.pinned.checked.prog.liftsFinal : Bool) = true := by kernel_rfl
theorem j27 : (Tryz.pinned.checked.prog.make == some Rows.fnNamedAddRow.make : Bool) = true := by kernel_rfl
theorem j28 : (Rows.fnNamedAddRow.kinds == (if Rows.fnNamedAddRow.domain.isEmpty then [] else Tryz.f5.params.toList.map fun t => match Tryz.pinned.checked.prog.underlying t with | some (.int k) => some k | _ => none) : Bool) = true := by kernel_rfl
theorem j29 : (Rows.fnNamedAddRow.pinned == Rows.fnNamedAddRow.pinnedBy : Bool) = true := by kernel_rfl
theorem j30 : (Rows.fnNamedAddRow.veiled == (Tryz.f5.params.toList ++ (OpenSpec.ofChange Rows.fnNamedAddSpec).bare.plain.varTypes Tryz.pinned.checked.prog ++ Tryz.f5.resultTypes.toList).any (Tryz.pinned.checked.prog.veiledRec ·) : Bool) = true := by kernel_rfl
theorem j31 : (Rows.fnNamedAddRow.veiledFits Tryz.pinned.checked.prog Tryz.f5.params.toList (Tryz.f5.params.toList ++ (OpenSpec.ofChange Rows.fnNamedAddSpec).bare.plain.varTypes Tryz.pinned.checked.prog ++ Tryz.f5.resultTypes.toList) : Bool) = true := by kernel_rfl
theorem and2 {a b : Bool} (h : a = true) (k : b = true) : (a && b) = true := by rw [h, k]; rfl
set_option maxRecDepth 100000 in
theorem joined : joinedFacts Tryz.pinned.checked.prog 5 Tryz.f5 (OpenSpec.ofChange Rows.fnNamedAddSpec).bare Rows.fnNamedAddRow = true := by
 unfold joinedFacts
 exact (and2 (and2 (and2 (and2 (and2 (and2 (and2 (and2 (and2 (and2 (and2 (and2 (and2 (and2 (and2 (and2 (and2 (and2 (and2 (and2 (and2 (and2 (and2 (and2 (and2 (and2 (and2 (and2 (and2 (and2 (and2 j0 j1) j2) j3) j4) j5) j6) j7) j8) j9) j10) j11) j12) j13) j14) j15) j16) j17) j18) j19) j20) j21) j22) j23) j24) j25) j26) j27) j28) j29) j30) j31)
theorem named : Tryz.pinned.checked.prog.funcNamed "pub-counterseal/laws.FnNamedAdd" = some 5 := by kernel_rfl
theorem isInst : Tryz.f5.isInstance Tryz.pinned.checked.prog Rows.fnNamedAddRow.origin Rows.fnNamedAddRow.targs := of_decide_eq_true (by kernel_rfl)
theorem isWrap : Tryz.f5.isWrapper Tryz.pinned.checked.prog Rows.fnNamedAddRow.wrapper Rows.fnNamedAddRow.mainSum := by unfold Func.isWrapper; first | (rw [if_pos (by decide +kernel)]; kernel_rfl) | (rw [if_neg (by decide +kernel)]; exact ⟨rfl, rfl⟩)
theorem wfText : Rows.fnNamedAddRow.wfByText (OpenSpec.ofChange Rows.fnNamedAddSpec) = true := by kernel_rfl
theorem looks : true = Tryz.pinned.checked.prog.looks [] := by kernel_rfl
theorem goesBy : false = Rows.fnNamedAddRow.goesBy Tryz.pinned.checked.prog := by kernel_rfl
end Go.Proofs.YtohhkjamddojmaaGreatDoor.Facts5
