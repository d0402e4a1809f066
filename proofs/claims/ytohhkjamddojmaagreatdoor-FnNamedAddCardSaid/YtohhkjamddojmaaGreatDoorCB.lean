/- The law FnNamedAdd, for every argument; its row's premises. -/
import Derived.Test.YtohhkjamddojmaaGreatDoorQV
import Derived.Test.YtohhkjamddojmaaGreatDoorBY
namespace Go.Proofs.YtohhkjamddojmaaGreatDoor.Bit
open Go.ChangeShapes Go.WideShapes Go.ChangeAt Go.RowKit
open Big EcLaw
theorem tab_one5 {W : World} {n : String} {x : Int} (h : laidMetH Tryz.prog Rows.fnNamedAddRow.laid W) (e : (Rows.fnNamedAddRow.laid.filter (fun y => y.1 == n)).filter (fun x => x.2.handleName?.isNone) = [(n, .lit (.int .i64 x))]) : laidMet Tryz.prog [(n, .lit (.int .i64 x))] W := by
 have := (laidMetH_iff.1 (h.filter (fun y => y.1 == n))).1
 rw [e] at this
 exact this
theorem tab_of5 {W : World} (h : laidMetH Tryz.prog Rows.fnNamedAddRow.laid W) : Tab W :=
 ⟨cell_of_laid (n := "pub-counterseal/pub/bigall.basicSqrThreshold") (by kernel_rfl) (by kernel_rfl) (tab_one5 h (by kernel_rfl)),
  cell_of_laid (n := "pub-counterseal/pub/bigall.karatsubaSqrThreshold") (by kernel_rfl) (by kernel_rfl) (tab_one5 h (by kernel_rfl)),
  cell_of_laid (n := "pub-counterseal/pub/bigall.karatsubaThreshold") (by kernel_rfl) (by kernel_rfl) (tab_one5 h (by kernel_rfl)),
  cell_of_laid (n := "pub-counterseal/pub/bigall.divRecursiveThreshold") (by kernel_rfl) (by kernel_rfl) (tab_one5 h (by kernel_rfl))⟩
theorem eof_of5 {W : World} (h : laidMetH Tryz.prog Rows.fnNamedAddRow.laid W) : ∃ ae, W.cell? ⟨2, 0, none⟩ = some (eofV ae) := by
 have := (laidMetH_iff.1 (h.filter (fun y => y.1 == "io.EOF"))).1
 rw [show (Rows.fnNamedAddRow.laid.filter (fun y => y.1 == "io.EOF")).filter (fun x => x.2.handleName?.isNone) = [("io.EOF", Rows.laid_io_EOF)] by kernel_rfl] at this
 exact eof_of this
set_option maxRecDepth 100000 in
theorem contract5 (H : Type) (enc : TypeId × Value → H) (W : World) (base : Nat) (args : Array Value) (ds gs : List (DataW H)) (before : List MemPlace) (hL : laidMetH Tryz.prog Rows.fnNamedAddRow.laid W)
 (hval0 : ∀ (j : Nat) t v, Tryz.f5.params[j]? = some t → args[j]? = some v → Value.okWide Tryz.prog W .any base t v)
 (hW : DataW.Whole enc Tryz.prog Tryz.f5.params.toList Rows.fnNamedAddSpec.vars false W args.toList ds gs before) :
 Calls Tryz.prog 5 args W fun e W' => ∃ v, e = .returned v ∧ Rows.fnNamedAddSpec.post enc Tryz.prog Tryz.f5 false true false false W args v W' := by
 have hval : ∀ (j : Nat) t v, Tryz.f5.params[j]? = some t → args[j]? = some v → Value.okWide Tryz.prog W .any base t v := hval0
 have hW' := hW
 obtain ⟨p, q, hA0, hV, rfl, hfz, hnd⟩ := hW
 have hA : DataW.TrodAll enc Tryz.prog W 0 (fun _ => true) true Tryz.f5.params.toList args.toList ds p := hA0
 rw [Tryz.params5] at hA hval
 obtain ⟨v0, vs0, d0, ds0, p0, q0, hargs, rfl, rfl, h0, r0⟩ := trodAll_cons hA
 obtain ⟨v1, vs1, d1, ds1, p1, q1, rfl, rfl, rfl, h1, r1⟩ := trodAll_cons r0
 obtain ⟨v2, vs2, d2, ds2, p2, q2, rfl, rfl, rfl, h2, r2⟩ := trodAll_cons r1
 obtain ⟨rfl, rfl, rfl⟩ := trodAll_nil r2
 obtain rfl : args = #[v0, v1, v2] := by cases args; simp_all
 obtain ⟨rfl, rfl⟩ := trodVars_none hV
 obtain ⟨t0, u0, rfl⟩ := u8_of (hval 0 5 v0 rfl rfl) h0
 obtain ⟨t1, u1, rfl⟩ := u64_of (hval 1 22 v1 rfl rfl) h1
 obtain ⟨t2, u2, rfl⟩ := u64_of (hval 2 22 v2 rfl rfl) h2
 have lt0 : ∀ x ∈ p0, x.block < W.heap.size := by obtain ⟨m, hm⟩ := h0; exact DataW.trod_lt m _ _ _ hm
 have lt1 : ∀ x ∈ p1, x.block < W.heap.size := by obtain ⟨m, hm⟩ := h1; exact DataW.trod_lt m _ _ _ hm
 have lt2 : ∀ x ∈ p2, x.block < W.heap.size := by obtain ⟨m, hm⟩ := h2; exact DataW.trod_lt m _ _ _ hm
 obtain ⟨ae, hae⟩ := eof_of5 hL
 clear hA0 hval0
 refine (lawAddO (own_start (tab_of5 hL)) ae hae t0 t1 t2 (by omega) (by omega) (by omega) (by omega) (by omega) (by omega)).mono fun e W' ⟨he, hO⟩ => ?_
 subst he
 have bel := below_of hO
 exact ⟨_, rfl, _, _, _, [], _, [], hW', trodAll_mk1 (shut_bool Tryz.underlying4 _), (trodAll_cons_mk (Below.trod laidOut (by kernel_rfl) (of_decide_eq_true (by kernel_rfl)) h0 bel lt0) (trodAll_cons_mk (Below.trod laidOut (by kernel_rfl) (of_decide_eq_true (by kernel_rfl)) h1 bel lt1) (trodAll_cons_mk (Below.trod laidOut (by kernel_rfl) (of_decide_eq_true (by kernel_rfl)) h2 bel lt2) trodAll_mk0))), rfl, bel.frame _, fun h => by cases h⟩
theorem laid_met5 (os : Os) : laidMetH Tryz.prog Rows.fnNamedAddRow.laid ((World.doorLaid Tryz.prog 400 os).forCall (fun _ _ => 0) ⟨#[], #[.int .u8 0, .int .u64 0, .int .u64 0], []⟩).memory :=
 laidMetH_of_parts3 (fuel := 8) (laidMet_of_run' 8 (by kernel_rfl) (by kernel_rfl)) (by kernel_rfl) (by kernel_rfl)
theorem reads5 (os : Os) {H : Type} (enc : TypeId × Value → H) : ∃ places, DataW.whole enc Tryz.prog ((World.doorLaid Tryz.prog 400 os).forCall (fun _ _ => 0) ⟨#[], #[.int .u8 0, .int .u64 0, .int .u64 0], []⟩).memory Tryz.f5.params.toList Rows.fnNamedAddSpec.vars false (#[.int .u8 0, .int .u64 0, .int .u64 0] : Array Value).toList 8 = some ([.lit (.int .u8 0), .lit (.int .u64 0), .lit (.int .u64 0)], [], places) :=
 ⟨[], by kernel_rfl⟩
set_option maxRecDepth 100000 in
theorem lifted5 (os : Os) (started : os.Started) (H : Type) (enc : TypeId × Value → H) (F : Stop.Interp) :
 ReturnsInHanded {} Tryz.checked os 5 .any ((OpenSpec.ofChange Rows.fnNamedAddSpec).preRow enc Tryz.prog Tryz.f5 Rows.fnNamedAddRow.domain false Rows.fnNamedAddRow.laid) (((OpenSpec.ofChange Rows.fnNamedAddSpec).at F).post enc Tryz.prog Tryz.f5 false true false false) := by
 obtain ⟨places, hx⟩ := reads5 os enc
 refine returnsInHanded_of_row (C := Tryz.checked) (s := OpenSpec.ofChange Rows.fnNamedAddSpec) own started (by kernel_rfl) Tryz.func5
  (witness_row_atRef (enc := enc) (C := Tryz.checked) false (World.doorLaid Tryz.prog 400 os) #[.int .u8 0, .int .u64 0, .int .u64 0] rfl (by kernel_rfl) (by kernel_rfl) (by kernel_rfl)
   (OpenSpec.preRow_of_cond 8 hx (by kernel_rfl) (fun k hk => by cases hk) (by kernel_rfl) (laid_met5 os))) ?_
 intro W base args ds gs before hval hW _ _ _ hL _ _
 exact contract5 H enc W base args ds gs before hL hval hW
end Go.Proofs.YtohhkjamddojmaaGreatDoor.Bit
