/- The law FnTwistMult, for every argument; its row's premises. -/
import Derived.Test.YtohhkjamddojmaaGreatDoorTwP
import Derived.Test.YtohhkjamddojmaaGreatDoorKG
namespace Go.Proofs.YtohhkjamddojmaaGreatDoor.Big
open Go.ChangeShapes Go.WideShapes Go.ChangeAt Go.RowKit

theorem tab_one12 {W : World} {n : String} {x : Int} (h : laidMetH Tryz.prog Rows.fnTwistMultRow.laid W) (e : (Rows.fnTwistMultRow.laid.filter (fun y => y.1 == n)).filter (fun x => x.2.handleName?.isNone) = [(n, .lit (.int .i64 x))]) : laidMet Tryz.prog [(n, .lit (.int .i64 x))] W := by
  have := (laidMetH_iff.1 (h.filter (fun y => y.1 == n))).1
  rw [e] at this
  exact this
theorem tab_of12 {W : World} (h : laidMetH Tryz.prog Rows.fnTwistMultRow.laid W) : Tab W :=
  ⟨cell_of_laid (n := "pub-counterseal/pub/bigall.basicSqrThreshold") (by kernel_rfl) (by kernel_rfl) (tab_one12 h (by kernel_rfl)),
    cell_of_laid (n := "pub-counterseal/pub/bigall.karatsubaSqrThreshold") (by kernel_rfl) (by kernel_rfl) (tab_one12 h (by kernel_rfl)),
    cell_of_laid (n := "pub-counterseal/pub/bigall.karatsubaThreshold") (by kernel_rfl) (by kernel_rfl) (tab_one12 h (by kernel_rfl)),
    cell_of_laid (n := "pub-counterseal/pub/bigall.divRecursiveThreshold") (by kernel_rfl) (by kernel_rfl) (tab_one12 h (by kernel_rfl))⟩

set_option maxRecDepth 100000 in
theorem u8_of {H : Type} {enc : TypeId × Value → H} {W : World} {r : Reach} {base : Nat} {v : Value} {d : DataW H} {p : List MemPlace} (hv : Value.okWide Tryz.prog W r base 5 v) (h : DataW.Trod enc Tryz.prog W 0 (fun _ => true) true 5 v d p) :
    ∃ n : Nat, n < 256 ∧ v = .int .u8 n := by
  obtain ⟨a, rfl⟩ := okWide_int Tryz.underlying5 hv
  obtain ⟨fuel, hf⟩ := h
  obtain ⟨n, e, _, hw⟩ := DataW.trod_int Tryz.underlying5 hf
  clear hf hv
  have e2 : [Value.int IntKind.u8 a] = [Value.int IntKind.u8 n] := e
  injection e2 with e3 _
  injection e3 with _ e4
  subst e4
  have hw2 : (decide (IntKind.u8.min ≤ a) && decide (a ≤ IntKind.u8.max)) = true := hw
  rw [Bool.and_eq_true, decide_eq_true_eq, decide_eq_true_eq] at hw2
  have h1 : IntKind.u8.min = 0 := by decide
  have h2 : IntKind.u8.max = 255 := by decide
  rw [h1, h2] at hw2
  exact ⟨a.toNat, by omega, by rw [Int.toNat_of_nonneg hw2.1]⟩

set_option maxRecDepth 100000 in
theorem contract12 (H : Type) (enc : TypeId × Value → H) (W : World) (base : Nat) (args : Array Value) (ds gs : List (DataW H)) (before : List MemPlace) (hL : laidMetH Tryz.prog Rows.fnTwistMultRow.laid W)
    (hval0 : ∀ (j : Nat) t v, Tryz.f12.params[j]? = some t → args[j]? = some v → Value.okWide Tryz.prog W .any base t v)
    (hW : DataW.Whole enc Tryz.prog Tryz.f12.params.toList Rows.fnTwistMultSpec.vars false W args.toList ds gs before) :
    Calls Tryz.prog 12 args W fun e W' => ∃ v, e = .returned v ∧ Rows.fnTwistMultSpec.post enc Tryz.prog Tryz.f12 false true false false W args v W' := by
  have hval : ∀ (j : Nat) t v, Tryz.f12.params[j]? = some t → args[j]? = some v → Value.okWide Tryz.prog W .any base t v := hval0
  have hW' := hW
  obtain ⟨p, q, hA0, hV, rfl, hfz, hnd⟩ := hW
  have hA : DataW.TrodAll enc Tryz.prog W 0 (fun _ => true) true Tryz.f12.params.toList args.toList ds p := hA0
  rw [Tryz.params12] at hA hval
  obtain ⟨v0, vs0, d0, ds0, p0, q0, hargs, rfl, rfl, h0, r0⟩ := trodAll_cons hA
  obtain ⟨v1, vs1, d1, ds1, p1, q1, rfl, rfl, rfl, h1, r1⟩ := trodAll_cons r0
  obtain ⟨v2, vs2, d2, ds2, p2, q2, rfl, rfl, rfl, h2, r2⟩ := trodAll_cons r1
  obtain ⟨v3, vs3, d3, ds3, p3, q3, rfl, rfl, rfl, h3, r3⟩ := trodAll_cons r2
  obtain ⟨v4, vs4, d4, ds4, p4, q4, rfl, rfl, rfl, h4, r4⟩ := trodAll_cons r3
  obtain ⟨rfl, rfl, rfl⟩ := trodAll_nil r4
  obtain rfl : args = #[v0, v1, v2, v3, v4] := by cases args; simp_all
  obtain ⟨rfl, rfl⟩ := trodVars_none hV
  obtain ⟨t0a, t0b, t0c, rfl⟩ := twist_of (hval 0 57 v0 rfl rfl) h0
  obtain ⟨t1, rfl⟩ := okWide_int Tryz.underlying3 (hval 1 3 v1 rfl rfl)
  obtain ⟨t2, rfl⟩ := okWide_int Tryz.underlying3 (hval 2 3 v2 rfl rfl)
  obtain ⟨t3, rfl⟩ := okWide_int Tryz.underlying3 (hval 3 3 v3 rfl rfl)
  obtain ⟨t4, u4, rfl⟩ := u8_of (hval 4 5 v4 rfl rfl) h4
  have lt0 : ∀ x ∈ p0, x.block < W.heap.size := by obtain ⟨m, hm⟩ := h0; exact DataW.trod_lt m _ _ _ hm
  have lt1 : ∀ x ∈ p1, x.block < W.heap.size := by obtain ⟨m, hm⟩ := h1; exact DataW.trod_lt m _ _ _ hm
  have lt2 : ∀ x ∈ p2, x.block < W.heap.size := by obtain ⟨m, hm⟩ := h2; exact DataW.trod_lt m _ _ _ hm
  have lt3 : ∀ x ∈ p3, x.block < W.heap.size := by obtain ⟨m, hm⟩ := h3; exact DataW.trod_lt m _ _ _ hm
  have lt4 : ∀ x ∈ p4, x.block < W.heap.size := by obtain ⟨m, hm⟩ := h4; exact DataW.trod_lt m _ _ _ hm
  clear hA0 hval0
  refine (lawMulO (own_start (tab_of12 hL)) t0a t0b t0c t1 t2 t3 t4 u4).mono fun e W' ⟨he, hO⟩ => ?_
  subst he
  have bel := below_of hO
  exact ⟨_, rfl, _, _, _, [], _, [], hW', trodAll_mk1 (shut_bool Tryz.underlying4 _), (trodAll_cons_mk (Below.trod laidOut (by kernel_rfl) (of_decide_eq_true (by kernel_rfl)) h0 bel lt0) (trodAll_cons_mk (Below.trod laidOut (by kernel_rfl) (of_decide_eq_true (by kernel_rfl)) h1 bel lt1) (trodAll_cons_mk (Below.trod laidOut (by kernel_rfl) (of_decide_eq_true (by kernel_rfl)) h2 bel lt2) (trodAll_cons_mk (Below.trod laidOut (by kernel_rfl) (of_decide_eq_true (by kernel_rfl)) h3 bel lt3) (trodAll_cons_mk (Below.trod laidOut (by kernel_rfl) (of_decide_eq_true (by kernel_rfl)) h4 bel lt4) trodAll_mk0))))), rfl, bel.frame _, fun h => by cases h⟩

theorem laid_met12 (os : Os) : laidMetH Tryz.prog Rows.fnTwistMultRow.laid ((World.doorLaid Tryz.prog 400 os).forCall (fun _ _ => 0) ⟨#[], #[.agg #[.int .i64 0, .int .i64 0, .int .i64 0], .int .i64 0, .int .i64 0, .int .i64 0, .int .u8 0], []⟩).memory :=
  laidMetH_of_parts3 (fuel := 8) (laidMet_of_run' 8 (by kernel_rfl) (by kernel_rfl)) (by kernel_rfl) (by kernel_rfl)
theorem reads12 (os : Os) {H : Type} (enc : TypeId × Value → H) : ∃ places, DataW.whole enc Tryz.prog ((World.doorLaid Tryz.prog 400 os).forCall (fun _ _ => 0) ⟨#[], #[.agg #[.int .i64 0, .int .i64 0, .int .i64 0], .int .i64 0, .int .i64 0, .int .i64 0, .int .u8 0], []⟩).memory Tryz.f12.params.toList Rows.fnTwistMultSpec.vars false #[Value.agg #[.int .i64 0, .int .i64 0, .int .i64 0], .int .i64 0, .int .i64 0, .int .i64 0, .int .u8 0].toList 8 = some ([.agg [.lit (.int .i64 0), .lit (.int .i64 0), .lit (.int .i64 0)], .lit (.int .i64 0), .lit (.int .i64 0), .lit (.int .i64 0), .lit (.int .u8 0)], [], places) :=
  ⟨[], by kernel_rfl⟩

set_option maxRecDepth 100000 in
theorem lifted12 (os : Os) (started : os.Started) (H : Type) (enc : TypeId × Value → H) (F : Stop.Interp) :
    ReturnsInHanded {} Tryz.checked os 12 .any ((OpenSpec.ofChange Rows.fnTwistMultSpec).preRow enc Tryz.prog Tryz.f12 Rows.fnTwistMultRow.domain false Rows.fnTwistMultRow.laid) (((OpenSpec.ofChange Rows.fnTwistMultSpec).at F).post enc Tryz.prog Tryz.f12 false true false false) := by
  obtain ⟨places, hx⟩ := reads12 os enc
  refine returnsInHanded_of_row (C := Tryz.checked) (s := OpenSpec.ofChange Rows.fnTwistMultSpec) own started (by kernel_rfl) Tryz.func12
    (witness_row_atRef (enc := enc) (C := Tryz.checked) false (World.doorLaid Tryz.prog 400 os) #[.agg #[.int .i64 0, .int .i64 0, .int .i64 0], .int .i64 0, .int .i64 0, .int .i64 0, .int .u8 0] rfl (by kernel_rfl) (by kernel_rfl) (by kernel_rfl)
      (OpenSpec.preRow_of_cond 8 hx (by kernel_rfl) (fun k hk => by cases hk) (by kernel_rfl) (laid_met12 os))) ?_
  intro W base args ds gs before hval hW _ _ _ hL _ _
  exact contract12 H enc W base args ds gs before hL hval hW
end Go.Proofs.YtohhkjamddojmaaGreatDoor.Big
