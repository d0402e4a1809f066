/- The law FnTwistAdd, for every argument; its row's premises. -/
import Derived.Test.YtohhkjamddojmaaGreatDoorTwP
import Derived.Test.YtohhkjamddojmaaGreatDoorJY
namespace Go.Proofs.YtohhkjamddojmaaGreatDoor.Big
open Go.ChangeShapes Go.WideShapes Go.ChangeAt Go.RowKit

theorem tab_one13 {W : World} {n : String} {x : Int} (h : laidMetH Tryz.prog Rows.fnTwistAddRow.laid W) (e : (Rows.fnTwistAddRow.laid.filter (fun y => y.1 == n)).filter (fun x => x.2.handleName?.isNone) = [(n, .lit (.int .i64 x))]) : laidMet Tryz.prog [(n, .lit (.int .i64 x))] W := by
  have := (laidMetH_iff.1 (h.filter (fun y => y.1 == n))).1
  rw [e] at this
  exact this
theorem tab_of13 {W : World} (h : laidMetH Tryz.prog Rows.fnTwistAddRow.laid W) : Tab W :=
  ⟨cell_of_laid (n := "pub-counterseal/pub/bigall.basicSqrThreshold") (by kernel_rfl) (by kernel_rfl) (tab_one13 h (by kernel_rfl)),
    cell_of_laid (n := "pub-counterseal/pub/bigall.karatsubaSqrThreshold") (by kernel_rfl) (by kernel_rfl) (tab_one13 h (by kernel_rfl)),
    cell_of_laid (n := "pub-counterseal/pub/bigall.karatsubaThreshold") (by kernel_rfl) (by kernel_rfl) (tab_one13 h (by kernel_rfl)),
    cell_of_laid (n := "pub-counterseal/pub/bigall.divRecursiveThreshold") (by kernel_rfl) (by kernel_rfl) (tab_one13 h (by kernel_rfl))⟩

set_option maxRecDepth 100000 in
theorem pair_of {H : Type} {enc : TypeId × Value → H} {W : World} {r : Reach} {base : Nat} {v : Value} {d : DataW H} {p : List MemPlace} (hv : Value.okWide Tryz.prog W r base 102 v) (h : DataW.Trod enc Tryz.prog W 0 (fun _ => true) true 102 v d p) :
    ∃ a0 a1 a2 a3 : Int, v = .agg #[.int .i64 a0, .int .i64 a1, .int .i64 a2, .int .i64 a3] := by
  obtain ⟨cs, rfl, hs⟩ := okWide_struct Tryz.underlying102 hv
  have hs3 : cs.size = 4 := hs.trans (by kernel_rfl)
  obtain ⟨fuel, hf⟩ := h
  obtain ⟨xs, n, _, _, hl, hlen, hff⟩ := DataW.trod_struct Tryz.underlying102 hf
  obtain ⟨l⟩ := cs
  match l, hs3 with
  | [c0, c1, c2, c3], _ =>
    match xs, hlen with
    | [x0, x1, x2, x3], _ =>
      have h0 := hff 0 _ rfl
      have h1 := hff 1 _ rfl
      have h2 := hff 2 _ rfl
      have h3 := hff 3 _ rfl
      have cc3 : Tryz.prog.cellsOf 3 = 1 := by kernel_rfl
      change DataW.trod enc Tryz.prog W 0 (fun _ => true) true n 3 (([c0, c1, c2, c3].drop 0).take (Tryz.prog.cellsOf 3)) = some x0 at h0
      change DataW.trod enc Tryz.prog W 0 (fun _ => true) true n 3 (([c0, c1, c2, c3].drop 1).take (Tryz.prog.cellsOf 3)) = some x1 at h1
      change DataW.trod enc Tryz.prog W 0 (fun _ => true) true n 3 (([c0, c1, c2, c3].drop 2).take (Tryz.prog.cellsOf 3)) = some x2 at h2
      change DataW.trod enc Tryz.prog W 0 (fun _ => true) true n 3 (([c0, c1, c2, c3].drop 3).take (Tryz.prog.cellsOf 3)) = some x3 at h3
      rw [cc3] at h0 h1 h2 h3
      obtain ⟨a0, e0, _⟩ := DataW.trod_int Tryz.underlying3 h0
      obtain ⟨a1, e1, _⟩ := DataW.trod_int Tryz.underlying3 h1
      obtain ⟨a2, e2, _⟩ := DataW.trod_int Tryz.underlying3 h2
      obtain ⟨a3, e3, _⟩ := DataW.trod_int Tryz.underlying3 h3
      simp at e0 e1 e2 e3
      exact ⟨a0, a1, a2, a3, by rw [e0, e1, e2, e3]⟩

set_option maxRecDepth 100000 in
theorem contract13 (H : Type) (enc : TypeId × Value → H) (W : World) (base : Nat) (args : Array Value) (ds gs : List (DataW H)) (before : List MemPlace) (hL : laidMetH Tryz.prog Rows.fnTwistAddRow.laid W)
    (hval0 : ∀ (j : Nat) t v, Tryz.f13.params[j]? = some t → args[j]? = some v → Value.okWide Tryz.prog W .any base t v)
    (hW : DataW.Whole enc Tryz.prog Tryz.f13.params.toList Rows.fnTwistAddSpec.vars false W args.toList ds gs before) :
    Calls Tryz.prog 13 args W fun e W' => ∃ v, e = .returned v ∧ Rows.fnTwistAddSpec.post enc Tryz.prog Tryz.f13 false true false false W args v W' := by
  have hval : ∀ (j : Nat) t v, Tryz.f13.params[j]? = some t → args[j]? = some v → Value.okWide Tryz.prog W .any base t v := hval0
  have hW' := hW
  obtain ⟨p, q, hA0, hV, rfl, hfz, hnd⟩ := hW
  have hA : DataW.TrodAll enc Tryz.prog W 0 (fun _ => true) true Tryz.f13.params.toList args.toList ds p := hA0
  rw [Tryz.params13] at hA hval
  obtain ⟨v0, vs0, d0, ds0, p0, q0, hargs, rfl, rfl, h0, r0⟩ := trodAll_cons hA
  obtain ⟨v1, vs1, d1, ds1, p1, q1, rfl, rfl, rfl, h1, r1⟩ := trodAll_cons r0
  obtain ⟨rfl, rfl, rfl⟩ := trodAll_nil r1
  obtain rfl : args = #[v0, v1] := by cases args; simp_all
  obtain ⟨rfl, rfl⟩ := trodVars_none hV
  obtain ⟨t0a, t0b, t0c, rfl⟩ := twist_of (hval 0 57 v0 rfl rfl) h0
  obtain ⟨t1a, t1b, t1c, t1d, rfl⟩ := pair_of (hval 1 102 v1 rfl rfl) h1
  have lt0 : ∀ x ∈ p0, x.block < W.heap.size := by obtain ⟨m, hm⟩ := h0; exact DataW.trod_lt m _ _ _ hm
  have lt1 : ∀ x ∈ p1, x.block < W.heap.size := by obtain ⟨m, hm⟩ := h1; exact DataW.trod_lt m _ _ _ hm
  clear hA0 hval0
  refine (lawAddO (own_start (tab_of13 hL)) t0a t0b t0c t1a t1b t1c t1d).mono fun e W' ⟨he, hO⟩ => ?_
  subst he
  have bel := below_of hO
  exact ⟨_, rfl, _, _, _, [], _, [], hW', trodAll_mk1 (shut_bool Tryz.underlying4 _), (trodAll_cons_mk (Below.trod laidOut (by kernel_rfl) (of_decide_eq_true (by kernel_rfl)) h0 bel lt0) (trodAll_cons_mk (Below.trod laidOut (by kernel_rfl) (of_decide_eq_true (by kernel_rfl)) h1 bel lt1) trodAll_mk0)), rfl, bel.frame _, fun h => by cases h⟩

theorem laid_met13 (os : Os) : laidMetH Tryz.prog Rows.fnTwistAddRow.laid ((World.doorLaid Tryz.prog 400 os).forCall (fun _ _ => 0) ⟨#[], #[.agg #[.int .i64 0, .int .i64 0, .int .i64 0], .agg #[.int .i64 0, .int .i64 0, .int .i64 0, .int .i64 0]], []⟩).memory :=
  laidMetH_of_parts3 (fuel := 8) (laidMet_of_run' 8 (by kernel_rfl) (by kernel_rfl)) (by kernel_rfl) (by kernel_rfl)
theorem reads13 (os : Os) {H : Type} (enc : TypeId × Value → H) : ∃ places, DataW.whole enc Tryz.prog ((World.doorLaid Tryz.prog 400 os).forCall (fun _ _ => 0) ⟨#[], #[.agg #[.int .i64 0, .int .i64 0, .int .i64 0], .agg #[.int .i64 0, .int .i64 0, .int .i64 0, .int .i64 0]], []⟩).memory Tryz.f13.params.toList Rows.fnTwistAddSpec.vars false #[Value.agg #[.int .i64 0, .int .i64 0, .int .i64 0], .agg #[.int .i64 0, .int .i64 0, .int .i64 0, .int .i64 0]].toList 8 = some ([.agg [.lit (.int .i64 0), .lit (.int .i64 0), .lit (.int .i64 0)], .agg [.lit (.int .i64 0), .lit (.int .i64 0), .lit (.int .i64 0), .lit (.int .i64 0)]], [], places) :=
  ⟨[], by kernel_rfl⟩

set_option maxRecDepth 100000 in
theorem lifted13 (os : Os) (started : os.Started) (H : Type) (enc : TypeId × Value → H) (F : Stop.Interp) :
    ReturnsInHanded {} Tryz.checked os 13 .any ((OpenSpec.ofChange Rows.fnTwistAddSpec).preRow enc Tryz.prog Tryz.f13 Rows.fnTwistAddRow.domain false Rows.fnTwistAddRow.laid) (((OpenSpec.ofChange Rows.fnTwistAddSpec).at F).post enc Tryz.prog Tryz.f13 false true false false) := by
  obtain ⟨places, hx⟩ := reads13 os enc
  refine returnsInHanded_of_row (C := Tryz.checked) (s := OpenSpec.ofChange Rows.fnTwistAddSpec) own started (by kernel_rfl) Tryz.func13
    (witness_row_atRef (enc := enc) (C := Tryz.checked) false (World.doorLaid Tryz.prog 400 os) #[.agg #[.int .i64 0, .int .i64 0, .int .i64 0], .agg #[.int .i64 0, .int .i64 0, .int .i64 0, .int .i64 0]] rfl (by kernel_rfl) (by kernel_rfl) (by kernel_rfl)
      (OpenSpec.preRow_of_cond 8 hx (by kernel_rfl) (fun k hk => by cases hk) (by kernel_rfl) (laid_met13 os))) ?_
  intro W base args ds gs before hval hW _ _ _ hL _ _
  exact contract13 H enc W base args ds gs before hL hval hW
end Go.Proofs.YtohhkjamddojmaaGreatDoor.Big
