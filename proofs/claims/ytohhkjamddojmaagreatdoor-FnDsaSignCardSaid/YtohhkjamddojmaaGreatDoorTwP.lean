/- To a twist of a curve and back: the law FnTwistTo, for every argument; its card. The four thresholds of big's multiplication and division are read as the row lays them; the two tables of math/bits are not read on this road. -/
import Derived.Test.YtohhkjamddojmaaGreatDoorCards
import Derived.Test.YtohhkjamddojmaaGreatDoorTie
import Derived.Test.YtohhkjamddojmaaGreatDoorTJ
import Derived.ProofKit
import Derived.OpenShut
import Derived.ChangeOld
import Derived.Deep.DeepWitnessRowRef
import Derived.LaidMore
namespace Go.Proofs.YtohhkjamddojmaaGreatDoor.Big
open Go.ChangeShapes Go.WideShapes Go.ChangeAt Go.RowKit

theorem own : ownKnob Tryz.prog.godebug = none := by kernel_rfl
theorem laidOut : laidOutB Tryz.prog = true := by kernel_rfl

/-- the memory that there was -/
def Old (W : World) (k : Nat) : Prop := k < W.heap.size
theorem own_start {W : World} (ht : Tab W) : Own (Old W) W W [] := by
  refine ⟨⟨[], [], ⟨fun k h => h, rfl, rfl, rfl, fun i z v p q h1 => by simp at h1, fun i z p h1 => by simp at h1, fun i j z h1 => by simp at h1, fun i j p q b h1 => by simp at h1, fun i j z p h1 => by simp at h1⟩⟩, Kept.refl _ _, ht, fun k hk => ?_⟩
  have := World.block_lt_of_cell? _ _ ht.kdiv
  show k < W.heap.size
  simp at this
  omega
theorem below_of {W W' : World} (h : Own (Old W) W W' []) : Below W.heap.size W W' :=
  ⟨h.kept.os, h.kept.tape, h.kept.output, h.kept.size, fun k hk => h.kept.block k hk (fun e => e hk)⟩

theorem cell_of_laid {W : World} {n : String} {g : Nat} {x : Int} (hg : Tryz.prog.globalNamed n = some g) (ht : (Tryz.prog.globals[g]?).map (·.type) = some 3) (h : laidMet Tryz.prog [(n, .lit (.int .i64 x))] W) : W.cell? ⟨g, 0, none⟩ = some (.int .i64 x) := by
  obtain ⟨ps, ⟨g1, t1, cs1, f1, p1, q1, hg1, ht1, hv1, hd1, _, _⟩, _, _⟩ := h
  obtain rfl := Option.some.inj (hg.symm.trans hg1)
  obtain rfl := Option.some.inj (ht.symm.trans ht1)
  obtain ⟨k, e1, e2, _⟩ := DataW.trod_int Tryz.underlying3 hd1
  have hk : k = x := by simpa using (congrArg Prod.fst e2).symm
  subst hk
  have := World.var?_cell hg1 hv1 0
  rw [Array.eq_one_of_toList e1] at this
  simpa using this
theorem tab_one {W : World} {n : String} {x : Int} (h : laidMetH Tryz.prog Rows.fnTwistToRow.laid W) (e : (Rows.fnTwistToRow.laid.filter (fun y => y.1 == n)).filter (fun x => x.2.handleName?.isNone) = [(n, .lit (.int .i64 x))]) : laidMet Tryz.prog [(n, .lit (.int .i64 x))] W := by
  have := (laidMetH_iff.1 (h.filter (fun y => y.1 == n))).1
  rw [e] at this
  exact this
theorem tab_of {W : World} (h : laidMetH Tryz.prog Rows.fnTwistToRow.laid W) : Tab W :=
  ⟨cell_of_laid (n := "pub-counterseal/pub/bigall.basicSqrThreshold") (by kernel_rfl) (by kernel_rfl) (tab_one h (by kernel_rfl)),
    cell_of_laid (n := "pub-counterseal/pub/bigall.karatsubaSqrThreshold") (by kernel_rfl) (by kernel_rfl) (tab_one h (by kernel_rfl)),
    cell_of_laid (n := "pub-counterseal/pub/bigall.karatsubaThreshold") (by kernel_rfl) (by kernel_rfl) (tab_one h (by kernel_rfl)),
    cell_of_laid (n := "pub-counterseal/pub/bigall.divRecursiveThreshold") (by kernel_rfl) (by kernel_rfl) (tab_one h (by kernel_rfl))⟩

set_option maxRecDepth 100000 in
theorem twist_of {H : Type} {enc : TypeId × Value → H} {W : World} {r : Reach} {base : Nat} {v : Value} {d : DataW H} {p : List MemPlace} (hv : Value.okWide Tryz.prog W r base 57 v) (h : DataW.Trod enc Tryz.prog W 0 (fun _ => true) true 57 v d p) :
    ∃ a b c : Int, v = .agg #[.int .i64 a, .int .i64 b, .int .i64 c] := by
  obtain ⟨cs, rfl, hs⟩ := okWide_struct Tryz.underlying57 hv
  have hs3 : cs.size = 3 := hs.trans (by kernel_rfl)
  obtain ⟨fuel, hf⟩ := h
  obtain ⟨xs, n, _, _, hl, hlen, hff⟩ := DataW.trod_struct Tryz.underlying57 hf
  obtain ⟨l⟩ := cs
  match l, hs3 with
  | [c0, c1, c2], _ =>
    match xs, hlen with
    | [x0, x1, x2], _ =>
      have h0 := hff 0 _ rfl
      have h1 := hff 1 _ rfl
      have h2 := hff 2 _ rfl
      have c3 : Tryz.prog.cellsOf 3 = 1 := by kernel_rfl
      change DataW.trod enc Tryz.prog W 0 (fun _ => true) true n 3 (([c0, c1, c2].drop 0).take (Tryz.prog.cellsOf 3)) = some x0 at h0
      change DataW.trod enc Tryz.prog W 0 (fun _ => true) true n 3 (([c0, c1, c2].drop 1).take (Tryz.prog.cellsOf 3)) = some x1 at h1
      change DataW.trod enc Tryz.prog W 0 (fun _ => true) true n 3 (([c0, c1, c2].drop 2).take (Tryz.prog.cellsOf 3)) = some x2 at h2
      rw [c3] at h0 h1 h2
      obtain ⟨a, ha, _⟩ := DataW.trod_int Tryz.underlying3 h0
      obtain ⟨b, hb, _⟩ := DataW.trod_int Tryz.underlying3 h1
      obtain ⟨c, hc, _⟩ := DataW.trod_int Tryz.underlying3 h2
      simp at ha hb hc
      exact ⟨a, b, c, by rw [ha, hb, hc]⟩

set_option maxRecDepth 100000 in
theorem contract (H : Type) (enc : TypeId × Value → H) (W : World) (base : Nat) (args : Array Value) (ds gs : List (DataW H)) (before : List MemPlace) (hL : laidMetH Tryz.prog Rows.fnTwistToRow.laid W)
    (hval0 : ∀ (j : Nat) t v, Tryz.f7.params[j]? = some t → args[j]? = some v → Value.okWide Tryz.prog W .any base t v)
    (hW : DataW.Whole enc Tryz.prog Tryz.f7.params.toList Rows.fnTwistToSpec.vars false W args.toList ds gs before) :
    Calls Tryz.prog 7 args W fun e W' => ∃ v, e = .returned v ∧ Rows.fnTwistToSpec.post enc Tryz.prog Tryz.f7 false true false false W args v W' := by
  have hval : ∀ (j : Nat) t v, Tryz.f7.params[j]? = some t → args[j]? = some v → Value.okWide Tryz.prog W .any base t v := hval0
  have hW' := hW
  obtain ⟨p, q, hA0, hV, rfl, hfz, hnd⟩ := hW
  have hA : DataW.TrodAll enc Tryz.prog W 0 (fun _ => true) true Tryz.f7.params.toList args.toList ds p := hA0
  rw [Tryz.params7] at hA hval
  obtain ⟨v0, vs0, d0, ds0, p0, q0, hargs, rfl, rfl, h0, r0⟩ := trodAll_cons hA
  obtain ⟨v1, vs1, d1, ds1, p1, q1, rfl, rfl, rfl, h1, r1⟩ := trodAll_cons r0
  obtain ⟨v2, vs2, d2, ds2, p2, q2, rfl, rfl, rfl, h2, r2⟩ := trodAll_cons r1
  obtain ⟨rfl, rfl, rfl⟩ := trodAll_nil r2
  obtain rfl : args = #[v0, v1, v2] := by cases args; simp_all
  obtain ⟨rfl, rfl⟩ := trodVars_none hV
  obtain ⟨a, b, c, rfl⟩ := twist_of (hval 0 57 v0 rfl rfl) h0
  obtain ⟨x, rfl⟩ := okWide_int Tryz.underlying3 (hval 1 3 v1 rfl rfl)
  obtain ⟨y, rfl⟩ := okWide_int Tryz.underlying3 (hval 2 3 v2 rfl rfl)
  have lt0 : ∀ x ∈ p0, x.block < W.heap.size := by obtain ⟨m, hm⟩ := h0; exact DataW.trod_lt m _ _ _ hm
  have lt1 : ∀ x ∈ p1, x.block < W.heap.size := by obtain ⟨m, hm⟩ := h1; exact DataW.trod_lt m _ _ _ hm
  have lt2 : ∀ x ∈ p2, x.block < W.heap.size := by obtain ⟨m, hm⟩ := h2; exact DataW.trod_lt m _ _ _ hm
  clear hA0 hval0
  refine (lawO (own_start (tab_of hL)) a b c x y).mono fun e W' ⟨he, hO⟩ => ?_
  subst he
  have bel := below_of hO
  exact ⟨_, rfl, _, _, _, [], _, [], hW', trodAll_mk1 (shut_bool Tryz.underlying4 _), (trodAll_cons_mk (Below.trod laidOut (by kernel_rfl) (of_decide_eq_true (by kernel_rfl)) h0 bel lt0) (trodAll_cons_mk (Below.trod laidOut (by kernel_rfl) (of_decide_eq_true (by kernel_rfl)) h1 bel lt1) (trodAll_cons_mk (Below.trod laidOut (by kernel_rfl) (of_decide_eq_true (by kernel_rfl)) h2 bel lt2) trodAll_mk0))), rfl, bel.frame _, fun h => by cases h⟩

theorem laid_met (os : Os) : laidMetH Tryz.prog Rows.fnTwistToRow.laid ((World.doorLaid Tryz.prog 400 os).forCall (fun _ _ => 0) ⟨#[], #[.agg #[.int .i64 0, .int .i64 0, .int .i64 0], .int .i64 0, .int .i64 0], []⟩).memory :=
  laidMetH_of_parts3 (fuel := 8) (laidMet_of_run' 8 (by kernel_rfl) (by kernel_rfl)) (by kernel_rfl) (by kernel_rfl)
theorem reads (os : Os) {H : Type} (enc : TypeId × Value → H) : ∃ places, DataW.whole enc Tryz.prog ((World.doorLaid Tryz.prog 400 os).forCall (fun _ _ => 0) ⟨#[], #[.agg #[.int .i64 0, .int .i64 0, .int .i64 0], .int .i64 0, .int .i64 0], []⟩).memory Tryz.f7.params.toList Rows.fnTwistToSpec.vars false #[Value.agg #[.int .i64 0, .int .i64 0, .int .i64 0], .int .i64 0, .int .i64 0].toList 8 = some ([.agg [.lit (.int .i64 0), .lit (.int .i64 0), .lit (.int .i64 0)], .lit (.int .i64 0), .lit (.int .i64 0)], [], places) :=
  ⟨[], by kernel_rfl⟩

set_option maxRecDepth 100000 in
theorem lifted (os : Os) (started : os.Started) (H : Type) (enc : TypeId × Value → H) (F : Stop.Interp) :
    ReturnsInHanded {} Tryz.checked os 7 .any ((OpenSpec.ofChange Rows.fnTwistToSpec).preRow enc Tryz.prog Tryz.f7 Rows.fnTwistToRow.domain false Rows.fnTwistToRow.laid) (((OpenSpec.ofChange Rows.fnTwistToSpec).at F).post enc Tryz.prog Tryz.f7 false true false false) := by
  obtain ⟨places, hx⟩ := reads os enc
  refine returnsInHanded_of_row (C := Tryz.checked) (s := OpenSpec.ofChange Rows.fnTwistToSpec) own started (by kernel_rfl) Tryz.func7
    (witness_row_atRef (enc := enc) (C := Tryz.checked) false (World.doorLaid Tryz.prog 400 os) #[.agg #[.int .i64 0, .int .i64 0, .int .i64 0], .int .i64 0, .int .i64 0] rfl (by kernel_rfl) (by kernel_rfl) (by kernel_rfl)
      (OpenSpec.preRow_of_cond 8 hx (by kernel_rfl) (fun k hk => by cases hk) (by kernel_rfl) (laid_met os))) ?_
  intro W base args ds gs before hval hW _ _ _ hL _ _
  exact contract H enc W base args ds gs before hL hval hW
end Go.Proofs.YtohhkjamddojmaaGreatDoor.Big
