/- The law FnDsaSign, for every argument; its row's premises. -/
import Derived.Test.YtohhkjamddojmaaGreatDoorTwP
import Derived.Test.YtohhkjamddojmaaGreatDoorGP
import Derived.OpenShut
namespace Go.Proofs.YtohhkjamddojmaaGreatDoor.Big
open Go.ChangeShapes Go.WideShapes Go.ChangeAt Go.RowKit

theorem tab_one10 {W : World} {n : String} {x : Int} (h : laidMetH Tryz.prog Rows.fnDsaSignRow.laid W) (e : (Rows.fnDsaSignRow.laid.filter (fun y => y.1 == n)).filter (fun x => x.2.handleName?.isNone) = [(n, .lit (.int .i64 x))]) : laidMet Tryz.prog [(n, .lit (.int .i64 x))] W := by
  have := (laidMetH_iff.1 (h.filter (fun y => y.1 == n))).1
  rw [e] at this
  exact this
theorem tab_of10 {W : World} (h : laidMetH Tryz.prog Rows.fnDsaSignRow.laid W) : Tab W :=
  ⟨cell_of_laid (n := "pub-counterseal/pub/bigall.basicSqrThreshold") (by kernel_rfl) (by kernel_rfl) (tab_one10 h (by kernel_rfl)),
    cell_of_laid (n := "pub-counterseal/pub/bigall.karatsubaSqrThreshold") (by kernel_rfl) (by kernel_rfl) (tab_one10 h (by kernel_rfl)),
    cell_of_laid (n := "pub-counterseal/pub/bigall.karatsubaThreshold") (by kernel_rfl) (by kernel_rfl) (tab_one10 h (by kernel_rfl)),
    cell_of_laid (n := "pub-counterseal/pub/bigall.divRecursiveThreshold") (by kernel_rfl) (by kernel_rfl) (tab_one10 h (by kernel_rfl))⟩

set_option maxRecDepth 100000 in
theorem u8_trod {H : Type} {enc : TypeId × Value → H} {W : World} {v : Value} {m : Nat} {d : DataW H × List MemPlace} (h : DataW.trod enc Tryz.prog W 0 (fun _ => true) true m 5 [v] = some d) :
    ∃ n : Nat, n < 256 ∧ v = .int .u8 n := by
  obtain ⟨n, e, _, hw⟩ := DataW.trod_int Tryz.underlying5 h
  clear h
  injection e with e3 _
  subst e3
  have hw2 : (decide (IntKind.u8.min ≤ n) && decide (n ≤ IntKind.u8.max)) = true := hw
  rw [Bool.and_eq_true, decide_eq_true_eq, decide_eq_true_eq] at hw2
  have h1 : IntKind.u8.min = 0 := by decide
  have h2 : IntKind.u8.max = 255 := by decide
  rw [h1, h2] at hw2
  exact ⟨n.toNat, by omega, by rw [Int.toNat_of_nonneg hw2.1]⟩

set_option maxRecDepth 100000 in
theorem u32_trod {H : Type} {enc : TypeId × Value → H} {W : World} {v : Value} {m : Nat} {d : DataW H × List MemPlace} (h : DataW.trod enc Tryz.prog W 0 (fun _ => true) true m 63 [v] = some d) :
    ∃ n : Nat, n < 4294967296 ∧ v = .int .u32 n := by
  obtain ⟨n, e, _, hw⟩ := DataW.trod_int Tryz.underlying63 h
  clear h
  injection e with e3 _
  subst e3
  have hw2 : (decide (IntKind.u32.min ≤ n) && decide (n ≤ IntKind.u32.max)) = true := hw
  rw [Bool.and_eq_true, decide_eq_true_eq, decide_eq_true_eq] at hw2
  have h1 : IntKind.u32.min = 0 := by decide
  have h2 : IntKind.u32.max = 4294967295 := by decide
  rw [h1, h2] at hw2
  exact ⟨n.toNat, by omega, by rw [Int.toNat_of_nonneg hw2.1]⟩

set_option maxRecDepth 100000 in
theorem u32_of {H : Type} {enc : TypeId × Value → H} {W : World} {r : Reach} {base : Nat} {v : Value} {d : DataW H} {p : List MemPlace} (hv : Value.okWide Tryz.prog W r base 63 v) (h : DataW.Trod enc Tryz.prog W 0 (fun _ => true) true 63 v d p) :
    ∃ n : Nat, n < 4294967296 ∧ v = .int .u32 n := by
  obtain ⟨a, rfl⟩ := okWide_int Tryz.underlying63 hv
  obtain ⟨fuel, hf⟩ := h
  exact u32_trod hf
theorem okWide_array {P : Program} {w : World} {r : Reach} {base : Nat} {t : TypeId} {v : Value} {n : Nat} {e : TypeId} (ht : P.underlying t = some (.array n e)) (h : Value.okWide P w r base t v) : ∃ cs, v = .agg cs ∧ cs.size = P.cellsOf t := by
  simp only [Value.okWide, ht] at h
  obtain ⟨cs, h1, h2, _⟩ := h
  exact ⟨cs, h1, h2⟩
set_option maxRecDepth 100000 in
theorem maker_of {H : Type} {enc : TypeId × Value → H} {W : World} {r : Reach} {base : Nat} {v : Value} {d : DataW H} {p : List MemPlace} (hv : Value.okWide Tryz.prog W r base 65 v) (h : DataW.Trod enc Tryz.prog W 0 (fun _ => true) true 65 v d p) :
    ∃ (a0 a1 a2 : Int) (a3 : Nat), v = .agg #[.int .i64 a0, .int .i64 a1, .int .i64 a2, .int .u32 a3] := by
  obtain ⟨cs, rfl, hs⟩ := okWide_struct Tryz.underlying65 hv
  have hs3 : cs.size = 4 := hs.trans (by kernel_rfl)
  obtain ⟨fuel, hf⟩ := h
  obtain ⟨xs, n, _, _, hl, hlen, hff⟩ := DataW.trod_struct Tryz.underlying65 hf
  obtain ⟨l⟩ := cs
  match l, hs3 with
  | [c0, c1, c2, c3], _ =>
    match xs, hlen with
    | [x0, x1, x2, x3], _ =>
      have h0 := hff 0 _ rfl
      have h1 := hff 1 _ rfl
      have h2 := hff 2 _ rfl
      have h3 := hff 3 _ rfl
      have cc3 : Tryz.prog.cellsOf 3 = 1 := by kernel_rfl
      have cc63 : Tryz.prog.cellsOf 63 = 1 := by kernel_rfl
      change DataW.trod enc Tryz.prog W 0 (fun _ => true) true n 3 (([c0, c1, c2, c3].drop 0).take (Tryz.prog.cellsOf 3)) = some x0 at h0
      change DataW.trod enc Tryz.prog W 0 (fun _ => true) true n 3 (([c0, c1, c2, c3].drop 1).take (Tryz.prog.cellsOf 3)) = some x1 at h1
      change DataW.trod enc Tryz.prog W 0 (fun _ => true) true n 3 (([c0, c1, c2, c3].drop 2).take (Tryz.prog.cellsOf 3)) = some x2 at h2
      change DataW.trod enc Tryz.prog W 0 (fun _ => true) true n 63 (([c0, c1, c2, c3].drop 3).take (Tryz.prog.cellsOf 63)) = some x3 at h3
      rw [cc3] at h0 h1 h2
      rw [cc63] at h3
      obtain ⟨a0, e0, _⟩ := DataW.trod_int Tryz.underlying3 h0
      obtain ⟨a1, e1, _⟩ := DataW.trod_int Tryz.underlying3 h1
      obtain ⟨a2, e2, _⟩ := DataW.trod_int Tryz.underlying3 h2
      change DataW.trod enc Tryz.prog W 0 (fun _ => true) true n 63 [c3] = some x3 at h3
      obtain ⟨a3, _, e3⟩ := u32_trod h3
      simp at e0 e1 e2
      exact ⟨a0, a1, a2, a3, by rw [e0, e1, e2, e3]⟩
theorem u8_wf {n : Int} (h : (Lit.int .u8 n).wf = true) : 0 ≤ n ∧ n < 256 := by
  have hw2 : (decide (IntKind.u8.min ≤ n) && decide (n ≤ IntKind.u8.max)) = true := h
  rw [Bool.and_eq_true, decide_eq_true_eq, decide_eq_true_eq] at hw2
  have h1 : IntKind.u8.min = 0 := by decide
  have h2 : IntKind.u8.max = 255 := by decide
  rw [h1, h2] at hw2
  omega
set_option maxRecDepth 100000 in
theorem bytes_of {H : Type} {enc : TypeId × Value → H} {W : World} {r : Reach} {base : Nat} {v : Value} {d : DataW H} {p : List MemPlace} (hv : Value.okWide Tryz.prog W r base 25 v) (h : DataW.Trod enc Tryz.prog W 0 (fun _ => true) true 25 v d p) :
    ∃ (a : Option Addr) (l c : Nat), v = .slice a l c ∧ l ≤ c ∧ (0 < l → ∃ (g o : Nat) (bs : Nat → Nat), a = some ⟨g, o, .none⟩ ∧ Old W g ∧ (∀ i, bs i < 256) ∧ ∀ i, i < l → W.cell? ⟨g, o + i, .none⟩ = some (.int .u8 (bs i : Nat))) := by
  obtain ⟨a, l, c, rfl⟩ := okWide_slice Tryz.underlying25 hv
  obtain ⟨fuel, hf⟩ := h
  rcases open_ints Tryz.underlying25 Tryz.underlying5 (by kernel_rfl) hf with ⟨hcs, _⟩ | ⟨x, l', c', zs, hcs, _, hl, hm, hz, _, hcell, hwz⟩
  · simp [Value.cells] at hcs
    obtain ⟨rfl, rfl, rfl⟩ := hcs
    exact ⟨_, _, _, rfl, Nat.le_refl _, fun h => absurd h (Nat.lt_irrefl _)⟩
  · simp [Value.cells] at hcs
    obtain ⟨rfl, rfl, rfl⟩ := hcs
    refine ⟨_, _, _, rfl, hl, fun h0 => ?_⟩
    have hzl : zs.length = c := by simpa using hz
    have h1 := hcell 0 (by omega)
    have e0 : x.add 0 = x := rfl
    rw [e0] at h1
    have hlt : x.block < W.heap.size := World.block_lt_of_cell? _ _ h1
    have hs : x.spot = Option.none := by
      unfold World.cell? at h1
      cases hx : x.spot with
      | none => rfl
      | some k =>
        rw [hx] at h1
        split at h1 <;> simp at h1
    obtain ⟨xb, xo, xs⟩ := x
    simp only at hs hlt
    subst hs
    refine ⟨xb, xo, fun i => (zs.getD i 0).toNat, rfl, hlt, fun i => ?_, fun i hi => ?_⟩
    · rcases Nat.lt_or_ge i zs.length with hil | hil
      · have := u8_wf (hwz (zs.getD i 0) (by rw [List.getD, List.getElem?_eq_getElem hil]; exact List.getElem_mem hil))
        show (zs.getD i 0).toNat < 256
        omega
      · show (zs.getD i 0).toNat < 256
        rw [List.getD, List.getElem?_eq_none hil]
        decide
    · have hil : i < zs.length := by omega
      have hw := u8_wf (hwz (zs.getD i 0) (by rw [List.getD, List.getElem?_eq_getElem hil]; exact List.getElem_mem hil))
      have hc := hcell i hil
      show W.cell? ⟨xb, xo + i, .none⟩ = some (.int .u8 ((zs.getD i 0).toNat : Int))
      rw [Int.toNat_of_nonneg hw.1, ← hc]
      rcases Nat.eq_zero_or_pos i with rfl | hp
      · rfl
      · unfold Addr.add
        rw [if_neg (by omega)]

/-- the law, over whatever slices -/
theorem lawSignO {W : World} (ht : Tab W) (ma mb mx : Int) (mc : Nat) (a a2 : Option Addr) (l c n c2 : Nat) (hc : l ≤ c) (hc2 : n ≤ c2)
    (hd : 0 < l → ∃ (g o : Nat) (bs : Nat → Nat), a = some ⟨g, o, .none⟩ ∧ Old W g ∧ (∀ i, bs i < 256) ∧ ∀ i, i < l → W.cell? ⟨g, o + i, .none⟩ = some (.int .u8 (bs i : Nat)))
    (hr : 0 < n → ∃ (g o : Nat) (bs : Nat → Nat), a2 = some ⟨g, o, .none⟩ ∧ Old W g ∧ (∀ i, bs i < 256) ∧ ∀ i, i < n → W.cell? ⟨g, o + i, .none⟩ = some (.int .u8 (bs i : Nat))) :
    Calls Tryz.prog 10 #[.agg #[.int .i64 ma, .int .i64 mb, .int .i64 mx, .int .u32 mc], .slice a l c, .slice a2 n c2] W (TrueP (Old W) W) := by
  have h := own_start ht
  by_cases h1 : 2147483647 < l ∨ 2147483647 < n
  · exact lawSign_big h ma mb mx mc a a2 l c n c2 h1
  by_cases h2 : l = 2
  · subst h2
    by_cases h3 : n < 8 ∨ 60 < n
    · exact lawSign_short h ma mb mx mc a a2 c n c2 (by omega) h3
    · obtain ⟨g, o, bs, rfl, hg, hb, hcell⟩ := hd (by omega)
      obtain ⟨g2, o2, bs2, rfl, hg2, hb2, hcell2⟩ := hr (by omega)
      exact lawSign_main h ma mb mx mc g o c (bs 0) (bs 1) g2 o2 n c2 bs2 hc (hb 0) (hb 1) hg (hcell 0 (by omega)) (hcell 1 (by omega)) hg2 hc2 hb2 hcell2 (by omega) (by omega)
  · exact lawSign_len h ma mb mx mc a a2 l c n c2 (by omega) (by omega) h2

set_option maxRecDepth 100000 in
theorem contract10 (H : Type) (enc : TypeId × Value → H) (W : World) (base : Nat) (args : Array Value) (ds gs : List (DataW H)) (before : List MemPlace) (hL : laidMetH Tryz.prog Rows.fnDsaSignRow.laid W)
    (hval0 : ∀ (j : Nat) t v, Tryz.f10.params[j]? = some t → args[j]? = some v → Value.okWide Tryz.prog W .any base t v)
    (hW : DataW.Whole enc Tryz.prog Tryz.f10.params.toList Rows.fnDsaSignSpec.vars false W args.toList ds gs before) :
    Calls Tryz.prog 10 args W fun e W' => ∃ v, e = .returned v ∧ Rows.fnDsaSignSpec.post enc Tryz.prog Tryz.f10 false true false false W args v W' := by
  have hval : ∀ (j : Nat) t v, Tryz.f10.params[j]? = some t → args[j]? = some v → Value.okWide Tryz.prog W .any base t v := hval0
  have hW' := hW
  obtain ⟨p, q, hA0, hV, rfl, hfz, hnd⟩ := hW
  have hA : DataW.TrodAll enc Tryz.prog W 0 (fun _ => true) true Tryz.f10.params.toList args.toList ds p := hA0
  rw [Tryz.params10] at hA hval
  obtain ⟨v0, vs0, d0, ds0, p0, q0, hargs, rfl, rfl, h0, r0⟩ := trodAll_cons hA
  obtain ⟨v1, vs1, d1, ds1, p1, q1, rfl, rfl, rfl, h1, r1⟩ := trodAll_cons r0
  obtain ⟨v2, vs2, d2, ds2, p2, q2, rfl, rfl, rfl, h2, r2⟩ := trodAll_cons r1
  obtain ⟨rfl, rfl, rfl⟩ := trodAll_nil r2
  obtain rfl : args = #[v0, v1, v2] := by cases args; simp_all
  obtain ⟨rfl, rfl⟩ := trodVars_none hV
  obtain ⟨ma, mb, mx, mc, rfl⟩ := maker_of (hval 0 65 v0 rfl rfl) h0
  obtain ⟨a1, l1, c1, rfl, hc1, hd1⟩ := bytes_of (hval 1 25 v1 rfl rfl) h1
  obtain ⟨a2, l2, c2, rfl, hc2, hd2⟩ := bytes_of (hval 2 25 v2 rfl rfl) h2
  have lt0 : ∀ x ∈ p0, x.block < W.heap.size := by obtain ⟨m, hm⟩ := h0; exact DataW.trod_lt m _ _ _ hm
  have lt1 : ∀ x ∈ p1, x.block < W.heap.size := by obtain ⟨m, hm⟩ := h1; exact DataW.trod_lt m _ _ _ hm
  have lt2 : ∀ x ∈ p2, x.block < W.heap.size := by obtain ⟨m, hm⟩ := h2; exact DataW.trod_lt m _ _ _ hm
  clear hA0 hval0
  refine (lawSignO (tab_of10 hL) ma mb mx mc a1 a2 l1 c1 l2 c2 hc1 hc2 hd1 hd2).mono fun e W' ⟨he, hO⟩ => ?_
  subst he
  have bel := below_of hO
  exact ⟨_, rfl, _, _, _, [], _, [], hW', trodAll_mk1 (shut_bool Tryz.underlying4 _), (trodAll_cons_mk (Below.trod laidOut (by kernel_rfl) (of_decide_eq_true (by kernel_rfl)) h0 bel lt0) (trodAll_cons_mk (Below.trod laidOut (by kernel_rfl) (of_decide_eq_true (by kernel_rfl)) h1 bel lt1) (trodAll_cons_mk (Below.trod laidOut (by kernel_rfl) (of_decide_eq_true (by kernel_rfl)) h2 bel lt2) trodAll_mk0))), rfl, bel.frame _, fun h => by cases h⟩

theorem laid_met10 (os : Os) : laidMetH Tryz.prog Rows.fnDsaSignRow.laid ((World.doorLaid Tryz.prog 400 os).forCall (fun _ _ => 0) ⟨#[], #[.agg #[.int .i64 0, .int .i64 0, .int .i64 0, .int .u32 0], .slice none 0 0, .slice none 0 0], []⟩).memory :=
  laidMetH_of_parts3 (fuel := 8) (laidMet_of_run' 8 (by kernel_rfl) (by kernel_rfl)) (by kernel_rfl) (by kernel_rfl)
theorem reads10 (os : Os) {H : Type} (enc : TypeId × Value → H) : ∃ places, DataW.whole enc Tryz.prog ((World.doorLaid Tryz.prog 400 os).forCall (fun _ _ => 0) ⟨#[], #[.agg #[.int .i64 0, .int .i64 0, .int .i64 0, .int .u32 0], .slice none 0 0, .slice none 0 0], []⟩).memory Tryz.f10.params.toList Rows.fnDsaSignSpec.vars false #[Value.agg #[.int .i64 0, .int .i64 0, .int .i64 0, .int .u32 0], .slice none 0 0, .slice none 0 0].toList 8 = some ([.agg [.lit (.int .i64 0), .lit (.int .i64 0), .lit (.int .i64 0), .lit (.int .u32 0)], .nil, .nil], [], places) :=
  ⟨[], by kernel_rfl⟩

set_option maxRecDepth 100000 in
theorem lifted10 (os : Os) (started : os.Started) (H : Type) (enc : TypeId × Value → H) (F : Stop.Interp) :
    ReturnsInHanded {} Tryz.checked os 10 .any ((OpenSpec.ofChange Rows.fnDsaSignSpec).preRow enc Tryz.prog Tryz.f10 Rows.fnDsaSignRow.domain false Rows.fnDsaSignRow.laid) (((OpenSpec.ofChange Rows.fnDsaSignSpec).at F).post enc Tryz.prog Tryz.f10 false true false false) := by
  obtain ⟨places, hx⟩ := reads10 os enc
  refine returnsInHanded_of_row (C := Tryz.checked) (s := OpenSpec.ofChange Rows.fnDsaSignSpec) own started (by kernel_rfl) Tryz.func10
    (witness_row_atRef (enc := enc) (C := Tryz.checked) false (World.doorLaid Tryz.prog 400 os) #[.agg #[.int .i64 0, .int .i64 0, .int .i64 0, .int .u32 0], .slice none 0 0, .slice none 0 0] rfl (by kernel_rfl) (by kernel_rfl) (by kernel_rfl)
      (OpenSpec.preRow_of_cond 8 hx (by kernel_rfl) (fun k hk => by cases hk) (by kernel_rfl) (laid_met10 os))) ?_
  intro W base args ds gs before hval hW _ _ _ hL _ _
  exact contract10 H enc W base args ds gs before hL hval hW
end Go.Proofs.YtohhkjamddojmaaGreatDoor.Big
