/- What a row of a named curve's law premises: io.EOF's cell, the thresholds; the memory at the start. The law FnNamedOrder. The law FnNamedOrder, for every argument; its row's premises. -/
import Derived.Test.YtohhkjamddojmaaGreatDoorQT
import Derived.ProofKit
import Derived.OpenShut
import Derived.ChangeOld
import Derived.Deep.DeepWitnessRowRef
import Derived.LaidMore
import Derived.LaidLaws
import Derived.LaidSub
namespace Go.Proofs.YtohhkjamddojmaaGreatDoor.Bit
open Go.ChangeShapes Go.WideShapes Go.ChangeAt Go.RowKit
open Big EcLaw

theorem own : ownKnob Tryz.prog.godebug = none := by kernel_rfl
theorem laidOut : laidOutB Tryz.prog = true := by kernel_rfl
/-- the memory that there was -/
def Old (W : World) (k : Nat) : Prop := k < W.heap.size
theorem own_start {W : World} (ht : Tab W) : Own (Old W) W W [] := by
  refine ⟨⟨[], [], ⟨fun k h => h, rfl, rfl, rfl, fun i z v p q h1 => by simp at h1, fun i z p h1 => by simp at h1, fun i j z h1 => by simp at h1, fun i j p q b h1 => by simp at h1, fun i j z p h1 => by simp at h1⟩⟩, Kept.refl _ _, ht, fun k hk => ?_⟩
  have := World.block_lt_of_cell? _ _ ht.kdiv
  show k < W.heap.size
  simp at this
  omega
theorem below_of {W W' : World} (h : Own (Old W) W W' []) : Below W.heap.size W W' :=
  ⟨h.kept.os, h.kept.tape, h.kept.output, h.kept.size, fun k hk => h.kept.block k hk (fun e => e hk)⟩
theorem cell_of_laid {W : World} {n : String} {g : Nat} {x : Int} (hg : Tryz.prog.globalNamed n = some g) (ht : (Tryz.prog.globals[g]?).map (·.type) = some 3) (h : laidMet Tryz.prog [(n, .lit (.int .i64 x))] W) : W.cell? ⟨g, 0, none⟩ = some (.int .i64 x) := by
  obtain ⟨ps, ⟨g1, t1, cs1, f1, p1, q1, hg1, ht1, hv1, hd1, _, _⟩, _, _⟩ := h
  obtain rfl := Option.some.inj (hg.symm.trans hg1)
  obtain rfl := Option.some.inj (ht.symm.trans ht1)
  obtain ⟨k, e1, e2, _⟩ := DataW.trod_int Tryz.underlying3 hd1
  have hk : k = x := by simpa using (congrArg Prod.fst e2).symm
  subst hk
  have := World.var?_cell hg1 hv1 0
  rw [Array.eq_one_of_toList e1] at this
  simpa using this
theorem star : "*" ++ "errors.errorString" = "*errors.errorString" := by decide
theorem row216 (u : TypeId) (h : Tryz.prog.typeName? 3 u = some "*errors.errorString") : u = 216 :=
  typeName_ptr_named (nm := "errors.errorString") (by rw [star]; kernel_rfl) (by kernel_rfl) (by decide) u (by rw [star]; exact h)
set_option maxRecDepth 100000 in
theorem eof_of {W : World} (h : laidMet Tryz.prog [("io.EOF", Rows.laid_io_EOF)] W) : ∃ ae, W.cell? ⟨2, 0, none⟩ = some (eofV ae) := by
  obtain ⟨ps, ⟨g1, t1, cs1, f1, p1, q1, hg1, ht1, hv1, hd1, _, hps⟩, _, hok⟩ := h
  obtain rfl : 2 = g1 := Option.some.inj ((by kernel_rfl : Tryz.prog.globalNamed "io.EOF" = some 2).symm.trans hg1)
  obtain rfl : 150 = t1 := Option.some.inj ((by kernel_rfl : (Tryz.prog.globals[2]?).map (·.type) = some 150).symm.trans ht1)
  have hc := World.var?_cell hg1 hv1 0
  obtain ⟨a, s, e, _, _, _, _⟩ := errorString_of_trod Tryz.underlying150 row216 Tryz.underlying216 Tryz.underlying218 rfl rfl Tryz.underlying9 (by kernel_rfl) (by kernel_rfl) hd1 (fun u v e => by
    have hcell : W.cell? ⟨2, 0, none⟩ = some (.iface u v) := by
      rw [hc, Array.eq_one_of_toList e]
      rfl
    refine (hok 2 0 ?_).2 u v hcell
    rw [hps]
    refine List.mem_append_left _ (List.mem_append_left _ ?_)
    rw [Array.eq_one_of_toList e]
    simp [MemPlace.row])
  refine ⟨a, ?_⟩
  rw [hc, Array.eq_one_of_toList e]
  rfl
set_option maxRecDepth 100000 in
theorem u8_of {H : Type} {enc : TypeId × Value → H} {W : World} {r : Reach} {base : Nat} {v : Value} {d : DataW H} {p : List MemPlace} (hv : Value.okWide Tryz.prog W r base 5 v) (h : DataW.Trod enc Tryz.prog W 0 (fun _ => true) true 5 v d p) :
    ∃ n : Nat, n < 256 ∧ v = .int .u8 n := by
  obtain ⟨a, rfl⟩ := okWide_int Tryz.underlying5 hv
  obtain ⟨fuel, hf⟩ := h
  obtain ⟨n, e, _, hw⟩ := DataW.trod_int Tryz.underlying5 hf
  clear hf hv
  have e2 : [Value.int IntKind.u8 a] = [Value.int IntKind.u8 n] := e
  injection e2 with e3 _
  injection e3 with _ e4
  subst e4
  have hw2 : (decide (IntKind.u8.min ≤ a) && decide (a ≤ IntKind.u8.max)) = true := hw
  rw [Bool.and_eq_true, decide_eq_true_eq, decide_eq_true_eq] at hw2
  have h1 : IntKind.u8.min = 0 := by decide
  have h2 : IntKind.u8.max = 255 := by decide
  rw [h1, h2] at hw2
  exact ⟨a.toNat, by omega, by rw [Int.toNat_of_nonneg hw2.1]⟩
end Go.Proofs.YtohhkjamddojmaaGreatDoor.Bit

namespace Go.Proofs.YtohhkjamddojmaaGreatDoor.Bit
open Go.RowKit
open Big EcLaw
attribute [local go_sem] ptr
attribute [local irreducible] Sz

section
variable {R : Nat → Prop} {w0 w w' : World} {L L' : List (Nat × Int)}
/-- a law's memory: a curve's bytes in the block t; what is kept -/
structure St (R K : Nat → Prop) (w w' : World) (t : Nat) (cs : Array Value) (ae : Addr) : Prop where
  own : Own K w' w' []
  kept : Kept R w w'
  mono : ∀ i, R i → K i
  blk : w'.heap[t]? = some (.cells cs 27)
  kt : K t
  eof : w'.cell? ⟨2, 0, .none⟩ = some (eofV ae)
theorem St.low {K : Nat → Prop} {t : Nat} {ae : Addr} {cs : Array Value} (h : St R K w w' t cs ae) : K 2 := h.own.low 2 (by omega)
theorem St.keep {K : Nat → Prop} {t : Nat} {ae : Addr} {cs : Array Value} {w2 : World} (h : St R K w w' t cs ae) (k : Kept K w' w2) : St R K w w2 t cs ae :=
  ⟨(h.own.turned k).since, h.kept.trans (k.weaken (fun _ _ hn hk => hn (h.mono _ hk))), h.mono, by rw [k.block t (Array.getElem?_eq_some_iff.1 h.blk).1 (fun e => e h.kt)]; exact h.blk, h.kt, k.cell h.low h.eof⟩
theorem St.wide {K K' : Nat → Prop} {t : Nat} {ae : Addr} {cs : Array Value} (h : St R K w w' t cs ae) (hK : ∀ k, K k → K' k) (hb : ∀ k, K' k → k < w'.heap.size) : St R K' w w' t cs ae :=
  ⟨h.own.widen hK hb, h.kept, fun i hi => hK _ (h.mono i hi), h.blk, hK _ h.kt, h.eof⟩
theorem St.poke {K : Nat → Prop} {t : Nat} {ae : Addr} {g o : Nat} {cs ds : Array Value} {v : Value} (h : St R K w w' t cs ae) (hg : w'.heap[g]? = some (.cells ds 5)) (hR : ¬ R g) (ht : t ≠ g) (h8 : 8 ≤ g) : St R K w (w'.setCell ⟨g, o, .none⟩ v) t cs ae :=
  ⟨h.own.pokeGB hg (by decide) (by decide) h8 (grown_set w' g o v), h.kept.trans ((Grow.of (grown_set w' g o v)).weaken (fun k _ e hk => hR (by have := Option.some.inj e; exact this ▸ hk))), h.mono,
    by rw [(Grow.of (grown_set w' g o v)).block t (Array.getElem?_eq_some_iff.1 h.blk).1 (fun e => ht (by have := Option.some.inj e; exact this.symm))]; exact h.blk, h.kt, (grown_set w' g o v).cell h.eof (fun e => by have := Option.some.inj e; simp at this; omega)⟩
theorem St.great {K : Nat → Prop} {t : Nat} {ae : Addr} {cs : Array Value} {w2 : World} {Post : Nat → Nat → Prop} {e : Ending} (h : St R K w w' t cs ae) (g : GreatP K w' Post e w2) :
    ∃ X Y vx vy gx gy, e = .returned (.tuple #[vx, vy, .bool true]) ∧ Post X Y ∧ Kept K w' w2 ∧ St R (fun k => K k ∨ k = gx ∨ k = gy) w w2 t cs ae ∧ ByV w2 gx vx X ∧ ByV w2 gy vy Y ∧ w'.heap.size ≤ gx ∧ w'.heap.size ≤ gy := by
  obtain ⟨X, Y, vx, vy, gx, gy, a1, a2, a3, a4, a5, a6, a7, a8⟩ := g
  refine ⟨X, Y, vx, vy, gx, gy, a1, a2, a3, (h.keep a3).wide (fun k hk => .inl hk) (fun k hk => ?_), a5, a6, a7, a8⟩
  rcases hk with hk | rfl | rfl
  · exact a4.old hk
  · obtain ⟨o, ks, -, s, -⟩ := a5; exact s.2.2.2
  · obtain ⟨o, ks, -, s, -⟩ := a6; exact s.2.2.2
theorem ByV.lt {w : World} {g n : Nat} {v : Value} (h : ByV w g v n) : g < w.heap.size := by obtain ⟨o, ks, -, s, -⟩ := h; exact s.2.2.2
theorem order_start {K : Nat → Prop} {w1 w2 w4 w5 : World} {c : Nums} {gX gY g cap l m : Nat} {ae : Addr} {vX vY : Value} {cs27 : Array Value} {ns ms : List Nat} (hK : K = fun k => R k ∨ k = gX ∨ k = gY ∨ k = w2.heap.size ∨ k = g) (h0 : Own R w0 w []) (k1 : Kept R w w1) (k2 : Kept R w1 w2) (o2 : Own R w2 w2 []) (hg : (w2.alloc (.cells cs27 27)).grownBy w4 .none) (hz : (w2.alloc (.cells cs27 27)).heap.size ≤ g) (bX : ByV w2 gX vX c.x) (bY : ByV w2 gY vY c.y)
    (kb : KB w4 g cap ns) (he : w.cell? ⟨2, 0, .none⟩ = some (eofV ae)) (hms : ns = ms ++ [l]) (hm : m = ms.length) (hw5 : w5 = w4.setCell ⟨g, m, .none⟩ (.int .u8 ((l - 1 : Nat) : Int))) :
    St R K w w5 w2.heap.size cs27 ae ∧ KB w5 g cap (ms ++ [l - 1]) ∧ ByV w5 gX vX c.x ∧ ByV w5 gY vY c.y ∧ K gX ∧ K gY ∧ K g ∧ ¬ R g ∧ w2.heap.size ≠ g ∧ 8 ≤ g ∧ gX ≠ g ∧ gY ≠ g ∧ g < w5.heap.size := by
  have hs : (w2.alloc (.cells cs27 27)).heap.size = w2.heap.size + 1 := Array.size_push _
  have n0 := heap_alloc_new w2 (.cells cs27 27)
  have hsz := hg.size
  rw [hs] at hz hsz
  have lx := bX.lt
  have ly := bY.lt
  have o4 := (o2.since.box (.cells cs27 27)).grownN hg
  have hRg : ¬ R g := fun e => by have := o2.old e; omega
  have h8 : 8 ≤ g := Nat.le_of_not_lt (fun e => hRg (h0.low _ e))
  obtain ⟨cs, hb, _⟩ := id kb
  have hgl := (Array.getElem?_eq_some_iff.1 hb).1
  have kk : Kept R w w4 := k1.trans (k2.trans ((Grow.none (grown_alloc w2 (.cells cs27 27) _) _).trans (Grow.none hg _)))
  have s4 : St R K w w4 w2.heap.size cs27 ae := by
    refine ⟨o4.widen (by rw [hK]; exact fun k hk => .inl hk) (by
      rw [hK]
      rintro k (hk | rfl | rfl | rfl | rfl)
      · exact o4.old hk
      · omega
      · omega
      · omega
      · exact hgl), kk, by rw [hK]; exact fun k hk => .inl hk, ?_, by rw [hK]; exact .inr (.inr (.inr (.inl rfl))), kk.cell (h0.low 2 (by omega)) he⟩
    rw [(Grow.none hg (fun _ => False)).block _ (Array.getElem?_eq_some_iff.1 n0).1 (fun e => e)]
    exact n0
  have ga : Kept (fun k => k ≠ g) w2 w5 := by
    rw [hw5]
    exact (Grow.none (grown_alloc w2 (.cells cs27 27) _) _).trans ((Grow.none hg _).trans ((Grow.of (grown_set w4 g m _)).weaken (fun k _ e hk => hk (by have := Option.some.inj e; exact this.symm))))
  subst hms hm
  refine ⟨hw5 ▸ s4.poke hb hRg (by omega) h8, hw5 ▸ kb.set, bX.kept ga (by omega), bY.kept ga (by omega), ?_, ?_, ?_, hRg, by omega, h8, by omega, by omega, by rw [hw5]; exact Nat.lt_of_lt_of_le hgl (grown_set w4 g _ _).size⟩ <;> rw [hK]
  · exact .inr (.inl rfl)
  · exact .inr (.inr (.inl rfl))
  · exact .inr (.inr (.inr (.inr rfl)))
theorem snoc_lt {ms : List Nat} {l m : Nat} (h : ∀ i, (ms ++ [l]).getD i 0 < 256) (hm : m ≤ l) (i : Nat) : (ms ++ [m]).getD i 0 < 256 := by
  have := h i
  simp only [List.getD_eq_getElem?_getD] at this ⊢
  rcases Nat.lt_trichotomy i ms.length with e | e | e
  · rw [List.getElem?_append_left e] at this ⊢
    exact this
  · subst e
    simp at this ⊢
    omega
  · rw [List.getElem?_eq_none (by simp; omega)]
    decide
theorem mulK {K : Nat → Prop} {b t : Nat} {ae : Addr} {g cap n gX gY : Nat} {c : Nums} {cs : Array Value} {ks : List Nat} {vX vY : Value} (hf : Four b c) (S : St R K w w' t cs ae) (kb : KB w' g cap ks) (hn : ks.length = n) (hn7 : n ≤ 700000) (hb : ∀ i, ks.getD i 0 < 256) (bX : ByV w' gX vX c.x) (bY : ByV w' gY vY c.y) (kX : K gX) (kY : K gY) (kg : K g) {N : Nat} (e : bev ks = N) (n0 : 0 < N) (n1 : N < c.n) :
    Calls Tryz.prog 16 #[.int .i64 (b : Nat), vX, vY, .slice (some ⟨g, 0, .none⟩) n cap] w' (GreatP K w' (fun X Y => EcLaw.mul c.p 0 N c.G = .aff X Y)) := by
  subst hn e
  exact namedMultO hf S.own ae S.eof gX gY vX vY g 0 cap ks bX bY kX kY (kb.sl hb hn7) kg n0 n1
theorem Four.nums {b : Nat} {c : Nums} (h : Four b c) : 0 < c.y ∧ c.y < c.p ∧ c.x < c.p ∧ (bd c.p).length ≤ 1000000 := by
  cases h <;> decide +kernel
theorem minus_one {b : Nat} {c : Nums} (hf : Four b c) {X Y : Nat} (e : EcLaw.mul c.p 0 (c.n - 1) c.G = .aff X Y) : X = c.x ∧ Y = c.p - c.y := by
  obtain ⟨y0, yp, xp, -⟩ := hf.nums
  have hc := hf.grp
  have := hc.neg_of (i := 1) (j := c.n - 1) (by have := hc.n5; omega)
  rw [e, mul_one] at this
  unfold Nums.G EcLaw.neg at this
  injection this with e1 e2
  have e3 : (-(c.y : Int)) % c.p = c.p - c.y := by
    rw [← Int.add_emod_right (-(c.y : Int)) c.p]
    rw [Int.emod_eq_of_lt (by omega) (by omega)]
    omega
  rw [e3] at e2
  omega
theorem two_one {b : Nat} {c : Nums} (hf : Four b c) {A : Pt} (e : EcLaw.mul c.p 0 (c.n - 2) c.G = A) : EcLaw.add c.p 0 A (.aff c.x c.y) = EcLaw.mul c.p 0 (c.n - 1) c.G := by
  have hc := hf.grp
  have n5 := hc.n5
  rw [← e, show c.n - 1 = c.n - 2 + 1 by omega, mul_add hc.cv hc.on, mul_one]
  rfl
theorem order_add {K : Nat → Prop} {b t : Nat} {ae : Addr} {g3 g4 gX gY X Y : Nat} {c : Nums} {cs : Array Value} {v3 v4 vX vY : Value} (hf : Four b c) (S : St R K w w' t cs ae) (b3 : ByV w' g3 v3 X) (b4 : ByV w' g4 v4 Y) (bX : ByV w' gX vX c.x) (bY : ByV w' gY vY c.y) (k3 : K g3) (k4 : K g4) (kX : K gX) (kY : K gY) (e : EcLaw.mul c.p 0 (c.n - 2) c.G = .aff X Y) :
    Calls Tryz.prog 28 #[.int .i64 (b : Nat), v3, v4, vX, vY] w' (GreatP K w' (fun X' Y' => EcLaw.mul c.p 0 (c.n - 1) c.G = .aff X' Y')) := by
  have hc := hf.grp
  have n5 := hc.n5
  have t1 := two_one hf e
  refine (namedAddO hf S.own ae S.eof g3 g4 gX gY X Y c.x c.y v3 v4 vX vY b3 b4 bX bY k3 k4 kX kY (e ▸ mul_on hc.prm hc.on _) hc.on ?_ ?_).mono ?_
  · intro e2
    have := hc.apart (i := 1) (j := c.n - 2) (by omega) (by omega)
    rw [mul_one, e, e2] at this
    exact this rfl
  · rw [t1]
    exact hc.ne (by omega) (by omega)
  · rintro en w'' ⟨X', Y', vx, vy, gx, gy, a1, a2, a3⟩
    exact ⟨X', Y', vx, vy, gx, gy, a1, t1 ▸ a2, a3⟩
theorem ByV.set {w : World} {g g' o n : Nat} {v u : Value} (h : ByV w g v n) (hne : g ≠ g') : ByV (w.setCell ⟨g', o, .none⟩ u) g v n :=
  h.kept (R := fun k => k ≠ g') ((Grow.of (grown_set w g' o u)).weaken (fun k _ e hk => hk (by have := Option.some.inj e; exact this.symm))) hne
theorem KB.blk {w : World} {g cap : Nat} {ks : List Nat} (h : KB w g cap ks) : ∃ cs, w.heap[g]? = some (.cells cs 5) := by obtain ⟨cs, h, _⟩ := h; exact ⟨cs, h⟩
set_option maxHeartbeats 16000000 in
set_option maxRecDepth 100000 in
theorem lawOrderO (h : Own R w0 w []) (ae : Addr) (he : w.cell? ⟨2, 0, .none⟩ = some (eofV ae)) (x : Int) (h0 : 0 ≤ x) (h1 : x < 256) :
    Calls Tryz.prog 6 #[.int .u8 x] w (fun e w' => e = .returned (.bool true) ∧ Own R w0 w' []) := by
  have S := Lib.hid (sizeO x w h0 h1)
  have HS0 := Lib.hid (And.intro h he)
  clear h he h0 h1
  go_enter Tryz.func6, Tryz.ntmps6
  go_wp2_with fail
  refine S.out.mono ?_
  rintro en w1 ⟨b, c, hf, rfl, g1⟩
  have H1 := Lib.hid (And.intro (HS0.out.1.grownN g1) (g1.cell HS0.out.2 (by simp)))
  have N := Lib.hid (curveNamedO hf H1.out.1 ae H1.out.2)
  have HF := Lib.hid hf
  have HG1 := Lib.hid g1
  clear S g1 hf
  go_wp2_with fail
  refine N.out.mono ?_
  rintro en w2 ⟨vP, vN, vB, vX, vY, gP, gN, gB, gX, gY, rfl, k2, o2, ⟨bP, bN, bB, bX, bY⟩, z1, z2, z3, z4, z5⟩
  obtain ⟨oN, ns, rfl, sN, eN, cN⟩ := bN
  obtain ⟨oP, ps, rfl, -⟩ := bP
  obtain ⟨oB, bs, rfl, -⟩ := bB
  obtain ⟨oX, xs, rX, -⟩ := id bX
  obtain ⟨oY, ys, rY, -⟩ := id bY
  generalize xs.length = lx at rX
  generalize ys.length = ly at rY
  generalize ps.length = lp
  generalize bs.length = lb
  subst rX rY
  obtain ⟨ms, l, hms, e1, l2, l256⟩ := HF.out.bytes sN.2.1 eN
  obtain ⟨n, hn⟩ : ∃ n, n = ns.length := ⟨_, rfl⟩
  obtain ⟨m, hm⟩ : ∃ m, m = ms.length := ⟨_, rfl⟩
  have hnm : n = m + 1 := by rw [hn, hm, hms]; simp
  have hcl : w2.cell? ⟨gN, oN + m, .none⟩ = some (.int .u8 (l : Nat)) := by
    have := sN.1 m (by omega)
    rw [this, hms, hm]
    simp [List.getD]
  have hn7 : n ≤ 700000 := by rw [hn]; exact sN.2.2.1
  have W1 : wrap64 ((n : Int) - 1) = (m : Int) := by rw [hnm]; unfold wrap64; omega
  have i0 : ((n : Int) == 0) = false := by rw [beq_eq_false_iff_ne]; omega
  have i1 : decide ((l : Int) < 2) = false := by rw [decide_eq_false_iff_not]; omega
  have i2 : (m : Int) < n := by omega
  have H2 := Lib.hid (And.intro k2 (And.intro o2 (And.intro bX (And.intro bY (And.intro sN (And.intro e1 (And.intro l2 (And.intro l256 (And.intro hms (And.intro hn (And.intro hm (And.intro hnm hn7))))))))))))
  have hcl2 : (w2.alloc (.cells #[.slice (some ⟨gP, oP, .none⟩) lp lp, .slice (some ⟨gN, oN, .none⟩) n n, .slice (some ⟨gB, oB, .none⟩) lb lb, .slice (some ⟨gX, oX, .none⟩) lx lx, .slice (some ⟨gY, oY, .none⟩) ly ly, .int .i64 (b : Nat)] 27)).cell? ⟨gN, oN + m, .none⟩ = some (.int .u8 (l : Nat)) := (grown_alloc _ _ none).cell hcl (by simp)
  rw [← hn]
  clear k2 o2 bX bY sN eN cN e1 l2 l256 hms hn hm hnm hn7 z1 z2 z3 z4 z5 N hcl
  have sN2 := Lib.hid (show Sl (w2.alloc (.cells #[.slice (some ⟨gP, oP, .none⟩) lp lp, .slice (some ⟨gN, oN, .none⟩) n n, .slice (some ⟨gB, oB, .none⟩) lb lb, .slice (some ⟨gX, oX, .none⟩) lx lx, .slice (some ⟨gY, oY, .none⟩) ly ly, .int .i64 (b : Nat)] 27)) gN oN ns from H2.out.2.2.2.2.1.kept (R := fun k => k = gN) (Grow.none (grown_alloc _ _ _) _) rfl)
  have hsz : (w2.alloc (.cells #[.slice (some ⟨gP, oP, .none⟩) lp lp, .slice (some ⟨gN, oN, .none⟩) n n, .slice (some ⟨gB, oB, .none⟩) lb lb, .slice (some ⟨gX, oX, .none⟩) lx lx, .slice (some ⟨gY, oY, .none⟩) ly ly, .int .i64 (b : Nat)] 27)).heap.size = w2.heap.size + 1 := Array.size_push _
  have HL := Lib.hid (fun (w4 : World) (g cap : Nat) (kb : KB w4 g cap ns) => (by have := H2.out.2.2.2.2.2.2.2.2; rw [this.1] at kb; have q := kb.last; rw [← this.2.2.1] at q; exact q : w4.cell? ⟨g, m, .none⟩ = some (.int .u8 (l : Nat)) ∧ w4.frozen? ⟨g, m, .none⟩ = false))
  go_upto_region 7 with (at_builtin; refine wpList_copy_bytes rfl (.tmp 41) (.tmp 43) rfl _ hsz rfl gN oN n n ns H2.out.2.2.2.2.2.2.2.2.2.1.symm rfl sN2.out ?_; intro g cap w4 kb hg hz; obtain ⟨q1, q2⟩ := HL.out _ _ _ kb)
  have HX := Lib.hid (And.intro kb (And.intro hg hz))
  have e8 : ((l : Int) - 1) % 256 = ((l - 1 : Nat) : Int) := by have := H2.out.2.2.2.2.2.2; omega
  simp only [e8]
  obtain ⟨w5, hw5⟩ : ∃ w5, w5 = w4.setCell ⟨g, m, .none⟩ (.int .u8 ((l - 1 : Nat) : Int)) := ⟨_, rfl⟩
  rw [← hw5]
  obtain ⟨K, hK⟩ : ∃ K : Nat → Prop, K = fun k => R k ∨ k = gX ∨ k = gY ∨ k = w2.heap.size ∨ k = g := ⟨_, rfl⟩
  have S5 := Lib.hid (order_start (K := K) hK HS0.out.1 (Grow.none HG1.out _) H2.out.1 H2.out.2.1 HX.out.2.1 HX.out.2.2 H2.out.2.2.1 H2.out.2.2.2.1 HX.out.1 HS0.out.2 H2.out.2.2.2.2.2.2.2.2.1 H2.out.2.2.2.2.2.2.2.2.2.2.1 hw5)
  clear q1 q2 e8 kb hg hz hsz hw5 hK sN2 HL HX hcl2 i0 i1
  have C5 := Lib.hid (mulK HF.out S5.out.1 S5.out.2.1 (n := n) (by have := H2.out; have := this.2.2.2.2.2.2.2.2; rw [this.2.2.2.1, this.2.2.1]; simp) (by have := H2.out; have := this.2.2.2.2.2.2.2.2; omega) (snoc_lt (l := l) (by have := H2.out; have h := this.2.2.2.2.1.2.1; rwa [this.2.2.2.2.2.2.2.2.1] at h) (by omega)) S5.out.2.2.1 S5.out.2.2.2.1 S5.out.2.2.2.2.1 S5.out.2.2.2.2.2.1 S5.out.2.2.2.2.2.2.1 (N := c.n - 1) (by rw [bev_snoc]; have := H2.out.2.2.2.2.2; omega) (by have := HF.out.grp.n5; omega) (by have := HF.out.grp.n5; omega))
  have q3 := block_cell (k := 3) S5.out.1.blk rfl
  have q4 := block_cell (k := 4) S5.out.1.blk rfl
  go_wp2_with fail
  refine C5.out.mono ?_
  rintro en w6 hq
  obtain ⟨X1, Y1, v1, v2, g1, g2, rfl, p1, k6, s6, b1, b2, z1, z2⟩ := S5.out.1.great hq
  have S6 := Lib.hid (And.intro p1 (And.intro s6 (And.intro b1 (And.intro b2 (And.intro (S5.out.2.1.kept k6 S5.out.2.2.2.2.2.2.1) (And.intro (S5.out.2.2.1.kept k6 S5.out.2.2.2.2.1) (S5.out.2.2.2.1.kept k6 S5.out.2.2.2.2.2.1)))))))
  have K6 := Lib.hid (show g1 ≠ g ∧ g2 ≠ g by have := S5.out.2.2.2.2.2.2.2.2.2.2.2.2; omega)
  clear hq p1 k6 s6 b1 b2 C5 q3 q4 z1 z2
  obtain ⟨q1, q2⟩ := S6.out.2.2.2.2.1.last
  rw [← H2.out.2.2.2.2.2.2.2.2.2.2.1] at q1 q2
  go_upto_region 9 with fail
  have e8 : (((l - 1 : Nat) : Int) - 1) % 256 = ((l - 1 - 1 : Nat) : Int) := by have := H2.out.2.2.2.2.2.2; omega
  simp only [e8]
  obtain ⟨w7, hw7⟩ : ∃ w7, w7 = w6.setCell ⟨g, m, .none⟩ (.int .u8 ((l - 1 - 1 : Nat) : Int)) := ⟨_, rfl⟩
  have S7 := Lib.hid (show St R (fun k => K k ∨ k = g1 ∨ k = g2) w w7 w2.heap.size _ ae ∧ KB w7 g cap (ms ++ [l - 1 - 1]) ∧ ByV w7 g1 v1 X1 ∧ ByV w7 g2 v2 Y1 ∧ ByV w7 gX _ c.x ∧ ByV w7 gY _ c.y from by
    obtain ⟨p1, s6, b1, b2, kb, bx, by_⟩ := S6.out
    obtain ⟨_, _, _, _, _, _, kg, hR, hne, h8, nX, nY, _⟩ := S5.out
    obtain ⟨cs, hb⟩ := kb.blk
    have hmm := H2.out.2.2.2.2.2.2.2.2.2.2.1
    subst hmm
    rw [hw7]
    exact ⟨s6.poke hb hR hne h8, kb.set, b1.set K6.out.1, b2.set K6.out.2, bx.set nX, by_.set nY⟩)
  rw [← hw7]
  clear q1 q2 e8 hw7
  have C7 := Lib.hid (mulK HF.out S7.out.1 S7.out.2.1 (n := n) (by have := H2.out; have := this.2.2.2.2.2.2.2.2; rw [this.2.2.2.1, this.2.2.1]; simp) (by have := H2.out; have := this.2.2.2.2.2.2.2.2; omega) (snoc_lt (l := l) (by have := H2.out; have h := this.2.2.2.2.1.2.1; rwa [this.2.2.2.2.2.2.2.2.1] at h) (by omega)) S7.out.2.2.2.2.1 S7.out.2.2.2.2.2 (.inl S5.out.2.2.2.2.1) (.inl S5.out.2.2.2.2.2.1) (.inl S5.out.2.2.2.2.2.2.1) (N := c.n - 2) (by rw [bev_snoc]; have := H2.out.2.2.2.2.2; omega) (by have := HF.out.grp.n5; omega) (by have := HF.out.grp.n5; omega))
  have q3 := block_cell (k := 3) S7.out.1.blk rfl
  have q4 := block_cell (k := 4) S7.out.1.blk rfl
  go_wp2_with fail
  refine C7.out.mono ?_
  rintro en w8 hq
  obtain ⟨X2, Y2, v3, v4, g3, g4, rfl, p1, k8, s8, b3, b4, z1, z2⟩ := S7.out.1.great hq
  have S8 := Lib.hid (And.intro p1 (And.intro s8 (And.intro b3 (And.intro b4 (And.intro (S7.out.2.2.1.kept k8 (.inr (.inl rfl))) (And.intro (S7.out.2.2.2.1.kept k8 (.inr (.inr rfl))) (And.intro (S7.out.2.2.2.2.1.kept k8 (.inl S5.out.2.2.2.2.1)) (S7.out.2.2.2.2.2.kept k8 (.inl S5.out.2.2.2.2.2.1)))))))))
  clear hq p1 k8 s8 b3 b4 C7 q3 q4 z1 z2
  have C8 := Lib.hid (order_add HF.out S8.out.2.1 S8.out.2.2.1 S8.out.2.2.2.1 S8.out.2.2.2.2.2.2.1 S8.out.2.2.2.2.2.2.2 (.inr (.inl rfl)) (.inr (.inr rfl)) (.inl (.inl S5.out.2.2.2.2.1)) (.inl (.inl S5.out.2.2.2.2.2.1)) S8.out.1)
  have q3 := block_cell (k := 3) S8.out.2.1.blk rfl
  have q4 := block_cell (k := 4) S8.out.2.1.blk rfl
  go_wp2_with fail
  refine C8.out.mono ?_
  rintro en w9 hq
  obtain ⟨X3, Y3, v5, v6, g5, g6, rfl, p1, k9, s9, b5, b6, z1, z2⟩ := S8.out.2.1.great hq
  have S9 := Lib.hid (show St R _ w w9 w2.heap.size _ ae ∧ ByV w9 g1 v1 c.x ∧ ByV w9 g2 v2 (c.p - c.y) ∧ ByV w9 g5 v5 c.x ∧ ByV w9 g6 v6 (c.p - c.y) ∧ ByV w9 gX _ c.x ∧ ByV w9 gY _ c.y from by
    have e1 := minus_one HF.out S6.out.1
    have e2 := minus_one HF.out p1
    have a1 := S8.out.2.2.2.2.1.kept k9 (.inl (.inr (.inl rfl)))
    have a2 := S8.out.2.2.2.2.2.1.kept k9 (.inl (.inr (.inr rfl)))
    rw [e1.1] at a1
    rw [e1.2] at a2
    rw [e2.1] at b5
    rw [e2.2] at b6
    exact ⟨s9, a1, a2, b5, b6, S8.out.2.2.2.2.2.2.1.kept k9 (.inl (.inl S5.out.2.2.2.2.1)), S8.out.2.2.2.2.2.2.2.kept k9 (.inl (.inl S5.out.2.2.2.2.2.1))⟩)
  clear hq p1 k9 s9 b5 b6 C8 q3 q4 z1 z2
  have P20 := Lib.hid (fun n => primeO HF.out (w9.drewN n))
  have BB := Lib.hid (fun (w' : World) (k : w9.grownBy w' .none) => (show ByV w' g1 v1 c.x ∧ ByV w' g2 v2 (c.p - c.y) ∧ ByV w' g5 v5 c.x ∧ ByV w' g6 v6 (c.p - c.y) ∧ ByV w' gX (.slice (some ⟨gX, oX, .none⟩) lx lx) c.x ∧ ByV w' gY (.slice (some ⟨gY, oY, .none⟩) ly ly) c.y from
    have kk := Grow.none k (fun _ => False)
    have kk : Kept (fun _ => True) w9 w' := Grow.none k _
    ⟨S9.out.2.1.kept kk trivial, S9.out.2.2.1.kept kk trivial, S9.out.2.2.2.1.kept kk trivial, S9.out.2.2.2.2.1.kept kk trivial, S9.out.2.2.2.2.2.1.kept kk trivial, S9.out.2.2.2.2.2.2.kept kk trivial⟩))
  have QQ := Lib.hid (fun (w' : World) (k : w9.grownBy w' .none) => (⟨k.cell (block_cell (k := 3) S9.out.1.blk rfl) (by simp), k.cell (block_cell (k := 4) S9.out.1.blk rfl) (by simp)⟩ : w'.cell? ⟨w2.heap.size, 3, .none⟩ = some (.slice (some ⟨gX, oX, .none⟩) lx lx) ∧ w'.cell? ⟨w2.heap.size, 4, .none⟩ = some (.slice (some ⟨gY, oY, .none⟩) ly ly)))
  have M23 := Lib.hid (fun (v : World) p c1 q c2 h h2 => minusS p q c1 c2 c.p c.y v h h2 (by have := HF.out.nums; omega) HF.out.nums.2.2.2)
  obtain ⟨q3, q4⟩ := QQ.out w9 (grown_refl _ _)
  go_wp2_with fail
  go_region_held3 (fun w' => w'.cell? ⟨w2.heap.size, 4, .none⟩ = some (.slice (some ⟨gY, oY, .none⟩) ly ly)) (go_keep) (first | (go_at_call 23; refine (M23.out _ _ _ _ _ A2.out.2.1 A2.out.2.2).mono ?_; rintro en u3 ⟨p3, c3, rfl, r3, gr3⟩; obtain ⟨q3, q4⟩ := QQ.out _ (A2.out.1.trans gr3); have A3 := Lib.hid (And.intro (A2.out.1.trans gr3) r3); clear r3 gr3) | (go_at_call 19; refine (fromBy (BB.out _ A1.out.1).2.2.2.2.2).mono ?_; rintro en u2 ⟨p2, c2, rfl, r2, gr2⟩; obtain ⟨q3, q4⟩ := QQ.out _ (A1.out.1.trans gr2); have A2 := Lib.hid (And.intro (A1.out.1.trans gr2) (And.intro (A1.out.2.kept gr2) r2)); clear r2 gr2) | (go_at_call 20; refine (P20.out _).mono ?_; rintro en u1 ⟨p1, c1, rfl, r1, gr1⟩; have gg := (grown_drewN w9 _ .none).trans gr1; obtain ⟨q3, q4⟩ := QQ.out _ gg; have A1 := Lib.hid (And.intro gg r1); clear r1 gr1 gg))
  have HK := Lib.hid (fun (w' : World) (k : w9.grownBy w' .none) => HS0.out.1.turned (S9.out.1.kept.trans (Grow.none k _)))
  have E1 := Lib.hid (sameBy (BB.out _ A3.out.1).1 (BB.out _ A3.out.1).2.2.2.2.1)
  clear P20 M23 QQ S9 S8 S7 S6 S5 K6 H2 HF HG1 H1 HS0 W1 i2 A1 A2
  go_wp2_with fail
  refine E1.out.mono ?_
  rintro en u4 ⟨rfl, d4, hu4⟩
  have A4 := Lib.hid (And.intro (A3.out.1.trans (hu4 ▸ grown_drewN u3 d4 .none)) (A3.out.2.kept (hu4 ▸ grown_drewN u3 d4 .none : u3.grownBy u4 .none)))
  have E2 := Lib.hid (fromBy (BB.out _ A4.out.1).2.1)
  clear E1 hu4 A3
  go_wp2_with fail
  refine E2.out.mono ?_
  rintro en u5 ⟨p5, c5, rfl, r5, gr5⟩
  have A5 := Lib.hid (A4.out.1.trans gr5)
  have E3 := Lib.hid (compareS p5 p3 c5 c3 (c.p - c.y) (c.p - c.y) u5 r5 (A4.out.2.kept gr5))
  rw [sgn_eq1] at E3
  clear r5 gr5 E2 A4
  go_wp2_with fail
  refine E3.out.mono ?_
  rintro en u6 ⟨rfl, d6, hu6⟩
  have A6 := Lib.hid (A5.out.trans (hu6 ▸ grown_drewN u5 d6 .none))
  have E4 := Lib.hid (sameBy (BB.out _ A6.out).2.2.1 (BB.out _ A6.out).1)
  clear E3 hu6 A5
  go_wp2_with fail
  refine E4.out.mono ?_
  rintro en u7 ⟨rfl, d7, hu7⟩
  have A7 := Lib.hid (A6.out.trans (hu7 ▸ grown_drewN u6 d7 .none))
  have E5 := Lib.hid (sameBy (BB.out _ A7.out).2.2.2.1 (BB.out _ A7.out).2.1)
  clear E4 hu7 A6
  go_wp2_with fail
  refine E5.out.mono ?_
  rintro en u8 ⟨rfl, d8, hu8⟩
  have A8 := Lib.hid (A7.out.trans (hu8 ▸ grown_drewN u7 d8 .none))
  clear E5 hu8 A7
  go_wp2_with fail
  go_ret
  exact ⟨rfl, HK.out _ A8.out⟩
end
end Go.Proofs.YtohhkjamddojmaaGreatDoor.Bit

namespace Go.Proofs.YtohhkjamddojmaaGreatDoor.Bit
open Go.ChangeShapes Go.WideShapes Go.ChangeAt Go.RowKit
open Big EcLaw

theorem tab_one6 {W : World} {n : String} {x : Int} (h : laidMetH Tryz.prog Rows.fnNamedOrderRow.laid W) (e : (Rows.fnNamedOrderRow.laid.filter (fun y => y.1 == n)).filter (fun x => x.2.handleName?.isNone) = [(n, .lit (.int .i64 x))]) : laidMet Tryz.prog [(n, .lit (.int .i64 x))] W := by
  have := (laidMetH_iff.1 (h.filter (fun y => y.1 == n))).1
  rw [e] at this
  exact this
theorem tab_of6 {W : World} (h : laidMetH Tryz.prog Rows.fnNamedOrderRow.laid W) : Tab W :=
  ⟨cell_of_laid (n := "pub-counterseal/pub/bigall.basicSqrThreshold") (by kernel_rfl) (by kernel_rfl) (tab_one6 h (by kernel_rfl)),
    cell_of_laid (n := "pub-counterseal/pub/bigall.karatsubaSqrThreshold") (by kernel_rfl) (by kernel_rfl) (tab_one6 h (by kernel_rfl)),
    cell_of_laid (n := "pub-counterseal/pub/bigall.karatsubaThreshold") (by kernel_rfl) (by kernel_rfl) (tab_one6 h (by kernel_rfl)),
    cell_of_laid (n := "pub-counterseal/pub/bigall.divRecursiveThreshold") (by kernel_rfl) (by kernel_rfl) (tab_one6 h (by kernel_rfl))⟩
theorem eof_of6 {W : World} (h : laidMetH Tryz.prog Rows.fnNamedOrderRow.laid W) : ∃ ae, W.cell? ⟨2, 0, none⟩ = some (eofV ae) := by
  have := (laidMetH_iff.1 (h.filter (fun y => y.1 == "io.EOF"))).1
  rw [show (Rows.fnNamedOrderRow.laid.filter (fun y => y.1 == "io.EOF")).filter (fun x => x.2.handleName?.isNone) = [("io.EOF", Rows.laid_io_EOF)] by kernel_rfl] at this
  exact eof_of this

set_option maxRecDepth 100000 in
theorem contract6 (H : Type) (enc : TypeId × Value → H) (W : World) (base : Nat) (args : Array Value) (ds gs : List (DataW H)) (before : List MemPlace) (hL : laidMetH Tryz.prog Rows.fnNamedOrderRow.laid W)
    (hval0 : ∀ (j : Nat) t v, Tryz.f6.params[j]? = some t → args[j]? = some v → Value.okWide Tryz.prog W .any base t v)
    (hW : DataW.Whole enc Tryz.prog Tryz.f6.params.toList Rows.fnNamedOrderSpec.vars false W args.toList ds gs before) :
    Calls Tryz.prog 6 args W fun e W' => ∃ v, e = .returned v ∧ Rows.fnNamedOrderSpec.post enc Tryz.prog Tryz.f6 false true false false W args v W' := by
  have hval : ∀ (j : Nat) t v, Tryz.f6.params[j]? = some t → args[j]? = some v → Value.okWide Tryz.prog W .any base t v := hval0
  have hW' := hW
  obtain ⟨p, q, hA0, hV, rfl, hfz, hnd⟩ := hW
  have hA : DataW.TrodAll enc Tryz.prog W 0 (fun _ => true) true Tryz.f6.params.toList args.toList ds p := hA0
  rw [Tryz.params6] at hA hval
  obtain ⟨v0, vs0, d0, ds0, p0, q0, hargs, rfl, rfl, h0, r0⟩ := trodAll_cons hA
  obtain ⟨rfl, rfl, rfl⟩ := trodAll_nil r0
  obtain rfl : args = #[v0] := by cases args; simp_all
  obtain ⟨rfl, rfl⟩ := trodVars_none hV
  obtain ⟨t0, u0, rfl⟩ := u8_of (hval 0 5 v0 rfl rfl) h0
  have lt0 : ∀ x ∈ p0, x.block < W.heap.size := by obtain ⟨m, hm⟩ := h0; exact DataW.trod_lt m _ _ _ hm
  obtain ⟨ae, hae⟩ := eof_of6 hL
  clear hA0 hval0
  refine (lawOrderO (own_start (tab_of6 hL)) ae hae t0 (by omega) (by omega)).mono fun e W' ⟨he, hO⟩ => ?_
  subst he
  have bel := below_of hO
  exact ⟨_, rfl, _, _, _, [], _, [], hW', trodAll_mk1 (shut_bool Tryz.underlying4 _), (trodAll_cons_mk (Below.trod laidOut (by kernel_rfl) (of_decide_eq_true (by kernel_rfl)) h0 bel lt0) trodAll_mk0), rfl, bel.frame _, fun h => by cases h⟩

theorem laid_met6 (os : Os) : laidMetH Tryz.prog Rows.fnNamedOrderRow.laid ((World.doorLaid Tryz.prog 400 os).forCall (fun _ _ => 0) ⟨#[], #[.int .u8 0], []⟩).memory :=
  laidMetH_of_parts3 (fuel := 8) (laidMet_of_run' 8 (by kernel_rfl) (by kernel_rfl)) (by kernel_rfl) (by kernel_rfl)
theorem reads6 (os : Os) {H : Type} (enc : TypeId × Value → H) : ∃ places, DataW.whole enc Tryz.prog ((World.doorLaid Tryz.prog 400 os).forCall (fun _ _ => 0) ⟨#[], #[.int .u8 0], []⟩).memory Tryz.f6.params.toList Rows.fnNamedOrderSpec.vars false (#[.int .u8 0] : Array Value).toList 8 = some ([.lit (.int .u8 0)], [], places) :=
  ⟨[], by kernel_rfl⟩

set_option maxRecDepth 100000 in
theorem lifted6 (os : Os) (started : os.Started) (H : Type) (enc : TypeId × Value → H) (F : Stop.Interp) :
    ReturnsInHanded {} Tryz.checked os 6 .any ((OpenSpec.ofChange Rows.fnNamedOrderSpec).preRow enc Tryz.prog Tryz.f6 Rows.fnNamedOrderRow.domain false Rows.fnNamedOrderRow.laid) (((OpenSpec.ofChange Rows.fnNamedOrderSpec).at F).post enc Tryz.prog Tryz.f6 false true false false) := by
  obtain ⟨places, hx⟩ := reads6 os enc
  refine returnsInHanded_of_row (C := Tryz.checked) (s := OpenSpec.ofChange Rows.fnNamedOrderSpec) own started (by kernel_rfl) Tryz.func6
    (witness_row_atRef (enc := enc) (C := Tryz.checked) false (World.doorLaid Tryz.prog 400 os) #[.int .u8 0] rfl (by kernel_rfl) (by kernel_rfl) (by kernel_rfl)
      (OpenSpec.preRow_of_cond 8 hx (by kernel_rfl) (fun k hk => by cases hk) (by kernel_rfl) (laid_met6 os))) ?_
  intro W base args ds gs before hval hW _ _ _ hL _ _
  exact contract6 H enc W base args ds gs before hL hval hW
end Go.Proofs.YtohhkjamddojmaaGreatDoor.Bit
