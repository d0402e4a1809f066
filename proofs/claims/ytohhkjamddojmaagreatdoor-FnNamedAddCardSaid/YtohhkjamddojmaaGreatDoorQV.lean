/- What a row of a named curve's law premises: io.EOF's cell, the thresholds; the memory at the start. A number of 64 bits, as a row's argument. The law FnNamedOrder. Sums of points as the specification asks them: chords and tangents without an inverse; doubling and adding in its projective coordinates: plain numbers. Plain: what doubling a multiple of a base point comes to. Bytes of an odd number: short of the laws. The specification's great numbers written in place: q m taken away. -/
import Derived.Test.YtohhkjamddojmaaGreatDoorBN
import Derived.ProofKit
import Derived.OpenShut
import Derived.ChangeOld
import Derived.Deep.DeepWitnessRowRef
import Derived.LaidMore
import Derived.LaidLaws
import Derived.LaidSub
import Derived.Test.YtohhkjamddojmaaGreatDoorQA
import Derived.Test.YtohhkjamddojmaaGreatDoorSO
import Derived.Laws.BitsAllLaws
import Derived.Test.YtohhkjamddojmaaGreatDoorBF
namespace Go.Proofs.YtohhkjamddojmaaGreatDoor.Bit
open Go.ChangeShapes Go.WideShapes Go.ChangeAt Go.RowKit
open Big EcLaw
theorem own : ownKnob Tryz.prog.godebug = none := by kernel_rfl
theorem laidOut : laidOutB Tryz.prog = true := by kernel_rfl
def Old (W : World) (k : Nat) : Prop := k < W.heap.size
theorem own_start {W : World} (ht : Tab W) : Own (Old W) W W [] := by
 refine ⟨⟨[], [], ⟨fun k h => h, rfl, rfl, rfl, fun i z v p q h1 => by simp at h1, fun i z p h1 => by simp at h1, fun i j z h1 => by simp at h1, fun i j p q b h1 => by simp at h1, fun i j z p h1 => by simp at h1⟩⟩, Kept.refl _ _, ht, fun k hk => ?_⟩
 have := World.block_lt_of_cell? _ _ ht.kdiv
 show k < W.heap.size
 simp at this
 omega
theorem below_of {W W' : World} (h : Own (Old W) W W' []) : Below W.heap.size W W' :=
 ⟨h.kept.os, h.kept.tape, h.kept.output, h.kept.size, fun k hk => h.kept.block k hk (fun e => e hk)⟩
theorem cell_of_laid {W : World} {n : String} {g : Nat} {x : Int} (hg : Tryz.prog.globalNamed n = some g) (ht : (Tryz.prog.globals[g]?).map (·.type) = some 3) (h : laidMet Tryz.prog [(n, .lit (.int .i64 x))] W) : W.cell? ⟨g, 0, none⟩ = some (.int .i64 x) := by
 obtain ⟨ps, ⟨g1, t1, cs1, f1, p1, q1, hg1, ht1, hv1, hd1, _, _⟩, _, _⟩ := h
 obtain rfl := Option.some.inj (hg.symm.trans hg1)
 obtain rfl := Option.some.inj (ht.symm.trans ht1)
 obtain ⟨k, e1, e2, _⟩ := DataW.trod_int Tryz.underlying3 hd1
 have hk : k = x := by simpa using (congrArg Prod.fst e2).symm
 subst hk
 have := World.var?_cell hg1 hv1 0
 rw [Array.eq_one_of_toList e1] at this
 simpa using this
theorem star : "*" ++ "errors.errorString" = "*errors.errorString" := by decide
theorem row216 (u : TypeId) (h : Tryz.prog.typeName? 3 u = some "*errors.errorString") : u = 216 :=
 typeName_ptr_named (nm := "errors.errorString") (by rw [star]; kernel_rfl) (by kernel_rfl) (by decide) u (by rw [star]; exact h)
set_option maxRecDepth 100000 in
theorem eof_of {W : World} (h : laidMet Tryz.prog [("io.EOF", Rows.laid_io_EOF)] W) : ∃ ae, W.cell? ⟨2, 0, none⟩ = some (eofV ae) := by
 obtain ⟨ps, ⟨g1, t1, cs1, f1, p1, q1, hg1, ht1, hv1, hd1, _, hps⟩, _, hok⟩ := h
 obtain rfl : 2 = g1 := Option.some.inj ((by kernel_rfl : Tryz.prog.globalNamed "io.EOF" = some 2).symm.trans hg1)
 obtain rfl : 150 = t1 := Option.some.inj ((by kernel_rfl : (Tryz.prog.globals[2]?).map (·.type) = some 150).symm.trans ht1)
 have hc := World.var?_cell hg1 hv1 0
 obtain ⟨a, s, e, _, _, _, _⟩ := errorString_of_trod Tryz.underlying150 row216 Tryz.underlying216 Tryz.underlying218 rfl rfl Tryz.underlying9 (by kernel_rfl) (by kernel_rfl) hd1 (fun u v e => by
  have hcell : W.cell? ⟨2, 0, none⟩ = some (.iface u v) := by
   rw [hc, Array.eq_one_of_toList e]
   rfl
  refine (hok 2 0 ?_).2 u v hcell
  rw [hps]
  refine List.mem_append_left _ (List.mem_append_left _ ?_)
  rw [Array.eq_one_of_toList e]
  simp [MemPlace.row])
 refine ⟨a, ?_⟩
 rw [hc, Array.eq_one_of_toList e]
 rfl
set_option maxRecDepth 100000 in
theorem u8_of {H : Type} {enc : TypeId × Value → H} {W : World} {r : Reach} {base : Nat} {v : Value} {d : DataW H} {p : List MemPlace} (hv : Value.okWide Tryz.prog W r base 5 v) (h : DataW.Trod enc Tryz.prog W 0 (fun _ => true) true 5 v d p) :
 ∃ n : Nat, n < 256 ∧ v = .int .u8 n := by
 obtain ⟨a, rfl⟩ := okWide_int Tryz.underlying5 hv
 obtain ⟨fuel, hf⟩ := h
 obtain ⟨n, e, _, hw⟩ := DataW.trod_int Tryz.underlying5 hf
 clear hf hv
 have e2 : [Value.int IntKind.u8 a] = [Value.int IntKind.u8 n] := e
 injection e2 with e3 _
 injection e3 with _ e4
 subst e4
 have hw2 : (decide (IntKind.u8.min ≤ a) && decide (a ≤ IntKind.u8.max)) = true := hw
 rw [Bool.and_eq_true, decide_eq_true_eq, decide_eq_true_eq] at hw2
 have h1 : IntKind.u8.min = 0 := by decide
 have h2 : IntKind.u8.max = 255 := by decide
 rw [h1, h2] at hw2
 exact ⟨a.toNat, by omega, by rw [Int.toNat_of_nonneg hw2.1]⟩
end Go.Proofs.YtohhkjamddojmaaGreatDoor.Bit

namespace Go.Proofs.YtohhkjamddojmaaGreatDoor.Bit
open Go.ChangeShapes Go.WideShapes Go.ChangeAt Go.RowKit
open Big EcLaw
set_option maxRecDepth 100000 in
theorem u64_of {H : Type} {enc : TypeId × Value → H} {W : World} {r : Reach} {base : Nat} {v : Value} {d : DataW H} {p : List MemPlace} (hv : Value.okWide Tryz.prog W r base 22 v) (h : DataW.Trod enc Tryz.prog W 0 (fun _ => true) true 22 v d p) :
 ∃ n : Nat, n < 18446744073709551616 ∧ v = .int .u64 n := by
 obtain ⟨a, rfl⟩ := okWide_int Tryz.underlying22 hv
 obtain ⟨fuel, hf⟩ := h
 obtain ⟨n, e, _, hw⟩ := DataW.trod_int Tryz.underlying22 hf
 clear hf hv
 have e2 : [Value.int IntKind.u64 a] = [Value.int IntKind.u64 n] := e
 injection e2 with e3 _
 injection e3 with _ e4
 subst e4
 have hw2 : (decide (IntKind.u64.min ≤ a) && decide (a ≤ IntKind.u64.max)) = true := hw
 rw [Bool.and_eq_true, decide_eq_true_eq, decide_eq_true_eq] at hw2
 have h1 : IntKind.u64.min = 0 := by decide
 have h2 : IntKind.u64.max = 18446744073709551615 := by decide
 rw [h1, h2] at hw2
 exact ⟨a.toNat, by omega, by congr 1; omega⟩
end Go.Proofs.YtohhkjamddojmaaGreatDoor.Bit

namespace Go.Proofs.YtohhkjamddojmaaGreatDoor.Bit
open Go.RowKit
open Big EcLaw
attribute [local go_sem] ptr
attribute [local irreducible] Sz
section
variable {R : Nat → Prop} {w0 w w' : World} {L L' : List (Nat × Int)}
structure St (R K : Nat → Prop) (w w' : World) (t : Nat) (cs : Array Value) (ae : Addr) : Prop where
 own : Own K w' w' []
 kept : Kept R w w'
 mono : ∀ i, R i → K i
 blk : w'.heap[t]? = some (.cells cs 27)
 kt : K t
 eof : w'.cell? ⟨2, 0, .none⟩ = some (eofV ae)
theorem St.low {K : Nat → Prop} {t : Nat} {ae : Addr} {cs : Array Value} (h : St R K w w' t cs ae) : K 2 := h.own.low 2 (by omega)
theorem St.keep {K : Nat → Prop} {t : Nat} {ae : Addr} {cs : Array Value} {w2 : World} (h : St R K w w' t cs ae) (k : Kept K w' w2) : St R K w w2 t cs ae :=
 ⟨(h.own.turned k).since, h.kept.trans (k.weaken (fun _ _ hn hk => hn (h.mono _ hk))), h.mono, by rw [k.block t (Array.getElem?_eq_some_iff.1 h.blk).1 (fun e => e h.kt)]; exact h.blk, h.kt, k.cell h.low h.eof⟩
theorem St.wide {K K' : Nat → Prop} {t : Nat} {ae : Addr} {cs : Array Value} (h : St R K w w' t cs ae) (hK : ∀ k, K k → K' k) (hb : ∀ k, K' k → k < w'.heap.size) : St R K' w w' t cs ae :=
 ⟨h.own.widen hK hb, h.kept, fun i hi => hK _ (h.mono i hi), h.blk, hK _ h.kt, h.eof⟩
theorem St.great {K : Nat → Prop} {t : Nat} {ae : Addr} {cs : Array Value} {w2 : World} {Post : Nat → Nat → Prop} {e : Ending} (h : St R K w w' t cs ae) (g : GreatP K w' Post e w2) :
 ∃ X Y vx vy gx gy, e = .returned (.tuple #[vx, vy, .bool true]) ∧ Post X Y ∧ Kept K w' w2 ∧ St R (fun k => K k ∨ k = gx ∨ k = gy) w w2 t cs ae ∧ ByV w2 gx vx X ∧ ByV w2 gy vy Y ∧ w'.heap.size ≤ gx ∧ w'.heap.size ≤ gy := by
 obtain ⟨X, Y, vx, vy, gx, gy, a1, a2, a3, a4, a5, a6, a7, a8⟩ := g
 refine ⟨X, Y, vx, vy, gx, gy, a1, a2, a3, (h.keep a3).wide (fun k hk => .inl hk) (fun k hk => ?_), a5, a6, a7, a8⟩
 rcases hk with hk | rfl | rfl
 · exact a4.old hk
 · obtain ⟨o, ks, -, s, -⟩ := a5; exact s.2.2.2
 · obtain ⟨o, ks, -, s, -⟩ := a6; exact s.2.2.2
theorem ByV.lt {w : World} {g n : Nat} {v : Value} (h : ByV w g v n) : g < w.heap.size := by obtain ⟨o, ks, -, s, -⟩ := h; exact s.2.2.2
end
end Go.Proofs.YtohhkjamddojmaaGreatDoor.Bit

namespace Go.Proofs.YtohhkjamddojmaaGreatDoor.Bit
open EcLaw
def fm (p a b : Nat) : Nat := a * b % p
def fa (p a b : Nat) : Nat := (a + b) % p
def fs (p a b : Nat) : Nat := (a + p - b) % p
theorem fm_dvd (p a b : Nat) : (p : Int) ∣ (fm p a b : Int) - a * b := by
 unfold fm; rw [Int.natCast_emod, Int.natCast_mul]; exact zyv _ _
theorem fa_dvd (p a b : Nat) : (p : Int) ∣ (fa p a b : Int) - (a + b) := by
 unfold fa; rw [Int.natCast_emod, Int.natCast_add]; exact zyv _ _
theorem fs_dvd {p a b : Nat} (h : b ≤ p) : (p : Int) ∣ (fs p a b : Int) - (a - b) := by
 unfold fs; rw [Int.natCast_emod, show ((a + p - b : Nat) : Int) = a - b + p by omega]
 exact lin2 1 1 (zyv (p : Int) ((a : Int) - b + p)) (Int.dvd_refl (p : Int)) (by grind)
theorem fm_lt {p a b : Nat} (h : 0 < p) : fm p a b < p := Nat.mod_lt _ h
theorem fa_lt {p a b : Nat} (h : 0 < p) : fa p a b < p := Nat.mod_lt _ h
theorem fs_lt {p a b : Nat} (h : 0 < p) : fs p a b < p := Nat.mod_lt _ h
theorem eq_of_dvd {p a b : Nat} (ha : a < p) (hb : b < p) (h : (p : Int) ∣ (a : Int) - b) : a = b := by
 have := eq_of_range (p := (p : Int)) (x := a) (y := b) (by omega) (by omega) (by omega) (by omega) h
 omega
def isSum (p a x1 y1 x2 y2 x3 y3 : Nat) (tangent : Bool) : Bool :=
 let up := if tangent then fa p (fa p (fa p (fm p x1 x1) (fm p x1 x1)) (fm p x1 x1)) a else fs p y2 y1
 let down := if tangent then fa p y1 y1 else fs p x2 x1
 fm p (fa p (fa p x1 x2) x3) (fm p down down) == fm p up up && fm p (fa p y1 y3) down == fm p up (fs p x1 x3)
theorem isSum_core {p : Nat} {x1 y1 x2 x3 y3 up down : Nat} {l : Int} (h0 : 0 < p) (hx3 : x3 ≤ p) (kl : (p : Int) ∣ l * down - up) (k3 : (p : Int) ∣ (x3 : Int) - (l^2 - x1 - x2)) (k4 : (p : Int) ∣ (y3 : Int) - (l * (x1 - x3) - y1)) :
 (fm p (fa p (fa p x1 x2) x3) (fm p down down) == fm p up up && fm p (fa p y1 y3) down == fm p up (fs p x1 x3)) = true := by
 rw [Bool.and_eq_true, beq_iff_eq, beq_iff_eq]
 constructor
 · refine eq_of_dvd (fm_lt h0) (fm_lt h0) ?_
   have a1 := fm_dvd p (fa p (fa p x1 x2) x3) (fm p down down)
   have a2 := fm_dvd p up up
   have a3 := fm_dvd p down down
   have a4 := fa_dvd p (fa p x1 x2) x3
   have a5 := fa_dvd p x1 x2
   generalize fm p (fa p (fa p x1 x2) x3) (fm p down down) = t1 at *
   generalize fm p up up = t2 at *
   generalize fm p down down = t3 at *
   generalize fa p (fa p x1 x2) x3 = t4 at *
   generalize fa p x1 x2 = t5 at *
   have b1 : (p : Int) ∣ (t4 : Int) - (x1 + x2 + x3) := lin2 1 1 a4 a5 (by grind)
   have b2 : (p : Int) ∣ (t4 : Int) - l^2 := lin2 1 1 b1 k3 (by grind)
   have b3 : (p : Int) ∣ (t4 : Int) * t3 - l^2 * (down * down) := lin2 (t3 : Int) (l^2) b2 a3 (by grind)
   have b4 : (p : Int) ∣ l^2 * ((down : Int) * down) - up * up := zzq (l * down + up) kl (by grind)
   exact lin4 1 (-1) 1 1 a1 a2 b3 b4 (by grind)
 · refine eq_of_dvd (fm_lt h0) (fm_lt h0) ?_
   have a1 := fm_dvd p (fa p y1 y3) down
   have a2 := fm_dvd p up (fs p x1 x3)
   have a3 := fa_dvd p y1 y3
   have a4 := fs_dvd (a := x1) hx3
   generalize fm p (fa p y1 y3) down = t1 at *
   generalize fm p up (fs p x1 x3) = t2 at *
   generalize fa p y1 y3 = t3 at *
   generalize fs p x1 x3 = t4 at *
   have b1 : (p : Int) ∣ (t3 : Int) - l * (x1 - x3) := lin2 1 1 a3 k4 (by grind)
   have b2 : (p : Int) ∣ (t3 : Int) * down - up * (x1 - x3) := lin2 (down : Int) ((x1 : Int) - x3) b1 kl (by grind)
   have b3 : (p : Int) ∣ (up : Int) * t4 - up * (x1 - x3) := zzq (up : Int) a4 (by grind)
   exact lin4 1 (-1) 1 (-1) a1 a2 b2 b3 (by grind)
theorem chord_sum {p x1 y1 x2 y2 x3 y3 : Nat} {b : Int} (h : Prm (p : Int)) (h1 : On p 0 b (.aff x1 y1)) (h2 : On p 0 b (.aff x2 y2)) (hx : x1 ≠ x2) (e : add p 0 (.aff x1 y1) (.aff x2 y2) = .aff x3 y3) : isSum p 0 x1 y1 x2 y2 x3 y3 false = true := by
 have hp := h.two
 have l1 := h1.2.1; have l2 := h2.2.1
 have hn : ¬ ((p : Int) ∣ (x1 : Int) - x2 ∧ (p : Int) ∣ (y1 : Int) + y2) := fun hh => hx (eq_of_dvd (by omega) (by omega) hh.1)
 obtain ⟨l, x3', y3', e', h3, hl, k3, k4⟩ := add_inv h h1 h2 hn
 rw [e] at e'
 injection e' with ex ey
 subst ex ey
 have o3 := h3.2.1
 have m1 := h1.2.2.2.1
 unfold isSum
 simp only [Bool.false_eq_true, if_false]
 refine isSum_core (l := l) (by omega) (by omega) ?_ k3 k4
 have a1 := fs_dvd (p := p) (a := y2) (b := y1) (by omega)
 have a2 := fs_dvd (p := p) (a := x2) (b := x1) (by omega)
 exact lin3 (-1) l (-1) hl.chord a2 a1 (by grind)
/-! ### The specification's triples -/
end Go.Proofs.YtohhkjamddojmaaGreatDoor.Bit

namespace Go.Proofs.YtohhkjamddojmaaGreatDoor.Bit
open EcLaw
theorem chord_law {c : Nums} (hc : Grp c) {a b X1 Y1 X2 Y2 X3 Y3 : Nat} (e1 : mul c.p 0 a c.G = .aff X1 Y1) (e2 : mul c.p 0 b c.G = .aff X2 Y2) (hx : X1 ≠ X2) (e3 : add c.p 0 (.aff X1 Y1) (.aff X2 Y2) = .aff X3 Y3) : isSum c.p 0 X1 Y1 X2 Y2 X3 Y3 false = true :=
 chord_sum hc.prm (e1 ▸ mul_on hc.prm hc.on a) (e2 ▸ mul_on hc.prm hc.on b) hx e3
theorem x_apart {c : Nums} (hc : Grp c) {a b X1 Y1 X2 Y2 : Nat} (hab : a ≠ b) (hs : a + b < c.n) (h0 : 0 < a + b) (e1 : mul c.p 0 a c.G = .aff X1 Y1) (e2 : mul c.p 0 b c.G = .aff X2 Y2) : X1 ≠ X2 := by
 intro hx
 have o1 : On c.p 0 c.b (.aff X1 Y1) := e1 ▸ mul_on hc.prm hc.on a
 have o2 : On c.p 0 c.b (.aff X2 Y2) := e2 ▸ mul_on hc.prm hc.on b
 subst hx
 have q : (c.p : Int) ∣ ((Y1 : Int) - Y2) * (Y1 + Y2) := lin2 1 (-1) o1.2.2.2.2 o2.2.2.2.2 (by grind)
 rcases hc.prm.mul _ _ q with h | h
 · have hY : Y1 = Y2 := eq_of_dvd (p := c.p) (by have := o1.2.2.2.1; omega) (by have := o2.2.2.2.1; omega) h
   rw [← hY, ← e1] at e2
   rcases Nat.lt_trichotomy a b with k | k | k
   · exact hc.apart k (by omega) e2.symm
   · exact hab k
   · exact hc.apart k (by omega) e2
 · refine hc.ne h0 hs ?_
   rw [mul_add hc.cv hc.on, e1, e2]
   exact add_opp ⟨by simp, h⟩
end Go.Proofs.YtohhkjamddojmaaGreatDoor.Bit

set_option maxHeartbeats 16000000
namespace Go.Proofs.YtohhkjamddojmaaGreatDoor.Big
open Go.RowKit
theorem u64_odd (n : Nat) (hn : n < 18446744073709551616) : bits .or .u64 (n : Int) 1 = ((n / 2 * 2 + 1 : Nat) : Int) := by
 rw [show (1 : Int) = ((1 : Nat) : Int) from rfl, u64_or_nat n 1 hn (by decide)]
 congr 1
 apply Nat.eq_of_testBit_eq
 intro i
 match i with
 | 0 => simp
 | i + 1 =>
  rw [Nat.testBit_or, Nat.testBit_succ, Nat.testBit_succ, Nat.testBit_succ]
  rw [show (n / 2 * 2 + 1) / 2 = n / 2 by omega]
  simp
set_option maxRecDepth 100000 in
theorem shortS (w : World) (n : Nat) (hn : n < 18446744073709551616) :
 Calls Tryz.prog 17 #[.int .u64 n] w (fun e w' => ∃ ks : List Nat, BytesP w ks e w' ∧ bev ks = n / 2 * 2 + 1 ∧ (∀ k ∈ ks, k < 256) ∧ ks.length ≤ 8) := by
 obtain ⟨i0, hi, hz0, hz1, hz2⟩ := info_parts info5
 have OR := u64_odd n hn
 obtain ⟨n', hn'⟩ : ∃ n', n' = n / 2 * 2 + 1 := ⟨_, rfl⟩
 rw [← hn'] at OR ⊢
 have hn0 : 0 < n' := by omega
 have hn2 : n' < 18446744073709551616 := by omega
 clear hn' hn
 go_enter Tryz.func17, Tryz.ntmps17
 go_wp2_with fail
 go_loopw [0, 3] (fun a v wr => ∃ (m : Nat) (ks : List Nat), a = .int .u64 m ∧ m < 18446744073709551616 ∧ wr.ownsRow w.heap.size 5 1 v ks.length (ks.map u8v) ∧ w.grownBy wr .none ∧ RowKit.Hid (n' = m * 256 ^ ks.length + bev ks ∧ (∀ k ∈ ks, k < 256) ∧ ks.length ≤ 8)) (fun a _ _ => (intOf a).toNat)
 case atStart => exact ⟨n', [], rfl, hn2, World.ownsRow_nil _ _ _ _, World.grownBy.refl _ _, ⟨by simp [bev], by simp, by simp⟩⟩
 case round =>
  obtain ⟨m, ks, rfl, hm, hown, hg, HR⟩ := hrel
  have HO := Lz hown
  have HG := Lz hg
  have hsz : w.heap.size ≤ wr.heap.size := hg.size
  clear hg
  by_cases h0 : (0 : Int) < m
  · have hlk : ks.length < 8 := by
     obtain ⟨e1, -, e3⟩ := HR.out
     rcases Nat.lt_or_ge ks.length 8 with h | h
     · exact h
     · exfalso
       have e4 : ks.length = 8 := by omega
       rw [e4] at e1
       have : 256 ^ 8 * 1 ≤ 256 ^ 8 * m := Nat.mul_le_mul_left _ (by omega)
       omega
    have HN := Lz (show n' = m / 256 * 256 ^ ((m % 256) :: ks).length + bev ((m % 256) :: ks) ∧ (∀ k ∈ (m % 256) :: ks, k < 256) ∧ ((m % 256) :: ks).length ≤ 8 by
     obtain ⟨e1, e2, e3⟩ := HR.out
     refine ⟨?_, ?_, by rw [List.length_cons]; omega⟩
     · rw [bev_cons, List.length_cons, Nat.pow_succ, Nat.mul_comm (256 ^ _) 256, ← Nat.mul_assoc, ← Nat.add_assoc, ← Nat.add_mul]
       rw [show m / 256 * 256 + m % 256 = m by omega]
       exact e1
     · intro k hk
       rcases List.mem_cons.1 hk with rfl | hk
       · omega
       · exact e2 k hk)
    have EC := Lz (show Value.int .u8 ((m : Int) % 256) = u8v (m % 256) by unfold u8v; rw [Int.natCast_emod]; rfl)
    have hl0 : w.heap.size ≤ wr.heap.size := hsz
    have hlit := World.ownsRow_lit (base := w.heap.size) (e := 5) (size := 1) wr #[Value.int .u8 ((m : Int) % 256)] 1 hl0 (by decide) rfl
    have hga : w.grownBy (wr.alloc (.cells #[Value.int .u8 ((m : Int) % 256)] 5)) .none := zzy HG.out (zzx _ _ _)
    have HGA := Lz hga
    rcases hown with ⟨hlen, ⟨rfl, hks⟩ | ⟨g, cap, cur, rfl, hb, hblk, hle, hcm, hsz2, htk⟩⟩
    · obtain rfl : ks = [] := List.length_eq_zero_iff.1 hks
      clear hlen hks
      have HLIT := Lz hlit
      clear hlit hga
      go_wp2_with fail
      go_roundw
      case rel => exact ⟨m / 256, [m % 256], by go_num, by omega, by have := HLIT.out; rw [EC.out] at this; exact this, HGA.out, HN.out⟩
      case measure => simp [intOf]; omega
    · have hne : g ≠ wr.heap.size := by
       intro e
       have := (Array.getElem?_eq_some_iff.1 hblk).1
       omega
      have hcells := HO.out.cells (g := g) rfl
      have hsrc : ∀ j u, (ks.map u8v)[j]? = some u → (wr.alloc (.cells #[Value.int .u8 ((m : Int) % 256)] 5)).cell? ((⟨g, 0, .none⟩ : Addr).add j) = some u := fun j u h => (zzx wr _ none).cell (hcells j u h) (by simp)
      clear hlen hb hblk hle hcm hsz2 htk hcells
      go_wp2_with (at_builtin; refine wpList_append_own _ rfl (.tmp 12) (.tmp 13) 25 rfl w.heap.size 5 i0 (.int .u8 0) 1 1 Tryz.underlying25 hi hz0 hz1 hz2 rfl (by decide) _ 1 [Value.int .u8 ((m : Int) % 256)] rfl hlit ⟨g, 0, .none⟩ ks.length cap (ks.map u8v) rfl (by simp) hsrc (by intro u hu; obtain ⟨k, -, rfl⟩ := List.mem_map.1 hu; rfl) (by unfold maxLen; omega) (by omega) (Nat.le_trans hl0 (by show _ ≤ (Array.push _ _).size; rw [Array.size_push]; omega)) ?_; intro v' w1 hown' hgrow hnn)
      have HO' := Lz (show w1.ownsRow w.heap.size 5 1 v' ((m % 256) :: ks).length (((m % 256) :: ks).map u8v) by rw [List.length_cons, Nat.add_comm, List.map_cons, ← EC.out]; exact hown')
      have HG' := Lz (grown_new HGA.out hgrow hl0)
      clear hown' hgrow hnn hlit hga hsrc hne
      go_wp2_with fail
      go_roundw
      case rel => exact ⟨m / 256, (m % 256) :: ks, by go_num, by omega, HO'.out, HG'.out, HN.out⟩
      case measure => simp [intOf]; omega
  · have hm0 : m = 0 := by omega
    subst hm0
    rcases hown with ⟨hlen, ⟨rfl, hks⟩ | ⟨g, cap, cur, rfl, hb, hblk, hle, hcm, hsz2, htk⟩⟩
    · exfalso
      have := List.length_eq_zero_iff.1 hks
      have h1 := HR.out.1
      rw [this] at h1
      simp [bev] at h1
      omega
    · have HF := Lz (show bev ks = n' ∧ (∀ k ∈ ks, k < 256) ∧ ks.length ≤ 8 from ⟨by have := HR.out.1; omega, HR.out.2⟩)
      clear hlen hb hblk hle hcm hsz2 htk HR
      go_wp2_with fail
      go_ret
      exact ⟨ks, ⟨_, _, rfl, HO.out, HG.out⟩, HF.out⟩
theorem BytesP.sl {w w' : World} {ks : List Nat} {e : Ending} (h : BytesP w ks e w') (h2 : ∀ k ∈ ks, k < 256) (h3 : ks.length ≤ 700000) :
 ∃ g cap, e = .returned (.slice (some ⟨g, 0, .none⟩) ks.length cap) ∧ Bit.Sl w' g 0 ks ∧ w.grownBy w' .none ∧ w.heap.size ≤ g := by
 obtain ⟨g, cap, rfl, hown, hg⟩ := h
 obtain ⟨hgb, hlt⟩ := hown.lt g rfl
 have hgd : ∀ i, ks.getD i 0 < 256 := fun i => by
  rw [List.getD_eq_getElem?_getD]
  cases e : ks[i]? with
  | none => simp
  | some k => exact h2 k (List.mem_of_getElem? e)
 refine ⟨g, cap, rfl, ⟨fun i hi => ?_, hgd, h3, hlt⟩, hg, hgb⟩
 rw [Nat.zero_add, hown.cellAt i (by omega), List.getElem?_map, List.getElem?_eq_getElem hi, Option.map_some, List.getD_eq_getElem?_getD, List.getElem?_eq_getElem hi]
 rfl
end Go.Proofs.YtohhkjamddojmaaGreatDoor.Big

set_option maxHeartbeats 16000000
namespace Go.Proofs.YtohhkjamddojmaaGreatDoor.Big
open Go.RowKit
theorem and16i (x : Int) : bits BinOp.and IntKind.i64 x 65535 = x % 65536 := by
 have e : bits BinOp.and IntKind.i64 x 65535 = IntKind.i64.wrap (((x % 18446744073709551616).toNat &&& 65535 : Nat) : Int) := by
  simp only [bits, BitVec.toNat_and, BitVec.toNat_ofInt]
  rfl
 rw [e, show (65535 : Nat) = 2 ^ 16 - 1 from rfl, Nat.and_two_pow_sub_one_eq_mod, IntKind.wrap_i64]
 omega
def dgs (rs : List Nat) : Array Value := (rs.map i64v).toArray
def DigB (w : World) (b : Nat) (rs : List Nat) : Prop := w.heap[b]? = some (.cells (dgs rs) 3 (0, 0))
theorem DigB.lt {w : World} {b : Nat} {cs : List Nat} (h : DigB w b cs) : b < w.heap.size := (Array.getElem?_eq_some_iff.1 h).1
theorem DigB.cell {w : World} {b : Nat} {cs : List Nat} (h : DigB w b cs) (i : Nat) (hi : i < cs.length) : w.cell? ⟨b, i, none⟩ = some (.int .i64 (cs.getD i 0 : Nat)) := by
 unfold DigB at h
 simp only [World.cell?, h]
 simp [dgs, i64v, hi, List.getD]
theorem DigB.free {w : World} {b : Nat} {cs : List Nat} (h : DigB w b cs) (i : Nat) : w.frozen? ⟨b, i, none⟩ = false := by
 unfold DigB at h
 simp [World.frozen?, h]
theorem DigB.set {w : World} {b : Nat} {cs : List Nat} (h : DigB w b cs) (i v : Nat) : DigB (w.setCell ⟨b, i, none⟩ (.int .i64 (v : Nat))) b (cs.set i v) := by
 unfold DigB at *
 simp only [World.setCell, Array.getElem?_modify, if_true]
 rw [h]
 simp [dgs, i64v]
theorem DigB.kept {w w' : World} {b : Nat} {cs : List Nat} {row : Option Nat} (h : DigB w b cs) (hg : w.grownBy w' row) (hne : some b ≠ row) : DigB w' b cs := by
 unfold DigB at *
 rw [hg.block b (Array.getElem?_eq_some_iff.1 h).1 hne, h]
theorem DigB.row {w : World} {b : Nat} {cs : List Nat} (h : DigB w b cs) {c : Nat} (hc : cs.length ≤ c) (hm : c ≤ maxLen) : RowI w (some ⟨b, 0, .none⟩) c cs :=
 ⟨hc, hm, fun _ => ⟨b, 0, rfl⟩, fun b' o e i hi => by
  injection e with e; injection e with e1 e2
  subst e1 e2
  rw [Nat.zero_add]
  exact h.cell i hi⟩
theorem RowI.keptB {w w' : World} {p : Option Addr} {c : Nat} {xs : List Nat} {g : Nat} (h : RowI w p c xs) (hg : w.grownBy w' (some g)) (hne : ∀ b o, p = some ⟨b, o, .none⟩ → b ≠ g) : RowI w' p c xs :=
 ⟨h.1, h.2.1, h.2.2.1, fun b o e i hi => hg.cell (h.2.2.2 b o e i hi) (fun hh => hne b o e (Option.some.inj hh))⟩
theorem set_part {os rs : List Nat} {i v : Nat} (ho : os.length = i) (hi : i < rs.length) : (os ++ rs.drop i).set i v = (os ++ [v]) ++ rs.drop (i + 1) := by
 rw [List.set_append, if_neg (by omega), ho, Nat.sub_self, List.drop_eq_getElem_cons hi, List.append_assoc]
 rfl
theorem getD_part {os rs : List Nat} {i : Nat} (ho : os.length = i) : (os ++ rs.drop i).getD i 0 = rs.getD i 0 := by
 simp [List.getD, List.getElem?_append_right (show os.length ≤ i by omega), ho]
theorem part_length {os rs : List Nat} {i : Nat} (ho : os.length = i) (hi : i ≤ rs.length) : (os ++ rs.drop i).length = rs.length := by
 rw [List.length_append, List.length_drop]; omega
def TakeP (b : Nat) (rs : List Nat) (N : Nat) (w : World) (e : Ending) (w' : World) : Prop :=
 e = .returned (.tuple #[]) ∧ w.grownBy w' (some b) ∧ ∃ os, DigB w' b os ∧ os.length = rs.length ∧ Wb os ∧ bval os + N = bval rs
set_option maxRecDepth 100000 in
theorem takeS (b : Nat) (rs : List Nat) (p2 : Option Addr) (c2 M q : Nat) (w : World) (h : DigB w b rs) (h2 : RowI w p2 c2 (bd M)) (hne : ∀ b2 o, p2 = some ⟨b2, o, .none⟩ → b2 ≠ b) (hl : rs.length ≤ 1000000) (hw : Wb rs)
 (hm : (bd M).length ≤ rs.length) (hq : q ≤ 131072) (hle : q * M ≤ bval rs) : Calls Tryz.prog 147 #[.slice (some ⟨b, 0, .none⟩) rs.length rs.length, .slice p2 (bd M).length c2, .int .i64 q] w (TakeP b rs (q * M) w) := by
 obtain ⟨Y, hY⟩ : ∃ Y, Y = bd M := ⟨_, rfl⟩
 have vM : bval Y = M := by rw [hY]; exact bval_bd M
 have hwY : Wb Y := by rw [hY]; exact bd_words M
 rw [← hY] at h2 hm ⊢
 obtain ⟨n, hn⟩ : ∃ n, n = rs.length := ⟨_, rfl⟩
 obtain ⟨m, hm'⟩ : ∃ m, m = Y.length := ⟨_, rfl⟩
 have H := Lz (And.intro h2 (And.intro hne (And.intro vM (And.intro hwY (And.intro hn (And.intro hm' (And.intro hm hle)))))))
 have HW := Lz (And.intro hw (And.intro hl hq))
 have hn0 : n ≤ 1000000 := by omega
 rw [← hn, ← hm']
 have HB := Lz h
 clear h h2 hne vM hwY hn hm' hm hle hw hl hq hY
 go_enter Tryz.func147, Tryz.ntmps147
 go_wp2_with fail
 go_loopw [6, 11] (fun s6 s11 wr => ∃ (i cy : Nat) (os : List Nat), s6 = .int .i64 (cy : Nat) ∧ s11 = .int .i64 (i : Nat) ∧ DigB wr b (os ++ rs.drop i) ∧ w.grownBy wr (some b) ∧ RowKit.Hid (i ≤ n ∧ cy ≤ q + 1 ∧ os.length = i ∧ Wb os ∧ bval os + q * bval (Y.take i) = bval (rs.take i) + B16 ^ i * cy)) (fun _ s11 _ => ((n : Int) - intOf s11).toNat)
 case atStart => exact ⟨0, 0, [], rfl, rfl, HB.out, World.grownBy.refl _ _, ⟨Nat.zero_le _, Nat.zero_le _, rfl, Wb.nil, by simp [bval]⟩⟩
 case round =>
  obtain ⟨i, cy, os, rfl, rfl, hdb, hg, HR⟩ := hrel
  have HD := Lz hdb
  have HG := Lz hg
  by_cases hin : i < n
  · have i1 : (i : Int) < n := by omega
    have ck := hdb.cell i (by rw [part_length HR.out.2.2.1 (by have := H.out.2.2.2.2.1; omega)]; have := H.out.2.2.2.2.1; omega)
    rw [getD_part HR.out.2.2.1] at ck
    have fk := hdb.free i
    obtain ⟨ki, hki⟩ : ∃ x, x = rs.getD i 0 := ⟨_, rfl⟩
    rw [← hki] at ck
    have kB : ki < 65536 := by rw [hki]; exact HW.out.1.getD i
    have cB : cy ≤ 131073 := by have := HR.out.2.1; have := HW.out.2.2; omega
    have W1 := Lz (show wrap64 ((ki : Int) - cy) = (ki : Int) - cy from by unfold wrap64; omega)
    by_cases him : i < m
    · have i2 : (i : Int) < m := by omega
      obtain ⟨bl, ol, rfl⟩ := H.out.1.2.2.1 (by have := H.out.2.2.2.2.2.1; omega)
      have cl := (H.out.1.keptB hg H.out.2.1).2.2.2 bl ol rfl i (by have := H.out.2.2.2.2.2.1; omega)
      obtain ⟨li, hli⟩ : ∃ x, x = Y.getD i 0 := ⟨_, rfl⟩
      rw [← hli] at cl
      have lB : li < 65536 := by rw [hli]; exact H.out.2.2.2.1.getD i
      have qlB : q * li ≤ q * 65535 := Nat.mul_le_mul_left _ (by omega)
      have qB : q * 65535 ≤ 131072 * 65535 := Nat.mul_le_mul_right _ HW.out.2.2
      obtain ⟨ql, hql⟩ : ∃ x, x = q * li := ⟨_, rfl⟩
      have WM := Lz (show wrap64 ((q : Int) * li) = (ql : Int) from wrapN (by rw [hql, Int.natCast_mul]) (by omega))
      obtain ⟨D, hD⟩ : ∃ D : Int, D = (ki : Int) - cy - ql := ⟨_, rfl⟩
      have W2 := Lz (show wrap64 ((ki : Int) - cy - ql) = D from by rw [hD]; unfold wrap64; omega)
      obtain ⟨dd, hdd⟩ : ∃ d : Nat, (d : Int) = D % 65536 := ⟨(D % 65536).toNat, by omega⟩
      obtain ⟨cq, hcq⟩ : ∃ c : Nat, (c : Int) = -(D / 65536) := ⟨(-(D / 65536)).toNat, by omega⟩
      have AN := Lz (show bits BinOp.and IntKind.i64 D 65535 = (dd : Int) from by rw [and16i, hdd])
      have NG := Lz (show wrap64 (-(D / 65536)) = (cq : Int) from wrapN hcq.symm (by omega))
      have HN := Lz (show i + 1 ≤ n ∧ cq ≤ q + 1 ∧ (os ++ [dd]).length = i + 1 ∧ Wb (os ++ [dd]) ∧ bval (os ++ [dd]) + q * bval (Y.take (i + 1)) = bval (rs.take (i + 1)) + B16 ^ (i + 1) * cq from by
       obtain ⟨r1, r2, r3, r4, r5⟩ := HR.out
       refine ⟨by omega, by omega, by rw [List.length_append, r3]; rfl, r4.append (Wb.one (by unfold B16; omega)), ?_⟩
       exact take_step r3 r5 (by rw [← hki, ← hli, ← hql]; unfold B16; omega))
      have HDS := Lz (show DigB (wr.setCell ⟨b, i, .none⟩ (.int .i64 (dd : Nat))) b ((os ++ [dd]) ++ rs.drop (i + 1)) from by
       have := HD.out.set i dd
       rw [set_part HR.out.2.2.1 (by have := H.out.2.2.2.2.1; omega)] at this
       exact this)
      have HGS := Lz (show w.grownBy (wr.setCell ⟨b, i, .none⟩ (.int .i64 (dd : Nat))) (some b) from HG.out.trans (zzw wr b i _))
      have q1 := W1.out
      have q2 := WM.out
      have q5 := W2.out
      clear hli hql hD qlB qB lB him
      have q3 := AN.out
      have q4 := NG.out
      clear hki hdb hg HR hin kB cB hdd hcq
      go_wp2_with fail
      go_roundw
      case rel => exact ⟨i + 1, cq, os ++ [dd], by first | rfl | exact congrArg (Value.int .i64) NG.out, by first | rfl | go_num | exact congrArg (Value.int .i64) (wrapN (by omega) (by omega)), HDS.out, HGS.out, HN.out⟩
      case measure =>
       have := HN.out.1
       simp only [intOf]
       first | omega | (rw [show wrap64 ((i : Int) + 1) = ((i + 1 : Nat) : Int) from wrapN (by omega) (by omega)]; omega)
    · have i2 : ¬ (i : Int) < m := by omega
      obtain ⟨D, hD⟩ : ∃ D : Int, D = (ki : Int) - cy := ⟨_, rfl⟩
      have W1 := Lz (show wrap64 ((ki : Int) - cy) = D from by rw [hD]; exact W1.out)
      have hli : Y.getD i 0 = 0 := by rw [List.getD, List.getElem?_eq_none (by have := H.out.2.2.2.2.2.1; omega)]; rfl
      obtain ⟨dd, hdd⟩ : ∃ d : Nat, (d : Int) = D % 65536 := ⟨(D % 65536).toNat, by omega⟩
      obtain ⟨cq, hcq⟩ : ∃ c : Nat, (c : Int) = -(D / 65536) := ⟨(-(D / 65536)).toNat, by omega⟩
      have AN := Lz (show bits BinOp.and IntKind.i64 D 65535 = (dd : Int) from by rw [and16i, hdd])
      have NG := Lz (show wrap64 (-(D / 65536)) = (cq : Int) from wrapN hcq.symm (by omega))
      have HN := Lz (show i + 1 ≤ n ∧ cq ≤ q + 1 ∧ (os ++ [dd]).length = i + 1 ∧ Wb (os ++ [dd]) ∧ bval (os ++ [dd]) + q * bval (Y.take (i + 1)) = bval (rs.take (i + 1)) + B16 ^ (i + 1) * cq from by
       obtain ⟨r1, r2, r3, r4, r5⟩ := HR.out
       refine ⟨by omega, by omega, by rw [List.length_append, r3]; rfl, r4.append (Wb.one (by unfold B16; omega)), ?_⟩
       exact take_step r3 r5 (by rw [← hki, hli, Nat.mul_zero]; unfold B16; omega))
      have HDS := Lz (show DigB (wr.setCell ⟨b, i, .none⟩ (.int .i64 (dd : Nat))) b ((os ++ [dd]) ++ rs.drop (i + 1)) from by
       have := HD.out.set i dd
       rw [set_part HR.out.2.2.1 (by have := H.out.2.2.2.2.1; omega)] at this
       exact this)
      have HGS := Lz (show w.grownBy (wr.setCell ⟨b, i, .none⟩ (.int .i64 (dd : Nat))) (some b) from HG.out.trans (zzw wr b i _))
      have q1 := W1.out
      clear hli hD him
      have q3 := AN.out
      have q4 := NG.out
      clear hki hdb hg HR hin kB cB hdd hcq
      go_wp2_with fail
      go_roundw
      case rel => exact ⟨i + 1, cq, os ++ [dd], by first | rfl | exact congrArg (Value.int .i64) NG.out, by first | rfl | go_num | exact congrArg (Value.int .i64) (wrapN (by omega) (by omega)), HDS.out, HGS.out, HN.out⟩
      case measure =>
       have := HN.out.1
       simp only [intOf]
       first | omega | (rw [show wrap64 ((i : Int) + 1) = ((i + 1 : Nat) : Int) from wrapN (by omega) (by omega)]; omega)
  · have i1 : ¬ (i : Int) < n := by omega
    have HE := Lz (show TakeP b rs (q * M) w (.returned (.tuple #[])) wr from by
     obtain ⟨h2, hne, vM, hwY, hn, hm', hm, hle⟩ := H.out
     obtain ⟨r1, r2, r3, r4, r5⟩ := HR.out
     obtain rfl : i = n := by omega
     rw [List.take_of_length_le (by omega), List.take_of_length_le (by omega), vM] at r5
     have hlt := bval_lt os r4
     rw [r3] at hlt
     have hc0 : cy = 0 := by
      rcases Nat.eq_zero_or_pos cy with h0 | h0
      · exact h0
      · exfalso
        have : B16 ^ i * 1 ≤ B16 ^ i * cy := Nat.mul_le_mul_left _ h0
        omega
     rw [hc0, Nat.mul_zero, Nat.add_zero] at r5
     refine ⟨rfl, hg, os, ?_, by omega, r4, r5⟩
     have := hdb
     rw [List.drop_eq_nil_of_le (by omega), List.append_nil] at this
     exact this)
    clear hdb hg HR HD HG hin
    go_wp2_with fail
    first | go_end0 | refine bodyPost_ret (results_none rfl _ _ _) rfl ?_
    exact HE.out
end Go.Proofs.YtohhkjamddojmaaGreatDoor.Big
