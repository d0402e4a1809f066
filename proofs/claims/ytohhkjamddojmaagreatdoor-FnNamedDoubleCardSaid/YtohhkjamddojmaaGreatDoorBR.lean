/- The specification's field: sums, differences, products modulo a number. IsSum of the specification, where it holds. -/
import Derived.Test.YtohhkjamddojmaaGreatDoorBP
import Derived.Test.YtohhkjamddojmaaGreatDoorQV
import Derived.Test.YtohhkjamddojmaaGreatDoorSB
import Derived.Test.YtohhkjamddojmaaGreatDoorDX
import Derived.Deep.RegionHeld3
namespace Go.Proofs.YtohhkjamddojmaaGreatDoor.Bit
open Go.RowKit
open Big

/-- a number's digits in a row -/
def Dg (w : World) (v : Value) (n : Nat) : Prop := ∃ p c, v = .slice p (bd n).length c ∧ RowI w p c (bd n)
theorem Dg.kept {w w' : World} {v : Value} {n : Nat} (h : Dg w v n) (k : w.grownBy w' .none) : Dg w' v n := by
 obtain ⟨p, c, e, r⟩ := h
 exact ⟨p, c, e, r.kept k⟩
theorem Dg.of {w w' : World} {n : Nat} {e : Ending} (h : BigP n w e w') : ∃ v, e = .returned v ∧ Dg w' v n ∧ w.grownBy w' .none := by
 obtain ⟨p, c, e, r, k⟩ := h
 exact ⟨_, e, ⟨p, c, rfl, r⟩, k⟩
def DgP (n : Nat) (w : World) (e : Ending) (w' : World) : Prop := ∃ v, e = .returned v ∧ Dg w' v n ∧ w.grownBy w' .none
theorem dg_len {n : Nat} (h : n < B16 ^ 40) : (bd n).length ≤ 40 := bd_length.2 h
/-- the prime of a field -/
structure Fd (P : Nat) : Prop where
 pos : 0 < P
 top : P < B16 ^ 16
theorem Fd.le {P a : Nat} (h : Fd P) (ha : a < P) : a < B16 ^ 16 := Nat.lt_trans ha h.top
theorem pow40 : B16 ^ 16 + B16 ^ 16 < B16 ^ 40 ∧ B16 ^ 16 * B16 ^ 16 < B16 ^ 40 := by decide +kernel
theorem plusD {w : World} {u v : Value} {P a b : Nat} (hP : Fd P) (hu : Dg w u a) (hv : Dg w v b) (ha : a < P) (hb : b ≤ P) : Calls Tryz.prog 110 #[u, v] w (DgP (a + b) w) := by
 obtain ⟨p, c, rfl, r⟩ := hu
 obtain ⟨p2, c2, rfl, r2⟩ := hv
 have h1 := dg_len (n := a) (by have := hP.le ha; have := pow40.1; omega)
 have h2 := dg_len (n := b) (by have := hP.top; have := pow40.1; omega)
 exact (plusS p p2 c c2 a b w r r2 (by omega) (by omega)).mono fun e w' h => Dg.of h
theorem prodD {w : World} {u v : Value} {P a b : Nat} (hP : Fd P) (hu : Dg w u a) (hv : Dg w v b) (ha : a < P) (hb : b < P) : Calls Tryz.prog 111 #[u, v] w (DgP (a * b) w) := by
 obtain ⟨p, c, rfl, r⟩ := hu
 obtain ⟨p2, c2, rfl, r2⟩ := hv
 have h1 := dg_len (n := a) (by have := hP.le ha; have := pow40.1; omega)
 have h2 := dg_len (n := b) (by have := hP.top; have := pow40.1; omega)
 exact (productS p p2 c c2 a b w r r2 (by omega) (by omega)).mono fun e w' h => Dg.of h
theorem minusD {w : World} {u v : Value} {P a b : Nat} (hP : Fd P) (hu : Dg w u a) (hv : Dg w v b) (ha : a < P + P) (hb : b ≤ a) : Calls Tryz.prog 23 #[u, v] w (DgP (a - b) w) := by
 obtain ⟨p, c, rfl, r⟩ := hu
 obtain ⟨p2, c2, rfl, r2⟩ := hv
 have h1 := dg_len (n := a) (by have := hP.top; have := pow40.1; omega)
 exact (minusS p p2 c c2 a b w r r2 hb (by omega)).mono fun e w' h => Dg.of h
theorem restD {w : World} {u v : Value} {P a : Nat} (hP : Fd P) (hu : Dg w u a) (hv : Dg w v P) (ha : a < B16 ^ 40) : Calls Tryz.prog 109 #[u, v] w (DgP (a % P) w) := by
 obtain ⟨p, c, rfl, r⟩ := hu
 obtain ⟨p2, c2, rfl, r2⟩ := hv
 have h1 := dg_len ha
 have h2 := dg_len (n := P) (by have := hP.top; have := pow40.1; omega)
 exact (restS p p2 c c2 a P w r r2 hP.pos (by omega) (by omega)).mono fun e w' h => Dg.of h
set_option maxHeartbeats 8000000 in
set_option maxRecDepth 100000 in
theorem addF {w : World} {f u v : Value} {P a b : Nat} (hP : Fd P) (hf : Dg w f P) (hu : Dg w u a) (hv : Dg w v b) (ha : a < P) (hb : b < P) : Calls Tryz.prog 65 #[.agg #[f], u, v] w (DgP (fa P a b) w) := by
 have n0 := heap_alloc_new w (.cells #[f] 39)
 have G0 := Lib.hid (grown_alloc w (.cells #[f] 39) .none)
 have q0 := block_cell (k := 0) n0 rfl
 have CC := Lib.hid (fun (w' : World) (k : (w.alloc (.cells #[f] 39)).grownBy w' .none) => (k.cell q0 (by simp) : w'.cell? ⟨w.heap.size, 0, .none⟩ = some f))
 have DD := Lib.hid (fun (w' : World) (k : (w.alloc (.cells #[f] 39)).grownBy w' .none) => (⟨hf.kept (G0.out.trans k), hu.kept (G0.out.trans k), hv.kept (G0.out.trans k)⟩ : Dg w' f P ∧ Dg w' u a ∧ Dg w' v b))
 have HH := Lib.hid (And.intro hP (And.intro ha hb))
 obtain ⟨pf, cf, rfl, -⟩ := hf
 obtain ⟨pu, cu, rfl, -⟩ := hu
 obtain ⟨pv, cv, rfl, -⟩ := hv
 clear hP ha hb n0
 go_enter Tryz.func65, Tryz.ntmps65
 go_upto_region 1 with fail
 generalize hw1 : w.alloc (.cells #[.slice pf (bd P).length cf] 39) = w1 at *
 go_region_held3 (fun w' => w'.cell? ⟨w.heap.size, 0, .none⟩ = some (.slice pf (bd P).length cf)) (go_keep) (first | (go_at_call 109; refine (restD HH.out.1 A1.out.2 (DD.out _ A1.out.1).1 (by have h := HH.out; have := h.1.top; have := pow40.1; omega)).mono ?_; rintro en u9 ⟨v9, rfl, d9, gr9⟩; have q0 := CC.out _ ((A1.out.1).trans gr9); have FIN := Lib.hid (⟨_, rfl, d9, G0.out.trans ((A1.out.1).trans gr9)⟩ : DgP _ w (.returned v9) u9); clear d9 gr9) | (go_at_call 110; refine (plusD HH.out.1 (DD.out _ (grown_drewN w1 _ .none)).2.1 (DD.out _ (grown_drewN w1 _ .none)).2.2 HH.out.2.1 (Nat.le_of_lt HH.out.2.2)).mono ?_; rintro en u1 ⟨v1, rfl, d1, gr1⟩; have gg := (grown_drewN w1 _ .none).trans gr1; have q0 := CC.out _ gg; have A1 := Lib.hid (And.intro gg d1); obtain ⟨p1, c1, rfl, -⟩ := d1; clear gr1 gg))
 go_wp2_with fail
 go_ret
 exact FIN.out
set_option maxHeartbeats 8000000 in
set_option maxRecDepth 100000 in
theorem mulF {w : World} {f u v : Value} {P a b : Nat} (hP : Fd P) (hf : Dg w f P) (hu : Dg w u a) (hv : Dg w v b) (ha : a < P) (hb : b < P) : Calls Tryz.prog 64 #[.agg #[f], u, v] w (DgP (fm P a b) w) := by
 have n0 := heap_alloc_new w (.cells #[f] 39)
 have G0 := Lib.hid (grown_alloc w (.cells #[f] 39) .none)
 have q0 := block_cell (k := 0) n0 rfl
 have CC := Lib.hid (fun (w' : World) (k : (w.alloc (.cells #[f] 39)).grownBy w' .none) => (k.cell q0 (by simp) : w'.cell? ⟨w.heap.size, 0, .none⟩ = some f))
 have DD := Lib.hid (fun (w' : World) (k : (w.alloc (.cells #[f] 39)).grownBy w' .none) => (⟨hf.kept (G0.out.trans k), hu.kept (G0.out.trans k), hv.kept (G0.out.trans k)⟩ : Dg w' f P ∧ Dg w' u a ∧ Dg w' v b))
 have HH := Lib.hid (And.intro hP (And.intro ha hb))
 obtain ⟨pf, cf, rfl, -⟩ := hf
 obtain ⟨pu, cu, rfl, -⟩ := hu
 obtain ⟨pv, cv, rfl, -⟩ := hv
 clear hP ha hb n0
 go_enter Tryz.func64, Tryz.ntmps64
 go_upto_region 1 with fail
 generalize hw1 : w.alloc (.cells #[.slice pf (bd P).length cf] 39) = w1 at *
 go_region_held3 (fun w' => w'.cell? ⟨w.heap.size, 0, .none⟩ = some (.slice pf (bd P).length cf)) (go_keep) (first | (go_at_call 109; refine (restD HH.out.1 A1.out.2 (DD.out _ A1.out.1).1 (by have h := HH.out; have h1 := h.1.le h.2.1; have h2 := h.1.le h.2.2; exact Nat.lt_of_le_of_lt (Nat.mul_le_mul (Nat.le_of_lt h1) (Nat.le_of_lt h2)) pow40.2)).mono ?_; rintro en u9 ⟨v9, rfl, d9, gr9⟩; have q0 := CC.out _ ((A1.out.1).trans gr9); have FIN := Lib.hid (⟨_, rfl, d9, G0.out.trans ((A1.out.1).trans gr9)⟩ : DgP _ w (.returned v9) u9); clear d9 gr9) | (go_at_call 111; refine (prodD HH.out.1 (DD.out _ (grown_drewN w1 _ .none)).2.1 (DD.out _ (grown_drewN w1 _ .none)).2.2 HH.out.2.1 HH.out.2.2).mono ?_; rintro en u1 ⟨v1, rfl, d1, gr1⟩; have gg := (grown_drewN w1 _ .none).trans gr1; have q0 := CC.out _ gg; have A1 := Lib.hid (And.intro gg d1); obtain ⟨p1, c1, rfl, -⟩ := d1; clear gr1 gg))
 go_wp2_with fail
 go_ret
 exact FIN.out
set_option maxHeartbeats 8000000 in
set_option maxRecDepth 100000 in
theorem subF {w : World} {f u v : Value} {P a b : Nat} (hP : Fd P) (hf : Dg w f P) (hu : Dg w u a) (hv : Dg w v b) (ha : a < P) (hb : b ≤ P) : Calls Tryz.prog 63 #[.agg #[f], u, v] w (DgP (fs P a b) w) := by
 have n0 := heap_alloc_new w (.cells #[f] 39)
 have G0 := Lib.hid (grown_alloc w (.cells #[f] 39) .none)
 have q0 := block_cell (k := 0) n0 rfl
 have CC := Lib.hid (fun (w' : World) (k : (w.alloc (.cells #[f] 39)).grownBy w' .none) => (k.cell q0 (by simp) : w'.cell? ⟨w.heap.size, 0, .none⟩ = some f))
 have DD := Lib.hid (fun (w' : World) (k : (w.alloc (.cells #[f] 39)).grownBy w' .none) => (⟨hf.kept (G0.out.trans k), hu.kept (G0.out.trans k), hv.kept (G0.out.trans k)⟩ : Dg w' f P ∧ Dg w' u a ∧ Dg w' v b))
 have HH := Lib.hid (And.intro hP (And.intro ha hb))
 obtain ⟨pf, cf, rfl, -⟩ := hf
 obtain ⟨pu, cu, rfl, -⟩ := hu
 obtain ⟨pv, cv, rfl, -⟩ := hv
 clear hP ha hb n0
 go_enter Tryz.func63, Tryz.ntmps63
 go_upto_region 1 with fail
 generalize hw1 : w.alloc (.cells #[.slice pf (bd P).length cf] 39) = w1 at *
 go_region_held3 (fun w' => w'.cell? ⟨w.heap.size, 0, .none⟩ = some (.slice pf (bd P).length cf)) (go_keep) (first | (go_at_call 109; refine (restD HH.out.1 A2.out.2 (DD.out _ A2.out.1).1 (by have h := HH.out; have := h.1.top; have := pow40.1; omega)).mono ?_; rintro en u9 ⟨v9, rfl, d9, gr9⟩; have q0 := CC.out _ ((A2.out.1).trans gr9); have FIN := Lib.hid (⟨_, rfl, d9, G0.out.trans ((A2.out.1).trans gr9)⟩ : DgP _ w (.returned v9) u9); clear d9 gr9) | (go_at_call 23; refine (minusD HH.out.1 A1.out.2 (DD.out _ A1.out.1).2.2 (by have h := HH.out; have := h.1.pos; omega) (by have h := HH.out; omega)).mono ?_; rintro en u2 ⟨v2, rfl, d2, gr2⟩; have gg := A1.out.1.trans gr2; have q0 := CC.out _ gg; have A2 := Lib.hid (And.intro gg d2); obtain ⟨p2, c2, rfl, -⟩ := d2; clear gr2 gg) | (go_at_call 110; refine (plusD HH.out.1 (DD.out _ (grown_drewN w1 _ .none)).2.1 (DD.out _ (grown_drewN w1 _ .none)).1 HH.out.2.1 (Nat.le_refl _)).mono ?_; rintro en u1 ⟨v1, rfl, d1, gr1⟩; have gg := (grown_drewN w1 _ .none).trans gr1; have q0 := CC.out _ gg; have A1 := Lib.hid (And.intro gg d1); obtain ⟨p1, c1, rfl, -⟩ := d1; clear gr1 gg))
 go_wp2_with fail
 go_ret
 exact FIN.out
end Go.Proofs.YtohhkjamddojmaaGreatDoor.Bit

namespace Go.Proofs.YtohhkjamddojmaaGreatDoor.Bit
open Go.RowKit
open Big

theorem addE {w : World} {f u v : Value} {P a b n : Nat} (hn : n = fa P a b) (hP : Fd P) (hf : Dg w f P) (hu : Dg w u a) (hv : Dg w v b) (ha : a < P) (hb : b < P) : Calls Tryz.prog 65 #[.agg #[f], u, v] w (DgP n w) := hn ▸ addF hP hf hu hv ha hb
theorem subE {w : World} {f u v : Value} {P a b n : Nat} (hn : n = fs P a b) (hP : Fd P) (hf : Dg w f P) (hu : Dg w u a) (hv : Dg w v b) (ha : a < P) (hb : b < P) : Calls Tryz.prog 63 #[.agg #[f], u, v] w (DgP n w) := hn ▸ subF hP hf hu hv ha (Nat.le_of_lt hb)
theorem mulE {w : World} {f u v : Value} {P a b n : Nat} (hn : n = fm P a b) (hP : Fd P) (hf : Dg w f P) (hu : Dg w u a) (hv : Dg w v b) (ha : a < P) (hb : b < P) : Calls Tryz.prog 64 #[.agg #[f], u, v] w (DgP n w) := hn ▸ mulF hP hf hu hv ha hb
theorem eqD {w : World} {u v : Value} {n m : Nat} (he : n = m) (hu : Dg w u n) (hv : Dg w v m) : Calls Tryz.prog 22 #[u, v] w (fun e w' => e = .returned (.int .i64 0) ∧ w.grownBy w' .none) := by
 subst he
 obtain ⟨p, c, rfl, r⟩ := hu
 obtain ⟨p2, c2, rfl, r2⟩ := hv
 refine (compareS p p2 c c2 n n w r r2).mono ?_
 rintro e w' ⟨rfl, d, rfl⟩
 rw [sgn_eq1]
 exact ⟨rfl, grown_drewN w d .none⟩
set_option maxHeartbeats 16000000 in
set_option maxRecDepth 100000 in
theorem isSumT {w : World} {f va vx1 vy1 vx2 vy2 vx3 vy3 : Value} {P A x1 y1 x2 y2 x3 y3 : Nat} (hP : Fd P) (hf : Dg w f P) (dA : Dg w va A) (dx1 : Dg w vx1 x1) (dy1 : Dg w vy1 y1) (dx2 : Dg w vx2 x2) (dy2 : Dg w vy2 y2) (dx3 : Dg w vx3 x3) (dy3 : Dg w vy3 y3) (lA : A < P) (lx1 : x1 < P) (ly1 : y1 < P) (lx2 : x2 < P) (ly2 : y2 < P) (lx3 : x3 < P) (ly3 : y3 < P) (hs : isSum P A x1 y1 x2 y2 x3 y3 true = true) :
 Calls Tryz.prog 21 #[.agg #[f], va, vx1, vy1, vx2, vy2, vx3, vy3, .bool true] w (fun e w' => e = .returned (.bool true) ∧ w.grownBy w' .none) := by
 obtain ⟨n1, hn1⟩ : ∃ n, n = fs P y2 y1 := ⟨_, rfl⟩
 obtain ⟨n2, hn2⟩ : ∃ n, n = fs P x2 x1 := ⟨_, rfl⟩
 obtain ⟨n3, hn3⟩ : ∃ n, n = fm P x1 x1 := ⟨_, rfl⟩
 obtain ⟨n4, hn4⟩ : ∃ n, n = fa P n3 n3 := ⟨_, rfl⟩
 obtain ⟨n5, hn5⟩ : ∃ n, n = fa P n4 n3 := ⟨_, rfl⟩
 obtain ⟨n6, hn6⟩ : ∃ n, n = fa P n5 A := ⟨_, rfl⟩
 obtain ⟨n7, hn7⟩ : ∃ n, n = fa P y1 y1 := ⟨_, rfl⟩
 obtain ⟨m1, hm1⟩ : ∃ n, n = fa P x1 x2 := ⟨_, rfl⟩
 obtain ⟨m2, hm2⟩ : ∃ n, n = fa P m1 x3 := ⟨_, rfl⟩
 obtain ⟨m3, hm3⟩ : ∃ n, n = fm P n7 n7 := ⟨_, rfl⟩
 obtain ⟨m4, hm4⟩ : ∃ n, n = fm P m2 m3 := ⟨_, rfl⟩
 obtain ⟨m5, hm5⟩ : ∃ n, n = fm P n6 n6 := ⟨_, rfl⟩
 obtain ⟨k1, hk1⟩ : ∃ n, n = fa P y1 y3 := ⟨_, rfl⟩
 obtain ⟨k2, hk2⟩ : ∃ n, n = fm P k1 n7 := ⟨_, rfl⟩
 obtain ⟨k3, hk3⟩ : ∃ n, n = fs P x1 x3 := ⟨_, rfl⟩
 obtain ⟨k4, hk4⟩ : ∃ n, n = fm P n6 k3 := ⟨_, rfl⟩
 have hE : m4 = m5 ∧ k2 = k4 := by
  unfold isSum at hs
  simp only [if_true, Bool.and_eq_true, beq_iff_eq] at hs
  subst hk4 hk3 hk2 hk1 hm5 hm4 hm3 hm2 hm1 hn7 hn6 hn5 hn4 hn3 hn2 hn1
  exact hs
 have HE := Lib.hid hE
 have HN := Lib.hid (show n1 = fs P y2 y1 ∧ n2 = fs P x2 x1 ∧ n3 = fm P x1 x1 ∧ n4 = fa P n3 n3 ∧ n5 = fa P n4 n3 ∧ n6 = fa P n5 A ∧ n7 = fa P y1 y1 ∧ m1 = fa P x1 x2 ∧ m2 = fa P m1 x3 ∧ m3 = fm P n7 n7 ∧ m4 = fm P m2 m3 ∧ m5 = fm P n6 n6 ∧ k1 = fa P y1 y3 ∧ k2 = fm P k1 n7 ∧ k3 = fs P x1 x3 ∧ k4 = fm P n6 k3 from ⟨hn1, hn2, hn3, hn4, hn5, hn6, hn7, hm1, hm2, hm3, hm4, hm5, hk1, hk2, hk3, hk4⟩)
 have HL := Lib.hid (show A < P ∧ x1 < P ∧ y1 < P ∧ x2 < P ∧ y2 < P ∧ x3 < P ∧ y3 < P ∧ n1 < P ∧ n2 < P ∧ n3 < P ∧ n4 < P ∧ n5 < P ∧ n6 < P ∧ n7 < P ∧ m1 < P ∧ m2 < P ∧ m3 < P ∧ m4 < P ∧ m5 < P ∧ k1 < P ∧ k2 < P ∧ k3 < P ∧ k4 < P from ⟨lA, lx1, ly1, lx2, ly2, lx3, ly3, by rw [hn1]; exact fs_lt hP.pos, by rw [hn2]; exact fs_lt hP.pos, by rw [hn3]; exact fm_lt hP.pos, by rw [hn4]; exact fa_lt hP.pos, by rw [hn5]; exact fa_lt hP.pos, by rw [hn6]; exact fa_lt hP.pos, by rw [hn7]; exact fa_lt hP.pos, by rw [hm1]; exact fa_lt hP.pos, by rw [hm2]; exact fa_lt hP.pos, by rw [hm3]; exact fm_lt hP.pos, by rw [hm4]; exact fm_lt hP.pos, by rw [hm5]; exact fm_lt hP.pos, by rw [hk1]; exact fa_lt hP.pos, by rw [hk2]; exact fm_lt hP.pos, by rw [hk3]; exact fs_lt hP.pos, by rw [hk4]; exact fm_lt hP.pos⟩)
 have HP := Lib.hid hP
 have n0 := heap_alloc_new w (.cells #[f] 39)
 have G0 := Lib.hid (grown_alloc w (.cells #[f] 39) .none)
 have q0 := block_cell (k := 0) n0 rfl
 have CC := Lib.hid (fun (w' : World) (k : (w.alloc (.cells #[f] 39)).grownBy w' .none) => (k.cell q0 (by simp) : w'.cell? ⟨w.heap.size, 0, .none⟩ = some f))
 have DD := Lib.hid (fun (w' : World) (k : (w.alloc (.cells #[f] 39)).grownBy w' .none) => (⟨hf.kept (G0.out.trans k), dA.kept (G0.out.trans k), dx1.kept (G0.out.trans k), dy1.kept (G0.out.trans k), dx2.kept (G0.out.trans k), dy2.kept (G0.out.trans k), dx3.kept (G0.out.trans k), dy3.kept (G0.out.trans k)⟩ : Dg w' f P ∧ Dg w' va A ∧ Dg w' vx1 x1 ∧ Dg w' vy1 y1 ∧ Dg w' vx2 x2 ∧ Dg w' vy2 y2 ∧ Dg w' vx3 x3 ∧ Dg w' vy3 y3))
 obtain ⟨pf, cf, rfl, -⟩ := hf
 obtain ⟨pA, cA, rfl, -⟩ := dA
 obtain ⟨px1, cx1, rfl, -⟩ := dx1
 obtain ⟨py1, cy1, rfl, -⟩ := dy1
 obtain ⟨px2, cx2, rfl, -⟩ := dx2
 obtain ⟨py2, cy2, rfl, -⟩ := dy2
 obtain ⟨px3, cx3, rfl, -⟩ := dx3
 obtain ⟨py3, cy3, rfl, -⟩ := dy3
 clear hP hE hs n0 lA lx1 ly1 lx2 ly2 lx3 ly3 hn1 hn2 hn3 hn4 hn5 hn6 hn7 hm1 hm2 hm3 hm4 hm5 hk1 hk2 hk3 hk4
 go_enter Tryz.func21, Tryz.ntmps21
 go_upto_region 1 with fail
 generalize hw1 : w.alloc (.cells #[.slice pf (bd P).length cf] 39) = w1 at *
 go_region_held3 (fun w' => w'.cell? ⟨w.heap.size, 0, .none⟩ = some (.slice pf (bd P).length cf)) (go_keep) (first | (go_at_call 63; refine (subE HN.out.2.1 HP.out (DD.out _ A1.out.1).1 (DD.out _ A1.out.1).2.2.2.2.1 (DD.out _ A1.out.1).2.2.1 HL.out.2.2.2.1 HL.out.2.1).mono ?_; rintro en u2 ⟨vn2, rfl, en2, gr2⟩; have q0 := CC.out _ ((A1.out.1).trans gr2); have A2 := Lib.hid (And.intro ((A1.out.1).trans gr2) (And.intro (A1.out.2.kept gr2) en2)); obtain ⟨pn2, cn2, rfl, -⟩ := en2; clear gr2) | (go_at_call 63; refine (subE HN.out.1 HP.out (DD.out _ (grown_drewN w1 _ .none)).1 (DD.out _ (grown_drewN w1 _ .none)).2.2.2.2.2.1 (DD.out _ (grown_drewN w1 _ .none)).2.2.2.1 HL.out.2.2.2.2.1 HL.out.2.2.1).mono ?_; rintro en u1 ⟨vn1, rfl, en1, gr1⟩; have q0 := CC.out _ (((grown_drewN w1 _ .none)).trans gr1); have A1 := Lib.hid (And.intro (((grown_drewN w1 _ .none)).trans gr1) en1); obtain ⟨pn1, cn1, rfl, -⟩ := en1; clear gr1))
 go_wp2_with fail
 refine (mulE HN.out.2.2.1 HP.out (DD.out _ (A2.out.1)).1 (DD.out _ (A2.out.1)).2.2.1 (DD.out _ (A2.out.1)).2.2.1 HL.out.2.1 HL.out.2.1).mono ?_
 rintro en u3 ⟨vn3, rfl, en3, gr3⟩
 have q0 := CC.out _ (((A2.out.1)).trans gr3)
 have A3 := Lib.hid (And.intro (((A2.out.1)).trans gr3) (And.intro (A2.out.2.1.kept gr3) (And.intro (A2.out.2.2.kept gr3) en3)))
 obtain ⟨pn3, cn3, rfl, -⟩ := en3
 clear gr3
 go_upto_region 4 with fail
 go_region_held3 (fun w' => w'.cell? ⟨w.heap.size, 0, .none⟩ = some (.slice pf (bd P).length cf)) (go_keep) (first | (go_at_call 65; refine (addE HN.out.2.2.2.2.2.2.1 HP.out (DD.out _ A6.out.1).1 (DD.out _ A6.out.1).2.2.2.1 (DD.out _ A6.out.1).2.2.2.1 HL.out.2.2.1 HL.out.2.2.1).mono ?_; rintro en u7 ⟨vn7, rfl, en7, gr7⟩; have q0 := CC.out _ ((A6.out.1).trans gr7); have A7 := Lib.hid (And.intro ((A6.out.1).trans gr7) (And.intro (A6.out.2.1.kept gr7) (And.intro (A6.out.2.2.1.kept gr7) (And.intro (A6.out.2.2.2.1.kept gr7) (And.intro (A6.out.2.2.2.2.1.kept gr7) (And.intro (A6.out.2.2.2.2.2.1.kept gr7) (And.intro (A6.out.2.2.2.2.2.2.kept gr7) en7))))))); obtain ⟨pn7, cn7, rfl, -⟩ := en7; clear gr7) | (go_at_call 65; refine (addE HN.out.2.2.2.2.2.1 HP.out (DD.out _ A5.out.1).1 A5.out.2.2.2.2.2 (DD.out _ A5.out.1).2.1 HL.out.2.2.2.2.2.2.2.2.2.2.2.1 HL.out.1).mono ?_; rintro en u6 ⟨vn6, rfl, en6, gr6⟩; have q0 := CC.out _ ((A5.out.1).trans gr6); have A6 := Lib.hid (And.intro ((A5.out.1).trans gr6) (And.intro (A5.out.2.1.kept gr6) (And.intro (A5.out.2.2.1.kept gr6) (And.intro (A5.out.2.2.2.1.kept gr6) (And.intro (A5.out.2.2.2.2.1.kept gr6) (And.intro (A5.out.2.2.2.2.2.kept gr6) en6)))))); obtain ⟨pn6, cn6, rfl, -⟩ := en6; clear gr6) | (go_at_call 65; refine (addE HN.out.2.2.2.2.1 HP.out (DD.out _ A4.out.1).1 A4.out.2.2.2.2 A4.out.2.2.2.1 HL.out.2.2.2.2.2.2.2.2.2.2.1 HL.out.2.2.2.2.2.2.2.2.2.1).mono ?_; rintro en u5 ⟨vn5, rfl, en5, gr5⟩; have q0 := CC.out _ ((A4.out.1).trans gr5); have A5 := Lib.hid (And.intro ((A4.out.1).trans gr5) (And.intro (A4.out.2.1.kept gr5) (And.intro (A4.out.2.2.1.kept gr5) (And.intro (A4.out.2.2.2.1.kept gr5) (And.intro (A4.out.2.2.2.2.kept gr5) en5))))); obtain ⟨pn5, cn5, rfl, -⟩ := en5; clear gr5) | (go_at_call 65; refine (addE HN.out.2.2.2.1 HP.out (DD.out _ (A3.out.1.trans (grown_drewN u3 _ .none))).1 (A3.out.2.2.2.kept (grown_drewN u3 _ .none)) (A3.out.2.2.2.kept (grown_drewN u3 _ .none)) HL.out.2.2.2.2.2.2.2.2.2.1 HL.out.2.2.2.2.2.2.2.2.2.1).mono ?_; rintro en u4 ⟨vn4, rfl, en4, gr4⟩; have q0 := CC.out _ (((A3.out.1.trans (grown_drewN u3 _ .none))).trans gr4); have A4 := Lib.hid (And.intro (((A3.out.1.trans (grown_drewN u3 _ .none))).trans gr4) (And.intro (A3.out.2.1.kept ((grown_drewN u3 _ .none).trans gr4)) (And.intro (A3.out.2.2.1.kept ((grown_drewN u3 _ .none).trans gr4)) (And.intro (A3.out.2.2.2.kept ((grown_drewN u3 _ .none).trans gr4)) en4)))); obtain ⟨pn4, cn4, rfl, -⟩ := en4; clear gr4))
 go_upto_region 5 with fail
 go_region_held3 (fun w' => w'.cell? ⟨w.heap.size, 0, .none⟩ = some (.slice pf (bd P).length cf)) (go_keep) (first | (go_at_call 22; refine (eqD HE.out.1 A12.out.2.2.2.2.2.2.2.2.2.2.2.1 A12.out.2.2.2.2.2.2.2.2.2.2.2.2).mono ?_; rintro en u13 ⟨rfl, gr13⟩; have q0 := CC.out _ ((A12.out.1).trans gr13); have A13 := Lib.hid (And.intro ((A12.out.1).trans gr13) (And.intro (A12.out.2.1.kept gr13) (And.intro (A12.out.2.2.1.kept gr13) (And.intro (A12.out.2.2.2.1.kept gr13) (And.intro (A12.out.2.2.2.2.1.kept gr13) (And.intro (A12.out.2.2.2.2.2.1.kept gr13) (And.intro (A12.out.2.2.2.2.2.2.1.kept gr13) (And.intro (A12.out.2.2.2.2.2.2.2.1.kept gr13) (And.intro (A12.out.2.2.2.2.2.2.2.2.1.kept gr13) (And.intro (A12.out.2.2.2.2.2.2.2.2.2.1.kept gr13) (And.intro (A12.out.2.2.2.2.2.2.2.2.2.2.1.kept gr13) (And.intro (A12.out.2.2.2.2.2.2.2.2.2.2.2.1.kept gr13) (A12.out.2.2.2.2.2.2.2.2.2.2.2.2.kept gr13))))))))))))); clear gr13) | (go_at_call 64; refine (mulE HN.out.2.2.2.2.2.2.2.2.2.2.2.1 HP.out (DD.out _ A11.out.1).1 A11.out.2.2.2.2.2.2.1 A11.out.2.2.2.2.2.2.1 HL.out.2.2.2.2.2.2.2.2.2.2.2.2.1 HL.out.2.2.2.2.2.2.2.2.2.2.2.2.1).mono ?_; rintro en u12 ⟨vm5, rfl, em5, gr12⟩; have q0 := CC.out _ ((A11.out.1).trans gr12); have A12 := Lib.hid (And.intro ((A11.out.1).trans gr12) (And.intro (A11.out.2.1.kept gr12) (And.intro (A11.out.2.2.1.kept gr12) (And.intro (A11.out.2.2.2.1.kept gr12) (And.intro (A11.out.2.2.2.2.1.kept gr12) (And.intro (A11.out.2.2.2.2.2.1.kept gr12) (And.intro (A11.out.2.2.2.2.2.2.1.kept gr12) (And.intro (A11.out.2.2.2.2.2.2.2.1.kept gr12) (And.intro (A11.out.2.2.2.2.2.2.2.2.1.kept gr12) (And.intro (A11.out.2.2.2.2.2.2.2.2.2.1.kept gr12) (And.intro (A11.out.2.2.2.2.2.2.2.2.2.2.1.kept gr12) (And.intro (A11.out.2.2.2.2.2.2.2.2.2.2.2.kept gr12) em5)))))))))))); obtain ⟨pm5, cm5, rfl, -⟩ := em5; clear gr12) | (go_at_call 64; refine (mulE HN.out.2.2.2.2.2.2.2.2.2.2.1 HP.out (DD.out _ A10.out.1).1 A10.out.2.2.2.2.2.2.2.2.2.1 A10.out.2.2.2.2.2.2.2.2.2.2 HL.out.2.2.2.2.2.2.2.2.2.2.2.2.2.2.2.1 HL.out.2.2.2.2.2.2.2.2.2.2.2.2.2.2.2.2.1).mono ?_; rintro en u11 ⟨vm4, rfl, em4, gr11⟩; have q0 := CC.out _ ((A10.out.1).trans gr11); have A11 := Lib.hid (And.intro ((A10.out.1).trans gr11) (And.intro (A10.out.2.1.kept gr11) (And.intro (A10.out.2.2.1.kept gr11) (And.intro (A10.out.2.2.2.1.kept gr11) (And.intro (A10.out.2.2.2.2.1.kept gr11) (And.intro (A10.out.2.2.2.2.2.1.kept gr11) (And.intro (A10.out.2.2.2.2.2.2.1.kept gr11) (And.intro (A10.out.2.2.2.2.2.2.2.1.kept gr11) (And.intro (A10.out.2.2.2.2.2.2.2.2.1.kept gr11) (And.intro (A10.out.2.2.2.2.2.2.2.2.2.1.kept gr11) (And.intro (A10.out.2.2.2.2.2.2.2.2.2.2.kept gr11) em4))))))))))); obtain ⟨pm4, cm4, rfl, -⟩ := em4; clear gr11) | (go_at_call 64; refine (mulE HN.out.2.2.2.2.2.2.2.2.2.1 HP.out (DD.out _ A9.out.1).1 A9.out.2.2.2.2.2.2.2.1 A9.out.2.2.2.2.2.2.2.1 HL.out.2.2.2.2.2.2.2.2.2.2.2.2.2.1 HL.out.2.2.2.2.2.2.2.2.2.2.2.2.2.1).mono ?_; rintro en u10 ⟨vm3, rfl, em3, gr10⟩; have q0 := CC.out _ ((A9.out.1).trans gr10); have A10 := Lib.hid (And.intro ((A9.out.1).trans gr10) (And.intro (A9.out.2.1.kept gr10) (And.intro (A9.out.2.2.1.kept gr10) (And.intro (A9.out.2.2.2.1.kept gr10) (And.intro (A9.out.2.2.2.2.1.kept gr10) (And.intro (A9.out.2.2.2.2.2.1.kept gr10) (And.intro (A9.out.2.2.2.2.2.2.1.kept gr10) (And.intro (A9.out.2.2.2.2.2.2.2.1.kept gr10) (And.intro (A9.out.2.2.2.2.2.2.2.2.1.kept gr10) (And.intro (A9.out.2.2.2.2.2.2.2.2.2.kept gr10) em3)))))))))); obtain ⟨pm3, cm3, rfl, -⟩ := em3; clear gr10) | (go_at_call 65; refine (addE HN.out.2.2.2.2.2.2.2.2.1 HP.out (DD.out _ A8.out.1).1 A8.out.2.2.2.2.2.2.2.2 (DD.out _ A8.out.1).2.2.2.2.2.2.1 HL.out.2.2.2.2.2.2.2.2.2.2.2.2.2.2.1 HL.out.2.2.2.2.2.1).mono ?_; rintro en u9 ⟨vm2, rfl, em2, gr9⟩; have q0 := CC.out _ ((A8.out.1).trans gr9); have A9 := Lib.hid (And.intro ((A8.out.1).trans gr9) (And.intro (A8.out.2.1.kept gr9) (And.intro (A8.out.2.2.1.kept gr9) (And.intro (A8.out.2.2.2.1.kept gr9) (And.intro (A8.out.2.2.2.2.1.kept gr9) (And.intro (A8.out.2.2.2.2.2.1.kept gr9) (And.intro (A8.out.2.2.2.2.2.2.1.kept gr9) (And.intro (A8.out.2.2.2.2.2.2.2.1.kept gr9) (And.intro (A8.out.2.2.2.2.2.2.2.2.kept gr9) em2))))))))); obtain ⟨pm2, cm2, rfl, -⟩ := em2; clear gr9) | (go_at_call 65; refine (addE HN.out.2.2.2.2.2.2.2.1 HP.out (DD.out _ (A7.out.1.trans (grown_drewN u7 _ .none))).1 (DD.out _ (A7.out.1.trans (grown_drewN u7 _ .none))).2.2.1 (DD.out _ (A7.out.1.trans (grown_drewN u7 _ .none))).2.2.2.2.1 HL.out.2.1 HL.out.2.2.2.1).mono ?_; rintro en u8 ⟨vm1, rfl, em1, gr8⟩; have q0 := CC.out _ (((A7.out.1.trans (grown_drewN u7 _ .none))).trans gr8); have A8 := Lib.hid (And.intro (((A7.out.1.trans (grown_drewN u7 _ .none))).trans gr8) (And.intro (A7.out.2.1.kept ((grown_drewN u7 _ .none).trans gr8)) (And.intro (A7.out.2.2.1.kept ((grown_drewN u7 _ .none).trans gr8)) (And.intro (A7.out.2.2.2.1.kept ((grown_drewN u7 _ .none).trans gr8)) (And.intro (A7.out.2.2.2.2.1.kept ((grown_drewN u7 _ .none).trans gr8)) (And.intro (A7.out.2.2.2.2.2.1.kept ((grown_drewN u7 _ .none).trans gr8)) (And.intro (A7.out.2.2.2.2.2.2.1.kept ((grown_drewN u7 _ .none).trans gr8)) (And.intro (A7.out.2.2.2.2.2.2.2.kept ((grown_drewN u7 _ .none).trans gr8)) em1)))))))); obtain ⟨pm1, cm1, rfl, -⟩ := em1; clear gr8))
 go_upto_region 6 with fail
 go_region_held3 (fun w' => w'.cell? ⟨w.heap.size, 0, .none⟩ = some (.slice pf (bd P).length cf)) (go_keep) (first | (go_at_call 22; refine (eqD HE.out.2 A17.out.2.2.2.2.2.2.2.2.2.2.2.2.2.2.1 A17.out.2.2.2.2.2.2.2.2.2.2.2.2.2.2.2.2).mono ?_; rintro en u18 ⟨rfl, gr18⟩; have q0 := CC.out _ ((A17.out.1).trans gr18); have A18 := Lib.hid (And.intro ((A17.out.1).trans gr18) (And.intro (A17.out.2.1.kept gr18) (And.intro (A17.out.2.2.1.kept gr18) (And.intro (A17.out.2.2.2.1.kept gr18) (And.intro (A17.out.2.2.2.2.1.kept gr18) (And.intro (A17.out.2.2.2.2.2.1.kept gr18) (And.intro (A17.out.2.2.2.2.2.2.1.kept gr18) (And.intro (A17.out.2.2.2.2.2.2.2.1.kept gr18) (And.intro (A17.out.2.2.2.2.2.2.2.2.1.kept gr18) (And.intro (A17.out.2.2.2.2.2.2.2.2.2.1.kept gr18) (And.intro (A17.out.2.2.2.2.2.2.2.2.2.2.1.kept gr18) (And.intro (A17.out.2.2.2.2.2.2.2.2.2.2.2.1.kept gr18) (And.intro (A17.out.2.2.2.2.2.2.2.2.2.2.2.2.1.kept gr18) (And.intro (A17.out.2.2.2.2.2.2.2.2.2.2.2.2.2.1.kept gr18) (And.intro (A17.out.2.2.2.2.2.2.2.2.2.2.2.2.2.2.1.kept gr18) (And.intro (A17.out.2.2.2.2.2.2.2.2.2.2.2.2.2.2.2.1.kept gr18) (A17.out.2.2.2.2.2.2.2.2.2.2.2.2.2.2.2.2.kept gr18))))))))))))))))); clear gr18) | (go_at_call 64; refine (mulE HN.out.2.2.2.2.2.2.2.2.2.2.2.2.2.2.2 HP.out (DD.out _ A16.out.1).1 A16.out.2.2.2.2.2.2.1 A16.out.2.2.2.2.2.2.2.2.2.2.2.2.2.2.2 HL.out.2.2.2.2.2.2.2.2.2.2.2.2.1 HL.out.2.2.2.2.2.2.2.2.2.2.2.2.2.2.2.2.2.2.2.2.2.1).mono ?_; rintro en u17 ⟨vk4, rfl, ek4, gr17⟩; have q0 := CC.out _ ((A16.out.1).trans gr17); have A17 := Lib.hid (And.intro ((A16.out.1).trans gr17) (And.intro (A16.out.2.1.kept gr17) (And.intro (A16.out.2.2.1.kept gr17) (And.intro (A16.out.2.2.2.1.kept gr17) (And.intro (A16.out.2.2.2.2.1.kept gr17) (And.intro (A16.out.2.2.2.2.2.1.kept gr17) (And.intro (A16.out.2.2.2.2.2.2.1.kept gr17) (And.intro (A16.out.2.2.2.2.2.2.2.1.kept gr17) (And.intro (A16.out.2.2.2.2.2.2.2.2.1.kept gr17) (And.intro (A16.out.2.2.2.2.2.2.2.2.2.1.kept gr17) (And.intro (A16.out.2.2.2.2.2.2.2.2.2.2.1.kept gr17) (And.intro (A16.out.2.2.2.2.2.2.2.2.2.2.2.1.kept gr17) (And.intro (A16.out.2.2.2.2.2.2.2.2.2.2.2.2.1.kept gr17) (And.intro (A16.out.2.2.2.2.2.2.2.2.2.2.2.2.2.1.kept gr17) (And.intro (A16.out.2.2.2.2.2.2.2.2.2.2.2.2.2.2.1.kept gr17) (And.intro (A16.out.2.2.2.2.2.2.2.2.2.2.2.2.2.2.2.kept gr17) ek4)))))))))))))))); obtain ⟨pk4, ck4, rfl, -⟩ := ek4; clear gr17) | (go_at_call 63; refine (subE HN.out.2.2.2.2.2.2.2.2.2.2.2.2.2.2.1 HP.out (DD.out _ A15.out.1).1 (DD.out _ A15.out.1).2.2.1 (DD.out _ A15.out.1).2.2.2.2.2.2.1 HL.out.2.1 HL.out.2.2.2.2.2.1).mono ?_; rintro en u16 ⟨vk3, rfl, ek3, gr16⟩; have q0 := CC.out _ ((A15.out.1).trans gr16); have A16 := Lib.hid (And.intro ((A15.out.1).trans gr16) (And.intro (A15.out.2.1.kept gr16) (And.intro (A15.out.2.2.1.kept gr16) (And.intro (A15.out.2.2.2.1.kept gr16) (And.intro (A15.out.2.2.2.2.1.kept gr16) (And.intro (A15.out.2.2.2.2.2.1.kept gr16) (And.intro (A15.out.2.2.2.2.2.2.1.kept gr16) (And.intro (A15.out.2.2.2.2.2.2.2.1.kept gr16) (And.intro (A15.out.2.2.2.2.2.2.2.2.1.kept gr16) (And.intro (A15.out.2.2.2.2.2.2.2.2.2.1.kept gr16) (And.intro (A15.out.2.2.2.2.2.2.2.2.2.2.1.kept gr16) (And.intro (A15.out.2.2.2.2.2.2.2.2.2.2.2.1.kept gr16) (And.intro (A15.out.2.2.2.2.2.2.2.2.2.2.2.2.1.kept gr16) (And.intro (A15.out.2.2.2.2.2.2.2.2.2.2.2.2.2.1.kept gr16) (And.intro (A15.out.2.2.2.2.2.2.2.2.2.2.2.2.2.2.kept gr16) ek3))))))))))))))); obtain ⟨pk3, ck3, rfl, -⟩ := ek3; clear gr16) | (go_at_call 64; refine (mulE HN.out.2.2.2.2.2.2.2.2.2.2.2.2.2.1 HP.out (DD.out _ A14.out.1).1 A14.out.2.2.2.2.2.2.2.2.2.2.2.2.2 A14.out.2.2.2.2.2.2.2.1 HL.out.2.2.2.2.2.2.2.2.2.2.2.2.2.2.2.2.2.2.2.1 HL.out.2.2.2.2.2.2.2.2.2.2.2.2.2.1).mono ?_; rintro en u15 ⟨vk2, rfl, ek2, gr15⟩; have q0 := CC.out _ ((A14.out.1).trans gr15); have A15 := Lib.hid (And.intro ((A14.out.1).trans gr15) (And.intro (A14.out.2.1.kept gr15) (And.intro (A14.out.2.2.1.kept gr15) (And.intro (A14.out.2.2.2.1.kept gr15) (And.intro (A14.out.2.2.2.2.1.kept gr15) (And.intro (A14.out.2.2.2.2.2.1.kept gr15) (And.intro (A14.out.2.2.2.2.2.2.1.kept gr15) (And.intro (A14.out.2.2.2.2.2.2.2.1.kept gr15) (And.intro (A14.out.2.2.2.2.2.2.2.2.1.kept gr15) (And.intro (A14.out.2.2.2.2.2.2.2.2.2.1.kept gr15) (And.intro (A14.out.2.2.2.2.2.2.2.2.2.2.1.kept gr15) (And.intro (A14.out.2.2.2.2.2.2.2.2.2.2.2.1.kept gr15) (And.intro (A14.out.2.2.2.2.2.2.2.2.2.2.2.2.1.kept gr15) (And.intro (A14.out.2.2.2.2.2.2.2.2.2.2.2.2.2.kept gr15) ek2)))))))))))))); obtain ⟨pk2, ck2, rfl, -⟩ := ek2; clear gr15) | (go_at_call 65; refine (addE HN.out.2.2.2.2.2.2.2.2.2.2.2.2.1 HP.out (DD.out _ (A13.out.1.trans (grown_drewN u13 _ .none))).1 (DD.out _ (A13.out.1.trans (grown_drewN u13 _ .none))).2.2.2.1 (DD.out _ (A13.out.1.trans (grown_drewN u13 _ .none))).2.2.2.2.2.2.2 HL.out.2.2.1 HL.out.2.2.2.2.2.2.1).mono ?_; rintro en u14 ⟨vk1, rfl, ek1, gr14⟩; have q0 := CC.out _ (((A13.out.1.trans (grown_drewN u13 _ .none))).trans gr14); have A14 := Lib.hid (And.intro (((A13.out.1.trans (grown_drewN u13 _ .none))).trans gr14) (And.intro (A13.out.2.1.kept ((grown_drewN u13 _ .none).trans gr14)) (And.intro (A13.out.2.2.1.kept ((grown_drewN u13 _ .none).trans gr14)) (And.intro (A13.out.2.2.2.1.kept ((grown_drewN u13 _ .none).trans gr14)) (And.intro (A13.out.2.2.2.2.1.kept ((grown_drewN u13 _ .none).trans gr14)) (And.intro (A13.out.2.2.2.2.2.1.kept ((grown_drewN u13 _ .none).trans gr14)) (And.intro (A13.out.2.2.2.2.2.2.1.kept ((grown_drewN u13 _ .none).trans gr14)) (And.intro (A13.out.2.2.2.2.2.2.2.1.kept ((grown_drewN u13 _ .none).trans gr14)) (And.intro (A13.out.2.2.2.2.2.2.2.2.1.kept ((grown_drewN u13 _ .none).trans gr14)) (And.intro (A13.out.2.2.2.2.2.2.2.2.2.1.kept ((grown_drewN u13 _ .none).trans gr14)) (And.intro (A13.out.2.2.2.2.2.2.2.2.2.2.1.kept ((grown_drewN u13 _ .none).trans gr14)) (And.intro (A13.out.2.2.2.2.2.2.2.2.2.2.2.1.kept ((grown_drewN u13 _ .none).trans gr14)) (And.intro (A13.out.2.2.2.2.2.2.2.2.2.2.2.2.kept ((grown_drewN u13 _ .none).trans gr14)) ek1))))))))))))); obtain ⟨pk1, ck1, rfl, -⟩ := ek1; clear gr14))
 have FIN := Lib.hid (G0.out.trans A18.out.1)
 go_wp2_with fail
 go_ret
 exact ⟨rfl, FIN.out⟩
end Go.Proofs.YtohhkjamddojmaaGreatDoor.Bit
