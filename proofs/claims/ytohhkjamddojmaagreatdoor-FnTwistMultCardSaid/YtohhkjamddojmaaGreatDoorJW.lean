/- The twist's curve and its twist add alike: plain numbers. The law of sums on a twist's curve: its parts. -/
import Derived.Test.YtohhkjamddojmaaGreatDoorJS
import Derived.Test.YtohhkjamddojmaaGreatDoorJQ
namespace Go.Proofs.YtohhkjamddojmaaGreatDoor.Big
open EcLaw

/-- to the twist -/
def phi (p z : Nat) (x y : Nat) : Pt := .aff ((x * (z ^ 2 % p) % p : Nat) : Int) ((y * (z ^ 3 % p) % p : Nat) : Int)
theorem phi_dvd (p z x y : Nat) : (p : Int) ∣ ((x * (z ^ 2 % p) % p : Nat) : Int) - x * z ^ 2 ∧ (p : Int) ∣ ((y * (z ^ 3 % p) % p : Nat) : Int) - y * z ^ 3 := by
  constructor
  · have a1 := nmod (x * (z ^ 2 % p)) p
    have a2 := nmod (z ^ 2) p
    push_cast at a1 a2 ⊢
    exact lin2 1 (x : Int) a1 a2 (by grind)
  · have a1 := nmod (y * (z ^ 3 % p)) p
    have a2 := nmod (z ^ 3) p
    push_cast at a1 a2 ⊢
    exact lin2 1 (y : Int) a1 a2 (by grind)
/-- the coefficients -/
structure Coef (p b z A B : Nat) (w : Int) : Prop where
  prm : Prm (p : Int)
  inv : (p : Int) ∣ w * z - 1
  a : (p : Int) ∣ (A : Int) + 3 * w ^ 4
  b : (p : Int) ∣ (B : Int) - b * w ^ 6
theorem Coef.a4 {p b z A B : Nat} {w : Int} (h : Coef p b z A B w) : (p : Int) ∣ (z : Int) ^ 4 * A + 3 :=
  lin2 ((z : Int) ^ 4) (-3) h.a (u_pow h.inv 4) (by grind)
theorem Coef.z {p b z A B : Nat} {w : Int} (h : Coef p b z A B w) : ¬ (p : Int) ∣ z := fun e => h.prm.not1 (lin2 (-1) w h.inv e (by grind))
theorem phi_on {p b z A B x y : Nat} {w : Int} (h : Coef p b z A B w) (o : On p A B (.aff x y)) : On p (-3) b (phi p z x y) := by
  obtain ⟨c1, c2⟩ := phi_dvd p z x y
  have h0 := h.prm.two
  have core := (on_core (b := (b : Int)) c1 c2 h.a h.b h.inv).2 (by have := o.2.2.2.2; rwa [show (y : Int)^2 - ((x : Int)^3 + A * x + B) = y * y - (x * x * x + A * x + B) by grind] at this)
  refine ⟨by omega, Int.ofNat_lt.2 (Nat.mod_lt _ (by omega)), by omega, Int.ofNat_lt.2 (Nat.mod_lt _ (by omega)), ?_⟩
  generalize ((x * (z ^ 2 % p) % p : Nat) : Int) = X at *
  generalize ((y * (z ^ 3 % p) % p : Nat) : Int) = Y at *
  exact dvd_of_eq_mul (-1) core (by grind)
theorem phi_ne {p b z A B x y : Nat} {w : Int} (h : Coef p b z A B w) (hB : B ≠ 0) (hBp : B < p) (o : On p A B (.aff x y)) : ¬ (((x * (z ^ 2 % p) % p : Nat) : Int) = 0 ∧ ((y * (z ^ 3 % p) % p : Nat) : Int) = 0) := by
  rintro ⟨e1, e2⟩
  have ho := (phi_on h o).2.2.2.2
  rw [e1, e2] at ho
  have hb : (p : Int) ∣ (b : Int) := dvd_of_eq_mul (-1) ho (by grind)
  have hBd : (p : Int) ∣ (B : Int) := lin2 1 (w ^ 6) h.b hb (by grind)
  exact not_dvd_small (by omega) (by omega) (by omega) hBd
/-- sums are kept -/
theorem phi_add {p b z A B x1 y1 x2 y2 : Nat} {w : Int} (h : Coef p b z A B w) (o1 : On p A B (.aff x1 y1)) (o2 : On p A B (.aff x2 y2)) :
    (add p A (.aff x1 y1) (.aff x2 y2) = .inf ∧ add p (-3) (phi p z x1 y1) (phi p z x2 y2) = .inf) ∨ ∃ x3 y3 : Nat, add p A (.aff x1 y1) (.aff x2 y2) = .aff x3 y3 ∧ x3 < p ∧ y3 < p ∧ add p (-3) (phi p z x1 y1) (phi p z x2 y2) = phi p z x3 y3 := by
  have hz := h.z
  have hp := h.prm
  have h0 := hp.two
  obtain ⟨c1, d1⟩ := phi_dvd p z x1 y1
  obtain ⟨c2, d2⟩ := phi_dvd p z x2 y2
  have q1 := phi_on h o1
  have q2 := phi_on h o2
  unfold phi at *
  generalize ((x1 * (z ^ 2 % p) % p : Nat) : Int) = X1 at *
  generalize ((y1 * (z ^ 3 % p) % p : Nat) : Int) = Y1 at *
  generalize ((x2 * (z ^ 2 % p) % p : Nat) : Int) = X2 at *
  generalize ((y2 * (z ^ 3 % p) % p : Nat) : Int) = Y2 at *
  by_cases hopp : (p : Int) ∣ (x1 : Int) - x2 ∧ (p : Int) ∣ (y1 : Int) + y2
  · left
    refine ⟨add_opp hopp, add_opp ⟨?_, ?_⟩⟩
    · exact lin3 1 (-1) ((z : Int) ^ 2) c1 c2 hopp.1 (by grind)
    · exact lin3 1 1 ((z : Int) ^ 3) d1 d2 hopp.2 (by grind)
  · right
    obtain ⟨l, u, v, e, on3, hs, hu, hv⟩ := add_inv hp o1 o2 hopp
    have z2 := hp.nmul hz hz
    have z3 := hp.nmul z2 hz
    obtain ⟨x3, rfl⟩ : ∃ n : Nat, u = n := ⟨u.toNat, by have := on3.1; omega⟩
    obtain ⟨y3, rfl⟩ : ∃ n : Nat, v = n := ⟨v.toNat, by have := on3.2.2.1; omega⟩
    refine ⟨x3, y3, e, Int.ofNat_lt.1 on3.2.1, Int.ofNat_lt.1 on3.2.2.2.1, ?_⟩
    obtain ⟨c3, d3⟩ := phi_dvd p z x3 y3
    have r3 : 0 ≤ ((x3 * (z ^ 2 % p) % p : Nat) : Int) ∧ ((x3 * (z ^ 2 % p) % p : Nat) : Int) < p ∧ 0 ≤ ((y3 * (z ^ 3 % p) % p : Nat) : Int) ∧ ((y3 * (z ^ 3 % p) % p : Nat) : Int) < p := ⟨by omega, Int.ofNat_lt.2 (Nat.mod_lt _ (by omega)), by omega, Int.ofNat_lt.2 (Nat.mod_lt _ (by omega))⟩
    generalize ((x3 * (z ^ 2 % p) % p : Nat) : Int) = X3 at *
    generalize ((y3 * (z ^ 3 % p) % p : Nat) : Int) = Y3 at *
    have hSl : Sl (p : Int) (-3) X1 Y1 X2 Y2 (l * z) := by
      refine ⟨fun hh => hopp ⟨hp.cancel z2 ?_, hp.cancel z3 ?_⟩, ?_, ?_⟩
      · exact lin3 (-1) 1 1 c1 c2 hh.1 (by grind)
      · exact lin3 (-1) (-1) 1 d1 d2 hh.2 (by grind)
      · have t1 := lin2 (l * z) (-(l * z)) c1 c2 rfl
        have t2 := lin2 (-1) 1 d1 d2 rfl
        exact lin3 1 1 ((z : Int) ^ 3) t1 t2 hs.chord (by grind)
      · have t1 := lin2 (l * z) (l * z) d1 d2 rfl
        have t2 : (p : Int) ∣ (X1^2 + X1*X2 + X2^2) - (z : Int)^4 * ((x1 : Int)^2 + x1*x2 + (x2 : Int)^2) := lin2 (X1 + X2 + x2 * (z : Int)^2 - x2 * z^2 + x1 * z^2) (X2 + x2 * z^2 + x1 * z^2) c1 c2 (by grind)
        exact lin4 1 (-1) ((z : Int) ^ 4) 1 t1 t2 hs.tang h.a4 (by grind)
    refine add_is hp q1 q2 hSl r3 ?_ ?_
    · have t := lin3 1 1 1 c3 c1 c2 rfl
      exact lin2 1 ((z : Int) ^ 2) t hu (by grind)
    · have t := lin3 1 1 (-(l * z)) d3 d1 c1 rfl
      exact lin3 1 ((z : Int) ^ 3) (l * z) t hv c3 (by grind)
end Go.Proofs.YtohhkjamddojmaaGreatDoor.Big

namespace Go.Proofs.YtohhkjamddojmaaGreatDoor.Big
open Go.RowKit
open EcLaw (Pt Prm On)
attribute [local go_sem] ptr
attribute [local irreducible] Sz

theorem back_aff {p z x y X Y : Nat} (hx : x < p) (hy : y < p) (h : BackZ p z (phi p z x y) X Y) : X = x ∧ Y = y := by
  obtain ⟨t, ht, htd, U, V, ⟨rfl, rfl⟩, e1, e2⟩ := h
  have h1 : X = (x * (z ^ 2 % p) % p) * (t ^ 2 % p) % p := by
    apply Int.ofNat_inj.1
    rw [e1]; push_cast; rfl
  have h2 : Y = (y * (z ^ 3 % p) % p) * (t ^ 3 % p) % p := by
    apply Int.ofNat_inj.1
    rw [e2]; push_cast; rfl
  exact ⟨by rw [h1]; exact there_back hx htd, by rw [h2]; exact there_back hy htd⟩
theorem back_inf {p z X Y : Nat} (h : BackZ p z .inf X Y) : X = 0 ∧ Y = 0 := by
  obtain ⟨t, ht, htd, U, V, ⟨rfl, rfl⟩, e1, e2⟩ := h
  simp at e1 e2
  exact ⟨e1, e2⟩
theorem on_of {p A B x y : Nat} (hx : x < p) (hy : y < p) (h : onB p A B x y = true) : On p A B (.aff x y) := by
  refine ⟨by omega, by omega, by omega, by omega, ?_⟩
  unfold onB at h
  rw [beq_iff_eq, ← Int.ofNat_inj] at h
  push_cast at h
  rw [emod_iff] at h
  have a := nmod (x * x) p
  push_cast at a
  exact EcLaw.lin2 1 (x : Int) h a (by grind)
theorem coef_of {p b z i A B : Nat} (h5 : 5 ≤ p) (hP : NumLaw.IsP p) (z1 : 1 ≤ z) (zp : z < p) (hi : i = z ^ (p - 2) % p) (hA : A = (p - 3) * (i ^ 4 % p) % p) (hB : B = b * (i ^ 6 % p) % p) : Coef p b z A B (i : Int) := by
  refine ⟨prm_of hP (by omega), by rw [hi]; exact inv_of hP z1 zp, ?_, ?_⟩
  · have a1 := nmod ((p - 3) * (i ^ 4 % p)) p
    have a2 := nmod (i ^ 4) p
    rw [← hA] at a1
    have e : ((p - 3 : Nat) : Int) = (p : Int) - 3 := by omega
    have a3 : (p : Int) ∣ (p : Int) := Int.dvd_refl _
    rw [Int.natCast_mul, e] at a1
    push_cast at a1 a2
    exact EcLaw.lin3 1 (-3) ((i : Int) ^ 4 % p) a1 a2 a3 (by grind)
  · have a1 := nmod (b * (i ^ 6 % p)) p
    have a2 := nmod (i ^ 6) p
    rw [← hB] at a1
    push_cast at a1 a2
    exact EcLaw.lin2 1 (b : Int) a1 a2 (by grind)

section
variable {R : Nat → Prop} {w0 w w' : World} {L L' : List (Nat × Int)}
/-- On, of any numbers -/
def OnAny (R : Nat → Prop) (w0 : World) (p A B : Nat) (x y : Int) (e : Ending) (w' : World) : Prop :=
  ∃ v : Bool, e = .returned (.bool v) ∧ Own R w0 w' [] ∧ (v = true → ∃ xn yn : Nat, x = xn ∧ y = yn ∧ xn < p ∧ yn < p ∧ onB p A B xn yn = true)
set_option maxHeartbeats 4000000 in
set_option maxRecDepth 100000 in
theorem specOnAny (h : Own R w0 w []) (p A B : Nat) (x y : Int) (h5 : 5 ≤ p) (hp : p < 65536) (ha : A < p) (hb : B < p) :
    Calls Tryz.prog 40 #[.agg #[.int .i64 p, .int .i64 A, .int .i64 B], .int .i64 x, .int .i64 y] w (OnAny R w0 p A B x y) := by
  by_cases c1 : x < 0
  · have H := Lib.hid h
    clear h h5 hp ha hb
    go_enter Tryz.func40, Tryz.ntmps40
    go_wp2_with fail
    go_ret
    exact ⟨false, rfl, H.out.box _, fun e => by cases e⟩
  by_cases c2 : (p : Int) ≤ x
  · have H := Lib.hid h
    clear h h5 hp ha hb
    go_enter Tryz.func40, Tryz.ntmps40
    go_wp2_with fail
    go_ret
    exact ⟨false, rfl, H.out.box _, fun e => by cases e⟩
  by_cases c3 : y < 0
  · have H := Lib.hid h
    clear h h5 hp ha hb
    go_enter Tryz.func40, Tryz.ntmps40
    go_wp2_with fail
    go_ret
    exact ⟨false, rfl, H.out.box _, fun e => by cases e⟩
  by_cases c4 : (p : Int) ≤ y
  · have H := Lib.hid h
    clear h h5 hp ha hb
    go_enter Tryz.func40, Tryz.ntmps40
    go_wp2_with fail
    go_ret
    exact ⟨false, rfl, H.out.box _, fun e => by cases e⟩
  obtain ⟨xn, rfl⟩ : ∃ n : Nat, x = n := ⟨x.toNat, by omega⟩
  obtain ⟨yn, rfl⟩ : ∃ n : Nat, y = n := ⟨y.toNat, by omega⟩
  refine (specOnO h p A B xn yn h5 hp ha hb (by omega) (by omega)).mono ?_
  rintro e w' ⟨he, ho⟩
  exact ⟨_, he, ho, fun hv => ⟨xn, yn, rfl, rfl, by omega, by omega, hv⟩⟩
end
end Go.Proofs.YtohhkjamddojmaaGreatDoor.Big
