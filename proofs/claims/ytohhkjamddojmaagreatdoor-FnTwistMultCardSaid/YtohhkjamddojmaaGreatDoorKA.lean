/- Which twists are right: the discriminant too. Multiples of a point and of its image on the twist: plain numbers. -/
import Derived.Test.YtohhkjamddojmaaGreatDoorJW
namespace Go.Proofs.YtohhkjamddojmaaGreatDoor.Big
open Go.RowKit
attribute [local go_sem] ptr
attribute [local irreducible] Sz

/-- no double root, as the specification asks it -/
def Disc (p a b : Nat) : Prop := (4 * (a ^ 3 % p) + 27 * (b * b % p)) % p ≠ 0
section
variable {R : Nat → Prop} {w0 w w' : World} {L L' : List (Nat × Int)}
set_option maxHeartbeats 4000000 in
set_option maxRecDepth 100000 in
theorem rightO2 (h : Own R w0 w []) (p a : Nat) (b : Int) (h5 : 5 ≤ p) (hp : p < 65536) (ha : a < p) :
    Calls Tryz.prog 73 #[.agg #[.int .i64 p, .int .i64 a, .int .i64 b]] w (fun e w' => ∃ v : Bool, e = .returned (.bool v) ∧ Own R w0 w' [] ∧ (v = true → (0 ≤ b ∧ b < p) ∧ Disc p a b.toNat ∧ ∀ k, 2 ≤ k → k * k ≤ p → ¬ k ∣ p)) := by
  have H := Lib.hid h
  have i1 : ¬ (p : Int) < 5 := by omega
  have i2 : ¬ (1048576 : Int) < (p : Int) := by omega
  have i3 : ¬ (a : Int) < 0 := by omega
  have i4 : ¬ (p : Int) ≤ (a : Int) := by omega
  have HPR := Lib.hid (fun w : World => isPrimeS (w := w) p h5 (by omega))
  have P2 := Lib.hid (And.intro h5 hp)
  have HA := Lib.hid ha
  clear h ha h5 hp
  go_enter Tryz.func73, Tryz.ntmps73
  go_wp2_with fail
  refine (HPR.out _).mono ?_
  rintro e w1 ⟨v, rfl, rfl, hv⟩
  have HV := Lib.hid hv
  clear hv HPR
  rcases v with _ | _
  · go_wp2_with fail
    go_ret
    exact ⟨false, rfl, H.out.box _, (fun e => by cases e)⟩
  · by_cases b0 : b < 0
    · go_wp2_with fail
      go_ret
      exact ⟨false, rfl, H.out.box _, (fun e => by cases e)⟩
    · by_cases b1 : (p : Int) ≤ b
      · go_wp2_with fail
        go_ret
        exact ⟨false, rfl, H.out.box _, (fun e => by cases e)⟩
      · go_wp2_with fail
        obtain ⟨bn, rfl⟩ : ∃ bn : Nat, b = bn := ⟨b.toNat, by omega⟩
        have hA : a < p := HA.out
        obtain ⟨h5, hp⟩ := P2.out
        obtain ⟨c, hcp, hcd, hP3⟩ : ∃ c : Nat, c < p ∧ c = a ^ 3 % p ∧ ∀ w, Calls Tryz.prog 32 #[.int .i64 a, .int .i64 3, .int .i64 p] w (fun e w' => e = .returned (.int .i64 c) ∧ w' = w) := ⟨_, Nat.mod_lt _ (by omega), rfl, fun w => power3 a p hA (by omega) (by omega)⟩
        obtain ⟨f, hf, hfp, hfd⟩ : ∃ f : Nat, (wrap64 ((bn : Int) * bn)).tmod p = f ∧ f < p ∧ f = bn * bn % p := ⟨_, mulS bn bn p (by omega) (by omega), Nat.mod_lt _ (by omega), rfl⟩
        obtain ⟨c4, hc4, hc4l, h4d⟩ : ∃ c4 : Nat, wrap64 (4 * (c : Int)) = c4 ∧ c4 < 1000000 ∧ c4 = 4 * c := ⟨4 * c, by rw [wrapS (by omega)]; omega, by omega, rfl⟩
        obtain ⟨f27, hf27, hf27l, h27d⟩ : ∃ f27 : Nat, wrap64 (27 * (f : Int)) = f27 ∧ f27 < 10000000 ∧ f27 = 27 * f := ⟨27 * f, by rw [wrapS (by omega)]; omega, by omega, rfl⟩
        obtain ⟨n, hn, hnl, hnd⟩ : ∃ n : Nat, wrap64 ((c4 : Int) + f27) = n ∧ n < 20000000 ∧ n = c4 + f27 := ⟨c4 + f27, by rw [wrapS (by omega)]; omega, by omega, rfl⟩
        obtain ⟨m, hmd, hM⟩ : ∃ m : Nat, m = n % p ∧ ∀ w, Calls Tryz.prog 79 #[.int .i64 n, .int .i64 p] w (fun e w' => e = .returned (.int .i64 m) ∧ w' = w) := ⟨_, rfl, fun w => modS n p (by omega) (by omega) (by omega)⟩
        have HMD := Lib.hid (show m ≠ 0 → Disc p a (bn : Int).toNat by intro h; unfold Disc; rw [Int.toNat_natCast, ← hcd, ← hfd, ← h4d, ← h27d, ← hnd, ← hmd]; exact h)
        have HP3 := Lib.hid hP3
        have HM := Lib.hid hM
        clear hP3 hM hfp hcp hc4l hf27l hnl hp h5 hcd hfd h4d h27d hnd hmd
        go_quiet ((first | (go_at_call 32; exact quietC HP3.out _ _) | (go_at_call 79; exact quietC HM.out _ _)))
        go_wp2_with fail
        go_ret
        exact ⟨_, rfl, (H.out.box _).drew nq, (fun hm => ⟨⟨b0, b1⟩, HMD.out (by rintro rfl; simp at hm), HV.out trivial⟩)⟩

set_option maxHeartbeats 4000000 in
set_option maxRecDepth 100000 in
theorem isTwistO2 (h : Own R w0 w []) (p b z : Int) :
    Calls Tryz.prog 30 #[.agg #[.int .i64 p, .int .i64 b, .int .i64 z]] w (fun e w' => ∃ v : Bool, e = .returned (.bool v) ∧ Own R w0 w' [] ∧ (v = true → ∃ pn bn zn : Nat, p = pn ∧ b = bn ∧ z = zn ∧ 5 ≤ pn ∧ pn < 65536 ∧ 1 ≤ zn ∧ zn < pn ∧ bn < pn ∧ Disc pn (pn - 3) bn ∧ ∀ k, 2 ≤ k → k * k ≤ pn → ¬ k ∣ pn)) := by
  have H := Lib.hid h
  clear h
  by_cases c1 : p < 5
  · go_enter Tryz.func30, Tryz.ntmps30
    go_wp2_with fail
    go_ret
    exact .inl ⟨rfl, H.out.box _⟩
  by_cases c2 : 65536 ≤ p
  · go_enter Tryz.func30, Tryz.ntmps30
    go_wp2_with fail
    go_ret
    exact .inl ⟨rfl, H.out.box _⟩
  by_cases c3 : z < 1
  · go_enter Tryz.func30, Tryz.ntmps30
    go_wp2_with fail
    go_ret
    exact .inl ⟨rfl, H.out.box _⟩
  by_cases c4 : p ≤ z
  · go_enter Tryz.func30, Tryz.ntmps30
    go_wp2_with fail
    go_ret
    exact .inl ⟨rfl, H.out.box _⟩
  obtain ⟨pn, rfl⟩ : ∃ n : Nat, p = n := ⟨p.toNat, by omega⟩
  obtain ⟨zn, rfl⟩ : ∃ n : Nat, z = n := ⟨z.toNat, by omega⟩
  have PP := Lib.hid (show 5 ≤ pn ∧ pn < 65536 ∧ 1 ≤ zn ∧ zn < pn by omega)
  have HT := Lib.hid (twistedO (H.out.box (.cells #[.int .i64 pn, .int .i64 b, .int .i64 zn] 57)) pn b zn (by omega) (by omega))
  have g1 : ((pn : Int) ≥ 5) := by omega
  have g2 : ((pn : Int) < 65536) := by omega
  have g3 : ((zn : Int) ≥ 1) := by omega
  have g4 : ((zn : Int) < pn) := by omega
  clear c1 c2 c3 c4
  go_enter Tryz.func30, Tryz.ntmps30
  go_wp2_with fail
  refine HT.out.mono ?_
  rintro e w1 ⟨⟨a, had, rfl⟩, h1⟩
  have HR := Lib.hid (rightO2 h1 pn a b PP.out.1 PP.out.2.1 (by have := PP.out; omega))
  have HAD := Lib.hid had
  clear h1 had HT
  go_wp2_with fail
  refine HR.out.mono ?_
  rintro e w2 ⟨v, rfl, h2, hv⟩
  have H2 := Lib.hid h2
  have HV := Lib.hid hv
  clear h2 hv HR
  go_wp2_with fail
  have key : v = true → ∃ pn' bn zn' : Nat, (pn : Int) = pn' ∧ b = bn ∧ (zn : Int) = zn' ∧ 5 ≤ pn' ∧ pn' < 65536 ∧ 1 ≤ zn' ∧ zn' < pn' ∧ bn < pn' ∧ Disc pn' (pn' - 3) bn ∧ ∀ k, 2 ≤ k → k * k ≤ pn' → ¬ k ∣ pn' := by
    intro e
    obtain ⟨⟨b0, b1⟩, hdc, hk⟩ := HV.out e
    exact ⟨pn, b.toNat, zn, rfl, by omega, rfl, PP.out.1, PP.out.2.1, PP.out.2.2.1, PP.out.2.2.2, by omega, by rw [← HAD.out]; exact hdc, hk⟩
  have KEY := Lib.hid key
  clear key
  go_ret
  exact ⟨v, rfl, H2.out, KEY.out⟩
end
end Go.Proofs.YtohhkjamddojmaaGreatDoor.Big

namespace Go.Proofs.YtohhkjamddojmaaGreatDoor.Big
open EcLaw

theorem cv_of {p b : Nat} (h5 : 5 ≤ p) (hP : NumLaw.IsP p) (hd : Disc p (p - 3) b) : Cv (p : Int) (-3) b := by
  refine ⟨prm_of hP (by omega), fun {h} h1 h2 => hd ?_⟩
  have h3 : (p : Int) ∣ 4 * (-3)^3 + 27 * (b : Int)^2 := lin2 (27 * (b + 3 * h - h^3)) (9 * (h^2 - 1) * (h^2 - 4)) h1 h2 (by grind)
  have a1 := nmod ((p - 3) ^ 3) p
  have a2 := nmod (b * b) p
  have e : ((p - 3 : Nat) : Int) = (p : Int) - 3 := by omega
  have a4 : (p : Int) ∣ (p : Int) := Int.dvd_refl _
  rw [← Int.ofNat_inj]
  have hk : (p : Int) ∣ ((4 * ((p - 3) ^ 3 % p) + 27 * (b * b % p) : Nat) : Int) := by
    rw [Int.natCast_pow, e] at a1
    push_cast at a1 a2 ⊢
    rw [e]
    have t1 := lin3 4 27 (4 * ((p : Int)^2 - 9 * p + 27)) a1 a2 a4 rfl
    exact lin2 1 1 t1 h3 (by grind)
  rw [Int.natCast_emod, Int.emod_eq_zero_of_dvd hk]
  rfl
/-- a point and its image on the twist -/
def PhiR (p z : Nat) (S T : Pt) : Prop := (S = .inf ∧ T = .inf) ∨ ∃ x y : Nat, S = .aff x y ∧ x < p ∧ y < p ∧ T = phi p z x y
theorem phiR_mul {p b z A B x y : Nat} {w : Int} (h : Coef p b z A B w) (o : On (p : Int) A B (.aff x y)) (hx : x < p) (hy : y < p) : ∀ n, PhiR p z (mul p A n (.aff x y)) (mul p (-3) n (phi p z x y))
  | 0 => .inl ⟨rfl, rfl⟩
  | n + 1 => by
    have hOn := mul_on h.prm o n
    show PhiR p z (add p A (mul p A n (.aff x y)) (.aff x y)) (add p (-3) (mul p (-3) n (phi p z x y)) (phi p z x y))
    rcases phiR_mul h o hx hy n with ⟨e1, e2⟩ | ⟨x3, y3, e1, l1, l2, e2⟩
    · rw [e1, e2]
      exact .inr ⟨x, y, rfl, hx, hy, rfl⟩
    · rw [e1] at hOn
      rw [e1, e2]
      rcases phi_add h hOn o with ⟨f1, f2⟩ | ⟨x4, y4, f1, m1, m2, f2⟩
      · exact .inl ⟨f1, f2⟩
      · exact .inr ⟨x4, y4, f1, m1, m2, f2⟩
theorem back_mul {p b z A B x y X Y : Nat} {w : Int} (h : Coef p b z A B w) (o : On (p : Int) A B (.aff x y)) (hx : x < p) (hy : y < p) (n : Nat) (hb : BackZ p z (mul p (-3) n (phi p z x y)) X Y) :
    AffIs (mul p A n (.aff x y)) X Y := by
  rcases phiR_mul h o hx hy n with ⟨e1, e2⟩ | ⟨x3, y3, e1, l1, l2, e2⟩
  · rw [e2] at hb
    rw [e1]
    obtain ⟨rfl, rfl⟩ := back_inf hb
    exact ⟨rfl, rfl⟩
  · rw [e2] at hb
    rw [e1]
    obtain ⟨rfl, rfl⟩ := back_aff l1 l2 hb
    exact ⟨rfl, rfl⟩
/-- a multiple has natural coordinates -/
theorem mul_nat {p : Int} {A B x y : Int} (h : Prm p) (o : On p A B (.aff x y)) (n : Nat) : mul p A n (.aff x y) = .inf ∨ ∃ u v : Nat, mul p A n (.aff x y) = .aff u v ∧ (u : Int) < p ∧ (v : Int) < p := by
  have hOn := mul_on h o n
  cases e : mul p A n (.aff x y) with
  | inf => exact .inl rfl
  | aff u v =>
    rw [e] at hOn
    exact .inr ⟨u.toNat, v.toNat, by rw [Int.toNat_of_nonneg hOn.1, Int.toNat_of_nonneg hOn.2.2.1], by have := hOn.1; have := hOn.2.1; omega, by have := hOn.2.2.1; have := hOn.2.2.2.1; omega⟩
/-- the bits of a byte, the highest first -/
theorem byte_bit : ∀ b : Nat, b < 256 → ∀ j : Nat, j < 8 → b / 2 ^ (7 - j) = 2 * (b / 2 ^ (8 - j)) + (if (b * 2 ^ j % 256) &&& 128 = 128 then 1 else 0) := by decide +kernel
theorem byte_shl (b j : Nat) : (b * 2 ^ j % 256) * 2 % 256 = b * 2 ^ (j + 1) % 256 := by rw [Nat.pow_succ, ← Nat.mul_assoc]; omega
end Go.Proofs.YtohhkjamddojmaaGreatDoor.Big
