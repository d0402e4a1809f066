/- The law of twists: on the curve. -/
import Derived.Test.YtohhkjamddojmaaGreatDoorOnLaw
import Derived.Test.YtohhkjamddojmaaGreatDoorJF
import Derived.Test.YtohhkjamddojmaaGreatDoorJG
namespace Go.Proofs.YtohhkjamddojmaaGreatDoor.Big
open Go.RowKit
attribute [local go_sem] ptr
attribute [local irreducible] Sz

theorem nmod (n p : Nat) : (p : Int) ∣ ((n % p : Nat) : Int) - (n : Int) := by rw [Int.natCast_emod]; exact EcLaw.sub_emod_dvd _ _
theorem emod_iff {a c p : Int} : a % p = c % p ↔ p ∣ a - c := by
  rw [Int.emod_eq_emod_iff_emod_sub_eq_zero]
  exact ⟨Int.dvd_of_emod_eq_zero, Int.emod_eq_zero_of_dvd⟩
theorem isP_of {p : Nat} (h5 : 5 ≤ p) (hk : ∀ k, 2 ≤ k → k * k ≤ p → ¬ k ∣ p) : NumLaw.IsP p := EcLaw.isP_of_trial (by omega) hk
theorem inv_of {p z : Nat} (hP : NumLaw.IsP p) (z1 : 1 ≤ z) (zp : z < p) : (p : Int) ∣ ((z ^ (p - 2) % p : Nat) : Int) * (z : Int) - 1 := by
  have hz : ¬ p ∣ z := fun h => by have := Nat.le_of_dvd z1 h; omega
  have hf := hP.fermat1 hz
  have h2 := hP.1
  have e : z ^ (p - 1) = z ^ (p - 2) * z := by rw [← Nat.pow_succ]; congr 1; omega
  have h1 := nmod (z ^ (p - 1)) p
  rw [hf, e] at h1
  have h3 := nmod (z ^ (p - 2)) p
  push_cast at h1 h3 ⊢
  exact EcLaw.lin2 (z : Int) (-1) h3 h1 (by grind)
theorem on_eq {p b z x y i A B : Nat} (h5 : 5 ≤ p) (hk : ∀ k, 2 ≤ k → k * k ≤ p → ¬ k ∣ p) (z1 : 1 ≤ z) (zp : z < p) (hi : i = z ^ (p - 2) % p) (hA : A = (p - 3) * (i ^ 4 % p) % p) (hB : B = b * (i ^ 6 % p) % p) :
    decide (polyV ((x * (z ^ 2 % p) % p : Nat) : Int) (b : Int) (p : Int) = ((y * (z ^ 3 % p) % p : Nat) : Int) * ((y * (z ^ 3 % p) % p : Nat) : Int) % (p : Int)) = onB p A B x y := by
  have hP := isP_of h5 hk
  have hw := inv_of hP z1 zp
  rw [← hi] at hw
  obtain ⟨tx, htx⟩ : ∃ tx, tx = x * (z ^ 2 % p) % p := ⟨_, rfl⟩
  obtain ⟨ty, hty⟩ : ∃ ty, ty = y * (z ^ 3 % p) % p := ⟨_, rfl⟩
  rw [← htx, ← hty]
  have c1 : (p : Int) ∣ (tx : Int) - x * z ^ 2 := by
    have a1 := nmod (x * (z ^ 2 % p)) p
    have a2 := nmod (z ^ 2) p
    rw [← htx] at a1
    push_cast at a1 a2
    exact EcLaw.lin2 1 (x : Int) a1 a2 (by grind)
  have c2 : (p : Int) ∣ (ty : Int) - y * z ^ 3 := by
    have a1 := nmod (y * (z ^ 3 % p)) p
    have a2 := nmod (z ^ 3) p
    rw [← hty] at a1
    push_cast at a1 a2
    exact EcLaw.lin2 1 (y : Int) a1 a2 (by grind)
  have c3 : (p : Int) ∣ (A : Int) + 3 * i ^ 4 := by
    have a1 := nmod ((p - 3) * (i ^ 4 % p)) p
    have a2 := nmod (i ^ 4) p
    rw [← hA] at a1
    have e : ((p - 3 : Nat) : Int) = (p : Int) - 3 := by omega
    have a3 : (p : Int) ∣ (p : Int) := Int.dvd_refl _
    rw [Int.natCast_mul, e] at a1
    push_cast at a1 a2
    exact EcLaw.lin3 1 (-3) ((i : Int) ^ 4 % p) a1 a2 a3 (by grind)
  have c4 : (p : Int) ∣ (B : Int) - b * i ^ 6 := by
    have a1 := nmod (b * (i ^ 6 % p)) p
    have a2 := nmod (i ^ 6) p
    rw [← hB] at a1
    push_cast at a1 a2
    exact EcLaw.lin2 1 (b : Int) a1 a2 (by grind)
  have core := EcLaw.on_core (b := (b : Int)) c1 c2 c3 c4 hw
  rw [Bool.eq_iff_iff, decide_eq_true_iff]
  unfold polyV onB
  rw [emod_iff, beq_iff_eq]
  have e1 : ((tx : Int) * tx * tx - (tx * 2 ^ 1 + tx) + b) = (tx * tx * tx - (tx * 2 + tx) + b) := by grind
  rw [e1]
  refine core.trans ?_
  have a5 := nmod (x * x) p
  rw [← Int.ofNat_inj]
  push_cast
  rw [emod_iff]
  push_cast at a5
  constructor
  · intro h; exact EcLaw.lin2 1 (-x) h a5 (by grind)
  · intro h; exact EcLaw.lin2 1 (x : Int) h a5 (by grind)

section
variable {R : Nat → Prop} {w0 w w' : World} {L L' : List (Nat × Int)}
set_option maxHeartbeats 4000000 in
set_option maxRecDepth 100000 in
theorem lawOnO (h : Own R w0 w []) (p b z x y : Int) :
    Calls Tryz.prog 9 #[.agg #[.int .i64 p, .int .i64 b, .int .i64 z], .int .i64 x, .int .i64 y] w (fun e w' => e = .returned (.bool true) ∧ Own R w0 w' []) := by
  have U := Lib.hid (fun (w' : World) (M : List (Nat × Int)) (hh : Own (RO R w.heap.size) (w.alloc (.cells #[.int .i64 p, .int .i64 b, .int .i64 z] 57)) w' M) =>
    Own.unguard (h.box (.cells #[.int .i64 p, .int .i64 b, .int .i64 z] 57)) (heap_alloc_new w _) (by intro _ _ _ _ e; simp at e) hh)
  have G := Lib.hid (h.guard (.cells #[.int .i64 p, .int .i64 b, .int .i64 z] 57))
  have HT := Lib.hid (isTwistO G.out p b z)
  clear h
  go_enter Tryz.func9, Tryz.ntmps9
  go_wp2_with fail
  refine HT.out.mono ?_
  rintro e w1 ⟨v, rfl, h1, hv⟩
  have H1 := Lib.hid h1
  obtain ⟨q0, q1, q2⟩ := h1.three
  have HV := Lib.hid hv
  clear h1 hv HT
  rcases v with _ | _
  · go_wp2_with fail
    go_ret
    exact ⟨rfl, U.out _ _ H1.out⟩
  obtain ⟨pn, bn, zn, rfl, rfl, rfl, p5, pB, z1, zp, bp, hk⟩ := HV.out rfl
  have PP := Lib.hid (And.intro p5 (And.intro pB (And.intro z1 (And.intro zp bp))))
  have HK := Lib.hid hk
  clear HV p5 pB z1 zp bp hk
  by_cases c1 : x < 0
  · go_wp2_with fail
    go_ret
    exact ⟨rfl, U.out _ _ H1.out⟩
  by_cases c2 : (pn : Int) ≤ x
  · go_wp2_with fail
    go_ret
    exact ⟨rfl, U.out _ _ H1.out⟩
  by_cases c3 : y < 0
  · go_wp2_with fail
    go_ret
    exact ⟨rfl, U.out _ _ H1.out⟩
  by_cases c4 : (pn : Int) ≤ y
  · go_wp2_with fail
    go_ret
    exact ⟨rfl, U.out _ _ H1.out⟩
  obtain ⟨xn, rfl⟩ : ∃ n : Nat, x = n := ⟨x.toNat, by omega⟩
  obtain ⟨yn, rfl⟩ : ∃ n : Nat, y = n := ⟨y.toNat, by omega⟩
  have g1 : (0 : Int) ≤ (xn : Int) := by omega
  have g2 : (xn : Int) < pn := by omega
  have g3 : (0 : Int) ≤ (yn : Int) := by omega
  have g4 : (yn : Int) < pn := by omega
  have PX := Lib.hid (show xn < pn ∧ yn < pn by omega)
  have GC := Lib.hid (coprime_of PP.out.1 PP.out.2.2.1 PP.out.2.2.2.1 HK.out)
  clear c1 c2 c3 c4
  have C2 := Lib.hid (twistOnO H1.out pn bn zn xn yn PP.out.2.2.1 PP.out.2.2.2.1 PP.out.2.2.2.2 (by have := PP.out.1; omega) (by have := PP.out.2.1; omega) GC.out PX.out.1 PX.out.2)
  obtain ⟨d, hd⟩ : ∃ d, d = decide (polyV ((xn * (zn ^ 2 % pn) % pn : Nat) : Int) (bn : Int) (pn : Int) = ((yn * (zn ^ 3 % pn) % pn : Nat) : Int) * ((yn * (zn ^ 3 % pn) % pn : Nat) : Int) % (pn : Int)) := ⟨_, rfl⟩
  rw [← hd] at C2
  have HD := Lib.hid hd
  clear hd
  go_wp2_with fail
  refine C2.out.mono ?_
  rintro e w2 ⟨rfl, h2⟩
  have H2 := Lib.hid h2
  obtain ⟨q0, q1, q2⟩ := h2.three
  clear C2 h2
  have C3 := Lib.hid (straightO H2.out pn bn zn PP.out.1 PP.out.2.1 PP.out.2.2.2.1 PP.out.2.2.2.2)
  go_wp2_with fail
  refine C3.out.mono ?_
  rintro e w3 ⟨⟨i, A, B, hi, hA, hB, rfl⟩, h3⟩
  have pz : 0 < pn := by have := PP.out.1; omega
  have HE := Lib.hid (show onB pn A B xn yn = d by rw [HD.out]; exact (on_eq PP.out.1 HK.out PP.out.2.2.1 PP.out.2.2.2.1 hi hA hB).symm)
  have C4 := Lib.hid (specOnO h3 pn A B xn yn PP.out.1 PP.out.2.1 (by rw [hA]; exact Nat.mod_lt _ pz) (by rw [hB]; exact Nat.mod_lt _ pz) PX.out.1 PX.out.2)
  rw [HE.out] at C4
  clear C3 h3 hi hA hB pz
  go_wp2_with fail
  refine C4.out.mono ?_
  rintro e w4 ⟨rfl, h4⟩
  have H4 := Lib.hid (U.out _ _ h4)
  have hdd : (d == d) = true := by simp
  clear C4 h4
  go_wp2_with fail
  go_ret
  exact ⟨rfl, H4.out⟩
end
end Go.Proofs.YtohhkjamddojmaaGreatDoor.Big
