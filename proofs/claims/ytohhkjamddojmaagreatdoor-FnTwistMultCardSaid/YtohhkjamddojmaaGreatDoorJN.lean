/- From Jacobian coordinates back; points that are on the curve pass. Sums and doubles of points of the curve y^2 = x^3 - 3x + b, as CurveParams gives them. Sums and doubles on a curve that is worked with by its twist. -/
import Derived.Test.YtohhkjamddojmaaGreatDoorJB
import Derived.Test.YtohhkjamddojmaaGreatDoorJL
namespace Go.Proofs.YtohhkjamddojmaaGreatDoor.Big
open Go.RowKit
attribute [local go_sem] ptr
attribute [local irreducible] Sz

section
variable {R : Nat → Prop} {w0 w w' : World} {L L' : List (Nat × Int)}
theorem sign_z {a : Int} (h : a = 0) : (a.sign == (0 : Int)) = true := by rw [h]; rfl
theorem sign_nz {a : Int} (h : a ≠ 0) : (a.sign == (0 : Int)) = false := by rw [beq_eq_false_iff_ne]; exact fun e => h (Int.sign_eq_zero_iff_zero.1 e)
theorem sign_bz {a : Int} (h : a = 0) : (a.sign != (0 : Int)) = false := by rw [bne, sign_z h]; rfl
theorem sign_bnz {a : Int} (h : a ≠ 0) : (a.sign != (0 : Int)) = true := by rw [bne, sign_nz h]; rfl
set_option maxHeartbeats 2000000 in
set_option maxRecDepth 100000 in
theorem zForO (h : Own R w0 w L) (x y ix iy : Nat) (X Y : Int) (hx : L[ix]? = some (x, X)) (hy : L[iy]? = some (y, Y)) (hne : ¬ (X = 0 ∧ Y = 0)) :
    Calls Tryz.prog 298 #[ptr x, ptr y] w (NewO R w0 1 L) := by
  obtain ⟨hN, hR⟩ := h.new
  have HN := Lib.hid hN
  have HR := Lib.hid hR
  have HX := Lib.hid hx
  have HY := Lib.hid hy
  have C1 := Lib.hid (setIntO hN 0 1 rfl hR (by decide))
  clear h hN hR hx hy
  by_cases h0 : X = 0
  · have h1 : Y ≠ 0 := fun e => hne ⟨h0, e⟩
    have b1 := sign_bz h0
    have b2 := sign_bnz h1
    clear h0 h1 hne
    unfold ptr at *
    go_enter Tryz.func298, Tryz.ntmps298
    go_wp2_with fail
    refine (signO HN.out (ix + 1) HX.out).mono ?_
    rintro en wA ⟨rfl, rfl⟩
    go_wp2_with fail
    refine (signO HN.out (iy + 1) HY.out).mono ?_
    rintro en wA ⟨rfl, rfl⟩
    go_wp2_with fail
    refine C1.out.mono ?_
    rintro en w1 ⟨rfl, hq⟩
    have HQ := Lib.hid (show Own R w0 w1 ((w.heap.size, 1) :: L) from hq)
    clear hq
    go_wp2_with fail
    go_ret
    exact ⟨w.heap.size, rfl, HQ.out, HR.out⟩
  · have b1 := sign_bnz h0
    clear h0 hne
    unfold ptr at *
    go_enter Tryz.func298, Tryz.ntmps298
    go_wp2_with fail
    refine (signO HN.out (ix + 1) HX.out).mono ?_
    rintro en wA ⟨rfl, rfl⟩
    go_wp2_with fail
    refine C1.out.mono ?_
    rintro en w1 ⟨rfl, hq⟩
    have HQ := Lib.hid (show Own R w0 w1 ((w.heap.size, 1) :: L) from hq)
    clear hq
    go_wp2_with fail
    go_ret
    exact ⟨w.heap.size, rfl, HQ.out, HR.out⟩
/-- affine coordinates of Jacobian ones -/
def AffQ (p X Y Z U V : Int) : Prop := (0 ≤ U ∧ U < p) ∧ (0 ≤ V ∧ V < p) ∧ ((Z = 0 ∧ U = 0 ∧ V = 0) ∨ (Z ≠ 0 ∧ ∃ t : Int, p ∣ t * Z - 1 ∧ U = X * (t * t) % p ∧ V = Y * (t * t * t) % p))
/-- what a function gives that makes two Ints -/
def DuoO (R : Nat → Prop) (w0 : World) (L : List (Nat × Int)) (Q : Int → Int → Prop) (e : Ending) (w' : World) : Prop :=
  ∃ x3 y3 X3 Y3, e = .returned (.tuple #[ptr x3, ptr y3]) ∧ Own R w0 w' ((y3, Y3) :: (x3, X3) :: L) ∧ ¬ R x3 ∧ ¬ R y3 ∧ Q X3 Y3
set_option maxHeartbeats 8000000 in
set_option maxRecDepth 100000 in
theorem affineO (h : Own R w0 w L) (c x y z P ix iy iz iP : Nat) (X Y : Int) (Z p : Nat) (hcP : w.cell? ⟨c, 0, .none⟩ = some (ptr P)) (hRc : R c) (hx : L[ix]? = some (x, X)) (hy : L[iy]? = some (y, Y)) (hz : L[iz]? = some (z, (Z : Int))) (hP : L[iP]? = some (P, (p : Int))) (sX : Sz 64 X) (sY : Sz 64 Y) (p0 : 0 < p) (pB : p < B64) (hZp : Z < p) (hgc : 0 < Z → Int.gcd Z p = 1) :
    Calls Tryz.prog 299 #[ptr c, ptr x, ptr y, ptr z] w (DuoO R w0 L (AffQ p X Y Z)) := by
  by_cases hZ : Z = 0
  · subst hZ
    obtain ⟨hN, r1, r2⟩ := h.new2
    have HN := Lib.hid hN
    have HSG := Lib.hid (signO h iz hz)
    have HR := Lib.hid (And.intro r2 r1)
    have HF := Lib.hid (show AffQ p X Y (0 : Nat) 0 0 from ⟨⟨by omega, by omega⟩, ⟨by omega, by omega⟩, .inl ⟨rfl, rfl, rfl⟩⟩)
    clear h hcP hRc hx hy hz hP sX sY p0 pB hgc hN r1 r2
    unfold ptr at *
    go_enter Tryz.func299, Tryz.ntmps299
    go_wp2_with fail
    refine HSG.out.mono ?_
    rintro en wA ⟨rfl, rfl⟩
    go_wp2_with fail
    go_ret2
    exact ⟨w.heap.size, w.heap.size + 1, 0, 0, rfl, HN.out, HR.out.1, HR.out.2, HF.out⟩
  have hZ0 : 0 < Z := Nat.pos_of_ne_zero hZ
  have HSG := Lib.hid (signO h.since iz hz)
  have HSS := Lib.hid h
  have O0 := Lib.hid h.since
  have HX := Lib.hid hx
  have HY := Lib.hid hy
  have HZ := Lib.hid hz
  have HP := Lib.hid hP
  have SX := Lib.hid sX
  have SY := Lib.hid sY
  have SZ := Lib.hid (show Sz 64 (Z : Int) from sz64 (Nat.lt_trans hZp pB))
  have SP := Lib.hid (show Sz 64 (p : Int) from sz64 pB)
  have HD := Lib.hid (divOK_nat pB p0)
  have HP0 := Lib.hid (show (p : Int) ≠ 0 by omega)
  have HZ0 := Lib.hid hZ0
  have HZP := Lib.hid hZp
  have P0 := Lib.hid p0
  have PB := Lib.hid pB
  have HGC := Lib.hid (hgc hZ0)
  have K0 := Lib.hid (fun (w' : World) (k : Kept R w w') => (k.cell hRc hcP : w'.cell? ⟨c, 0, .none⟩ = some (ptr P)))
  have cP := hcP
  have lc : c < w.heap.size := World.block_lt_of_cell? w ⟨c, 0, .none⟩ hcP
  have hsz : (((Z : Int).sign == (0 : Int))) = false := sign_nz (by omega)
  clear h hx hy hz hP sX sY p0 pB hRc hcP hZ hZ0 hZp hgc
  unfold ptr at *
  go_enter Tryz.func299, Tryz.ntmps299
  go_wp2_with fail
  refine HSG.out.mono ?_
  rintro en wA ⟨rfl, rfl⟩
  obtain ⟨hN, hR⟩ := O0.out.new
  have HN0 := Lib.hid hN
  have NRzi := Lib.hid hR
  clear hN hR
  go_wp2_with fail
  refine (modInverse_word HN0.out 0 (iz + 1) (iP + 1) Z p rfl HZ.out HP.out NRzi.out HZ0.out HZP.out PB.out HGC.out).mono ?_
  rintro en w1 ⟨t, rfl, hq, ht, htd⟩
  have O1 := Lib.hid (show Own R w w1 ((w.heap.size, (t : Int)) :: L) from hq)
  have ST := Lib.hid (show Sz 64 (t : Int) from sz64 (Nat.lt_trans ht PB.out))
  have HT := Lib.hid htd
  clear hq ht htd
  clear cP
  have cP := K0.out w1 O1.out.kept
  obtain ⟨hN, hR⟩ := O1.out.new
  have HN1 := Lib.hid hN
  have NRq := Lib.hid hR
  clear hN hR
  go_wp2_with fail
  refine (mulO HN1.out 0 1 1 rfl rfl rfl NRq.out (ST.out.le (by decide : 64 ≤ 704)) (ST.out.le (by decide : 64 ≤ 2496))).mono ?_
  rintro en w2 ⟨rfl, hq⟩
  obtain ⟨v1, hv⟩ : ∃ v1 : Int, v1 = (t : Int) * (t : Int) := ⟨_, rfl⟩
  have O2 := Lib.hid (show Own R w w2 ((w1.heap.size, v1) :: (w.heap.size, (t : Int)) :: L) from by rw [hv]; exact hq)
  have S1 := Lib.hid (show Sz 128 v1 from by rw [hv]; exact ST.out.mul ST.out)
  have E1 := Lib.hid hv
  clear hq hv
  clear cP
  have cP := K0.out w2 O2.out.kept
  obtain ⟨hN, hR⟩ := O2.out.new
  have HN2 := Lib.hid hN
  have NRxo := Lib.hid hR
  clear hN hR
  go_wp2_with fail
  refine (mulO HN2.out 0 (ix + 3) 1 rfl HX.out rfl NRxo.out (SX.out.le (by decide : 64 ≤ 704)) (S1.out.le (by decide : 128 ≤ 2496))).mono ?_
  rintro en w3 ⟨rfl, hq⟩
  obtain ⟨v2, hv⟩ : ∃ v2 : Int, v2 = X * v1 := ⟨_, rfl⟩
  have O3 := Lib.hid (show Own R w w3 ((w2.heap.size, v2) :: (w1.heap.size, v1) :: (w.heap.size, (t : Int)) :: L) from by rw [hv]; exact hq)
  have S2 := Lib.hid (show Sz 192 v2 from by rw [hv]; exact SX.out.mul S1.out)
  have E2 := Lib.hid hv
  clear hq hv
  clear cP
  have cP := K0.out w3 O3.out.kept
  go_wp2_with fail
  refine (modO O3.out 0 0 (iP + 3) rfl rfl HP.out (by omega) NRxo.out (S2.out.le (by decide : 192 ≤ 630000)) (SP.out.le (by decide : 64 ≤ 630000)) HD.out HP0.out).mono ?_
  rintro en w4 ⟨rfl, hq⟩
  obtain ⟨v3, hv⟩ : ∃ v3 : Int, v3 = v2 % (p : Int) := ⟨_, rfl⟩
  have O4 := Lib.hid (show Own R w w4 ((w2.heap.size, v3) :: (w1.heap.size, v1) :: (w.heap.size, (t : Int)) :: L) from by rw [hv]; exact hq)
  have S3 := Lib.hid (show Sz 64 v3 from by rw [hv]; exact Sz.emod _ HP0.out SP.out)
  have E3 := Lib.hid hv
  clear hq hv
  clear cP
  have cP := K0.out w4 O4.out.kept
  go_wp2_with fail
  refine (mulO O4.out 1 1 2 rfl rfl rfl NRq.out (S1.out.le (by decide : 128 ≤ 704)) (ST.out.le (by decide : 64 ≤ 2496))).mono ?_
  rintro en w5 ⟨rfl, hq⟩
  obtain ⟨v4, hv⟩ : ∃ v4 : Int, v4 = v1 * (t : Int) := ⟨_, rfl⟩
  have O5 := Lib.hid (show Own R w w5 ((w2.heap.size, v3) :: (w1.heap.size, v4) :: (w.heap.size, (t : Int)) :: L) from by rw [hv]; exact hq)
  have S4 := Lib.hid (show Sz 192 v4 from by rw [hv]; exact S1.out.mul ST.out)
  have E4 := Lib.hid hv
  clear hq hv
  clear cP
  have cP := K0.out w5 O5.out.kept
  obtain ⟨hN, hR⟩ := O5.out.new
  have HN5 := Lib.hid hN
  have NRyo := Lib.hid hR
  clear hN hR
  go_wp2_with fail
  refine (mulO HN5.out 0 (iy + 4) 2 rfl HY.out rfl NRyo.out (SY.out.le (by decide : 64 ≤ 704)) (S4.out.le (by decide : 192 ≤ 2496))).mono ?_
  rintro en w6 ⟨rfl, hq⟩
  obtain ⟨v5, hv⟩ : ∃ v5 : Int, v5 = Y * v4 := ⟨_, rfl⟩
  have O6 := Lib.hid (show Own R w w6 ((w5.heap.size, v5) :: (w2.heap.size, v3) :: (w1.heap.size, v4) :: (w.heap.size, (t : Int)) :: L) from by rw [hv]; exact hq)
  have S5 := Lib.hid (show Sz 256 v5 from by rw [hv]; exact SY.out.mul S4.out)
  have E5 := Lib.hid hv
  clear hq hv
  clear cP
  have cP := K0.out w6 O6.out.kept
  go_wp2_with fail
  refine (modO O6.out 0 0 (iP + 4) rfl rfl HP.out (by omega) NRyo.out (S5.out.le (by decide : 256 ≤ 630000)) (SP.out.le (by decide : 64 ≤ 630000)) HD.out HP0.out).mono ?_
  rintro en w7 ⟨rfl, hq⟩
  obtain ⟨v6, hv⟩ : ∃ v6 : Int, v6 = v5 % (p : Int) := ⟨_, rfl⟩
  have O7 := Lib.hid (show Own R w w7 ((w5.heap.size, v6) :: (w2.heap.size, v3) :: (w1.heap.size, v4) :: (w.heap.size, (t : Int)) :: L) from by rw [hv]; exact hq)
  have S6 := Lib.hid (show Sz 64 v6 from by rw [hv]; exact Sz.emod _ HP0.out SP.out)
  have E6 := Lib.hid hv
  clear hq hv
  clear cP
  have cP := K0.out w7 O7.out.kept
  go_wp2_with fail
  have hO : Own R w w7 (((w5.heap.size, v6) : Nat × Int) :: (w2.heap.size, v3) :: L) := Own.choose (L := L) (A := [(w5.heap.size, v6), (w2.heap.size, v3), (w1.heap.size, v4), (w.heap.size, (t : Int))]) O7.out [0, 1] (by decide) (by simp)
  have HO := Lib.hid hO
  clear hO
  have HU := Lib.hid (show v3 = X * ((t : Int) * t) % p by rw [E3.out, E2.out, E1.out])
  have HV := Lib.hid (show v6 = Y * ((t : Int) * t * t) % p by rw [E6.out, E5.out, E4.out, E1.out])
  go_ret2
  have hpz : (0 : Int) < p := Int.ofNat_lt.2 P0.out
  exact ⟨w2.heap.size, w5.heap.size, v3, v6, rfl, HSS.out.after HO.out, NRxo.out, NRyo.out, (by rw [HU.out]; exact ⟨Int.emod_nonneg _ (by omega), Int.emod_lt_of_pos _ hpz⟩), (by rw [HV.out]; exact ⟨Int.emod_nonneg _ (by omega), Int.emod_lt_of_pos _ hpz⟩), .inr ⟨(by have := HZ0.out; omega), (t : Int), HT.out, HU.out, HV.out⟩⟩

set_option maxHeartbeats 4000000 in
set_option maxRecDepth 100000 in
theorem panicO (h : Own R w0 w L) (c x y P B ix iy iP iB : Nat) (X Y b p : Int) (hcP : w.cell? ⟨c, 0, .none⟩ = some (ptr P)) (hcB : w.cell? ⟨c, 2, .none⟩ = some (ptr B)) (hRc : R c) (hx : L[ix]? = some (x, X)) (hy : L[iy]? = some (y, Y)) (hP : L[iP]? = some (P, p)) (hB : L[iB]? = some (B, b))
    (x0 : 0 ≤ X) (xp : X < p) (y0 : 0 ≤ Y) (yp : Y < p) (sX : Sz 64 X) (sY : Sz 64 Y) (sp : Sz 64 p) (sb : Sz 64 b) (hdiv : DivOK p.natAbs) (hp0 : p ≠ 0) (hon : polyV X b p = Y * Y % p) (hne : ¬ (X = 0 ∧ Y = 0)) :
    Calls Tryz.prog 297 #[.iface 129 (ptr c), ptr x, ptr y] w (fun e w' => e = .returned (.tuple #[]) ∧ Own R w0 w' L) := by
  have HC := Lib.hid (onCurveO h c x y P B ix iy iP iB X Y b p hcP hcB hRc hx hy hP hB x0 xp y0 yp sX sY sp sb hdiv hp0)
  rw [decide_eq_true hon] at HC
  have S1 := Lib.hid (signO h ix hx)
  have S2 := Lib.hid (signO h iy hy)
  have hm := method_on
  clear h hcP hcB hRc hx hy hP hB x0 xp y0 yp sX sY sp sb hdiv hp0 hon
  by_cases h0 : X = 0
  · have h1 : Y ≠ 0 := fun e => hne ⟨h0, e⟩
    have b1 := sign_z h0
    have b2 := sign_nz h1
    clear h0 h1 hne
    unfold ptr at *
    go_enter Tryz.func297, Tryz.ntmps297
    go_wp2_with fail
    refine S1.out.mono ?_
    rintro en wA ⟨rfl, rfl⟩
    go_wp2_with fail
    refine S2.out.mono ?_
    rintro en wA ⟨rfl, rfl⟩
    go_wp2_with fail
    refine HC.out.mono ?_
    rintro en wA ⟨rfl, hq⟩
    have HQ := Lib.hid hq
    clear hq
    go_wp2_with fail
    go_end0
    exact ⟨rfl, HQ.out⟩
  · have b1 := sign_nz h0
    clear h0 hne
    unfold ptr at *
    go_enter Tryz.func297, Tryz.ntmps297
    go_wp2_with fail
    refine S1.out.mono ?_
    rintro en wA ⟨rfl, rfl⟩
    go_wp2_with fail
    refine HC.out.mono ?_
    rintro en wA ⟨rfl, hq⟩
    have HQ := Lib.hid hq
    clear hq
    go_wp2_with fail
    go_end0
    exact ⟨rfl, HQ.out⟩
end
end Go.Proofs.YtohhkjamddojmaaGreatDoor.Big

namespace Go.Proofs.YtohhkjamddojmaaGreatDoor.Big
open Go.RowKit
open EcLaw (Pt Prm On)
attribute [local go_sem] ptr

/-- (U, V) is a point's; that at infinity is (0, 0) -/
def AffIs : Pt → Int → Int → Prop
  | .inf, U, V => U = 0 ∧ V = 0
  | .aff x y, U, V => U = x ∧ V = y
theorem aff_is {p a b X Y Z U V : Int} {A : Pt} (h : Prm p) (hA : On p a b A) (j : IsJ p A X Y Z) (q : AffQ p X Y Z U V) : AffIs A U V := by
  obtain ⟨hu, hv, hor⟩ := q
  cases A with
  | inf =>
    have hz := red_zero j.1.2.2.1 j.1.2.2.2 j.2
    rcases hor with ⟨_, e⟩ | ⟨hn, _⟩
    · exact e
    · exact absurd hz hn
  | aff x y =>
    rcases hor with ⟨hz, _⟩ | ⟨_, t, ht, eU, eV⟩
    · exact absurd (hz ▸ ⟨0, by omega⟩) j.2.1
    · refine EcLaw.jac_affine h hA j.2 ht ?_ ?_ hu.1 hu.2 hv.1 hv.2
      · have := dvd_mod eU
        rwa [show X * (t * t) = X * t ^ 2 by grind] at this
      · have := dvd_mod eV
        rwa [show Y * (t * t * t) = Y * t ^ 3 by grind] at this
theorem start_isJ {p b x y : Int} (h : Prm p) (hA : On p (-3) b (.aff x y)) : IsJ p (.aff x y) x y 1 := by
  have h2 := h.two
  exact ⟨⟨⟨hA.1, hA.2.1⟩, ⟨hA.2.2.1, hA.2.2.2.1⟩, by omega, by omega⟩, h.not1, ⟨0, by grind⟩, ⟨0, by grind⟩⟩
theorem on_poly {p b x y : Int} (hA : On p (-3) b (.aff x y)) : polyV x b p = y * y % p := by
  unfold polyV
  refine Eq.symm ?_
  rw [Int.emod_eq_emod_iff_emod_sub_eq_zero]
  refine Int.emod_eq_zero_of_dvd ?_
  have := hA.2.2.2.2
  rwa [show y^2 - (x^3 + (-3)*x + b) = y * y - (x * x * x - (x * 2 ^ 1 + x) + b) by grind] at this
theorem sz_red {p : Nat} {X : Int} (pB : p < B64) (h0 : 0 ≤ X) (h1 : X < p) : Sz 64 X := by
  unfold Sz; unfold B64 at pB; omega
theorem gcd_prm {p : Nat} (h : Prm (p : Int)) {Z : Nat} (h0 : 0 < Z) (h1 : Z < p) : Int.gcd Z p = 1 := by
  have h2 := h.two
  have hg : Nat.gcd Z p = 1 := by
    obtain ⟨q, hq⟩ := Nat.gcd_dvd_right Z p
    have hle : Nat.gcd Z p ≤ Z := Nat.gcd_le_left _ h0
    have hpos : 0 < Nat.gcd Z p := Nat.gcd_pos_of_pos_left _ h0
    have hd : (p : Int) ∣ (Nat.gcd Z p : Int) * (q : Int) := ⟨1, by rw [Int.mul_one]; exact_mod_cast hq.symm⟩
    rcases h.mul _ _ hd with e | e
    · have := Nat.le_of_dvd hpos (Int.natCast_dvd_natCast.1 e)
      omega
    · have hq0 : 0 < q := Nat.pos_of_ne_zero (by rintro rfl; omega)
      have h3 := Nat.le_of_dvd hq0 (Int.natCast_dvd_natCast.1 e)
      have h4 : Nat.gcd Z p * q ≤ 1 * q := by omega
      have := Nat.le_of_mul_le_mul_right h4 hq0
      omega
  rw [← hg]; rfl
attribute [local irreducible] Sz

section
variable {R : Nat → Prop} {w0 w w' : World} {L L' : List (Nat × Int)}
/-- what a function gives that makes a point -/
def PtO (R : Nat → Prop) (w0 : World) (L : List (Nat × Int)) (p : Int) (A : Pt) : Ending → World → Prop := DuoO R w0 L (fun U V => AffIs A U V ∧ (0 ≤ U ∧ U < p) ∧ (0 ≤ V ∧ V < p))

/-- affineFromJacobian of a point -/
theorem affPtO (h : Own R w0 w L) (c x y z P ix iy iz iP : Nat) (X Y Z b : Int) (p : Nat) (A : Pt) (hcP : w.cell? ⟨c, 0, .none⟩ = some (ptr P)) (hRc : R c) (hx : L[ix]? = some (x, X)) (hy : L[iy]? = some (y, Y)) (hz : L[iz]? = some (z, Z)) (hP : L[iP]? = some (P, (p : Int))) (pB : p < B64)
    (hp : Prm (p : Int)) (hA : On p (-3) b A) (j : IsJ p A X Y Z) : Calls Tryz.prog 299 #[ptr c, ptr x, ptr y, ptr z] w (PtO R w0 L p A) := by
  obtain ⟨Zn, rfl⟩ : ∃ Zn : Nat, Z = Zn := ⟨Z.toNat, by have := j.1.2.2.1; omega⟩
  have h2 := hp.two
  refine (affineO h c x y z P ix iy iz iP X Y Zn p hcP hRc hx hy hz hP (sz_red pB j.1.1.1 j.1.1.2) (sz_red pB j.1.2.1.1 j.1.2.1.2) (by omega) pB (by have := j.1.2.2.2; omega) (fun h0 => gcd_prm hp h0 (by have := j.1.2.2.2; omega))).mono ?_
  rintro e w' ⟨x3, y3, X3, Y3, he, hO, n1, n2, hq⟩
  exact ⟨x3, y3, X3, Y3, he, hO, n1, n2, aff_is hp hA j hq, hq.1, hq.2.1⟩

set_option maxHeartbeats 8000000 in
set_option maxRecDepth 100000 in
theorem addAffO (h : Own R w0 w L) (c x1 y1 x2 y2 P B i1 j1 i2 j2 iP iB : Nat) (X1 Y1 X2 Y2 b : Int) (p : Nat) (hcP : w.cell? ⟨c, 0, .none⟩ = some (ptr P)) (hcB : w.cell? ⟨c, 2, .none⟩ = some (ptr B)) (hRc : R c)
    (hx1 : L[i1]? = some (x1, X1)) (hy1 : L[j1]? = some (y1, Y1)) (hx2 : L[i2]? = some (x2, X2)) (hy2 : L[j2]? = some (y2, Y2)) (hP : L[iP]? = some (P, (p : Int))) (hB : L[iB]? = some (B, b))
    (pB : p < B64) (sb : Sz 64 b) (hp : Prm (p : Int)) (o1 : On p (-3) b (.aff X1 Y1)) (o2 : On p (-3) b (.aff X2 Y2)) (n1 : ¬ (X1 = 0 ∧ Y1 = 0)) (n2 : ¬ (X2 = 0 ∧ Y2 = 0)) :
    Calls Tryz.prog 292 #[ptr c, ptr x1, ptr y1, ptr x2, ptr y2] w (PtO R w0 L p (EcLaw.add p (-3) (.aff X1 Y1) (.aff X2 Y2))) := by
  have h2 := hp.two
  have s1 : Sz 64 X1 := sz_red pB o1.1 o1.2.1
  have s2 : Sz 64 Y1 := sz_red pB o1.2.2.1 o1.2.2.2.1
  have s3 : Sz 64 X2 := sz_red pB o2.1 o2.2.1
  have s4 : Sz 64 Y2 := sz_red pB o2.2.2.1 o2.2.2.2.1
  have sP : Sz 64 (p : Int) := sz64 pB
  have s0 : Sz 64 (1 : Int) := sz64 (n := 1) (by decide)
  have hd : DivOK (p : Int).natAbs := divOK_nat pB (by omega)
  have HPA := Lib.hid (panicO h.since c x1 y1 P B i1 j1 iP iB X1 Y1 b p hcP hcB hRc hx1 hy1 hP hB o1.1 o1.2.1 o1.2.2.1 o1.2.2.2.1 s1 s2 sP sb hd (by omega) (on_poly o1) n1)
  have HPB := Lib.hid (fun w1 (o : Own R w w1 L) => panicO o c x2 y2 P B i2 j2 iP iB X2 Y2 b p (o.keep hcP hRc) (o.keep hcB hRc) hRc hx2 hy2 hP hB o2.1 o2.2.1 o2.2.2.1 o2.2.2.2.1 s3 s4 sP sb hd (by omega) (on_poly o2) n2)
  have HZ1 := Lib.hid (fun w1 (o : Own R w w1 L) => zForO o x1 y1 i1 j1 X1 Y1 hx1 hy1 n1)
  have HZ2 := Lib.hid (fun w1 (z1 : Nat) (o : Own R w w1 ((z1, 1) :: L)) => zForO o x2 y2 (i2 + 1) (j2 + 1) X2 Y2 hx2 hy2 n2)
  have HAD := Lib.hid (fun w1 (z1 z2 : Nat) (o : Own R w w1 ((z2, 1) :: (z1, 1) :: L)) => addO_gen o c x1 y1 z1 x2 y2 z2 P (i1 + 2) (j1 + 2) 1 (i2 + 2) (j2 + 2) 0 (iP + 2) X1 Y1 1 X2 Y2 1 p (o.keep hcP hRc) hRc hx1 hy1 rfl hx2 hy2 rfl hP s1 s2 s0 s3 s4 s0 sP hd (by omega) (by decide) (by decide))
  have HAF := Lib.hid (fun w1 (x3 y3 z3 z1 z2 : Nat) (X3 Y3 Z3 : Int) (o : Own R w w1 ((z3, Z3) :: (y3, Y3) :: (x3, X3) :: (z2, 1) :: (z1, 1) :: L)) (q : AddStepsP X1 Y1 1 X2 Y2 1 p X3 Y3 Z3) => affPtO o c x3 y3 z3 P 2 1 0 (iP + 5) X3 Y3 Z3 b p _ (o.keep hcP hRc) hRc rfl rfl rfl hP pB hp (EcLaw.add_on hp o1 o2) (add_isJ hp o1 o2 (start_isJ hp o1) (start_isJ hp o2) (by decide) (by decide) q))
  have HSS := Lib.hid h
  clear h hcP hcB hRc hx1 hy1 hx2 hy2 hP hB pB sb hp o1 o2 n1 n2 h2 s1 s2 s3 s4 sP s0 hd
  unfold ptr at *
  go_enter Tryz.func292, Tryz.ntmps292
  go_wp2_with fail
  refine HPA.out.mono ?_
  rintro en w1 ⟨rfl, hq⟩
  have H1 := Lib.hid hq
  clear hq
  go_wp2_with fail
  refine (HPB.out _ H1.out).mono ?_
  rintro en w2 ⟨rfl, hq⟩
  have H2 := Lib.hid hq
  clear hq
  go_wp2_with fail
  refine (HZ1.out _ H2.out).mono ?_
  rintro en w3 ⟨z1, rfl, hq, -⟩
  have H3 := Lib.hid hq
  clear hq
  go_wp2_with fail
  refine (HZ2.out _ _ H3.out).mono ?_
  rintro en w4 ⟨z2, rfl, hq, -⟩
  have H4 := Lib.hid hq
  clear hq
  go_wp2_with fail
  refine (HAD.out _ _ _ H4.out).mono ?_
  rintro en w5 ⟨x3, y3, z3, X3, Y3, Z3, rfl, hq, -, -, -, hs⟩
  have H5 := Lib.hid hq
  have HS := Lib.hid hs
  clear hq hs
  go_wp2_with fail
  refine (HAF.out _ _ _ _ _ _ _ _ _ H5.out HS.out).mono ?_
  rintro en w6 ⟨xx, yy, XX, YY, rfl, hq, m1, m2, hs⟩
  have hO : Own R w w6 (((yy, YY) : Nat × Int) :: (xx, XX) :: L) := Own.choose (L := L) (A := [(yy, YY), (xx, XX), (z3, Z3), (y3, Y3), (x3, X3), (z2, 1), (z1, 1)]) hq [0, 1] (by decide) (by simp)
  have HO := Lib.hid (HSS.out.after hO)
  have HM := Lib.hid (And.intro m1 m2)
  have HE := Lib.hid hs
  clear hq hO m1 m2 hs
  go_wp2_with fail
  go_ret2
  exact ⟨xx, yy, XX, YY, rfl, HO.out, HM.out.1, HM.out.2, HE.out⟩

set_option maxHeartbeats 8000000 in
set_option maxRecDepth 100000 in
theorem dblAffO (h : Own R w0 w L) (c x1 y1 P B i1 j1 iP iB : Nat) (X1 Y1 b : Int) (p : Nat) (hcP : w.cell? ⟨c, 0, .none⟩ = some (ptr P)) (hcB : w.cell? ⟨c, 2, .none⟩ = some (ptr B)) (hRc : R c)
    (hx1 : L[i1]? = some (x1, X1)) (hy1 : L[j1]? = some (y1, Y1)) (hP : L[iP]? = some (P, (p : Int))) (hB : L[iB]? = some (B, b))
    (pB : p < B64) (sb : Sz 64 b) (hp : Prm (p : Int)) (o1 : On p (-3) b (.aff X1 Y1)) (n1 : ¬ (X1 = 0 ∧ Y1 = 0)) :
    Calls Tryz.prog 293 #[ptr c, ptr x1, ptr y1] w (PtO R w0 L p (EcLaw.add p (-3) (.aff X1 Y1) (.aff X1 Y1))) := by
  have h2 := hp.two
  have s1 : Sz 64 X1 := sz_red pB o1.1 o1.2.1
  have s2 : Sz 64 Y1 := sz_red pB o1.2.2.1 o1.2.2.2.1
  have sP : Sz 64 (p : Int) := sz64 pB
  have s0 : Sz 64 (1 : Int) := sz64 (n := 1) (by decide)
  have hd : DivOK (p : Int).natAbs := divOK_nat pB (by omega)
  have HPA := Lib.hid (panicO h.since c x1 y1 P B i1 j1 iP iB X1 Y1 b p hcP hcB hRc hx1 hy1 hP hB o1.1 o1.2.1 o1.2.2.1 o1.2.2.2.1 s1 s2 sP sb hd (by omega) (on_poly o1) n1)
  have HZ1 := Lib.hid (fun w1 (o : Own R w w1 L) => zForO o x1 y1 i1 j1 X1 Y1 hx1 hy1 n1)
  have HAD := Lib.hid (fun w1 (z1 : Nat) (o : Own R w w1 ((z1, 1) :: L)) => doubleO o c x1 y1 z1 P (i1 + 1) (j1 + 1) 0 (iP + 1) X1 Y1 1 p (o.keep hcP hRc) hRc hx1 hy1 rfl hP s1 s2 s0 sP hd (by omega))
  have HAF := Lib.hid (fun w1 (x3 y3 z3 z1 : Nat) (X3 Y3 Z3 : Int) (o : Own R w w1 ((z3, Z3) :: (y3, Y3) :: (x3, X3) :: (z1, 1) :: L)) (q : DblSteps X1 Y1 1 p X3 Y3 Z3) => affPtO o c x3 y3 z3 P 2 1 0 (iP + 4) X3 Y3 Z3 b p _ (o.keep hcP hRc) hRc rfl rfl rfl hP pB hp (EcLaw.add_on hp o1 o1) (dbl_isJ hp o1 (start_isJ hp o1) q))
  have HSS := Lib.hid h
  clear h hcP hcB hRc hx1 hy1 hP hB pB sb hp o1 n1 h2 s1 s2 sP s0 hd
  unfold ptr at *
  go_enter Tryz.func293, Tryz.ntmps293
  go_wp2_with fail
  refine HPA.out.mono ?_
  rintro en w1 ⟨rfl, hq⟩
  have H1 := Lib.hid hq
  clear hq
  go_wp2_with fail
  refine (HZ1.out _ H1.out).mono ?_
  rintro en w3 ⟨z1, rfl, hq, -⟩
  have H3 := Lib.hid hq
  clear hq
  go_wp2_with fail
  refine (HAD.out _ _ H3.out).mono ?_
  rintro en w5 ⟨x3, y3, z3, X3, Y3, Z3, rfl, hq, -, -, -, hs⟩
  have H5 := Lib.hid hq
  have HS := Lib.hid hs
  clear hq hs
  go_wp2_with fail
  refine (HAF.out _ _ _ _ _ _ _ _ H5.out HS.out).mono ?_
  rintro en w6 ⟨xx, yy, XX, YY, rfl, hq, m1, m2, hs⟩
  have hO : Own R w w6 (((yy, YY) : Nat × Int) :: (xx, XX) :: L) := Own.choose (L := L) (A := [(yy, YY), (xx, XX), (z3, Z3), (y3, Y3), (x3, X3), (z1, 1)]) hq [0, 1] (by decide) (by simp)
  have HO := Lib.hid (HSS.out.after hO)
  have HM := Lib.hid (And.intro m1 m2)
  have HE := Lib.hid hs
  clear hq hO m1 m2 hs
  go_wp2_with fail
  go_ret2
  exact ⟨xx, yy, XX, YY, rfl, HO.out, HM.out.1, HM.out.2, HE.out⟩
end
end Go.Proofs.YtohhkjamddojmaaGreatDoor.Big

namespace Go.Proofs.YtohhkjamddojmaaGreatDoor.Big
open Go.RowKit
open EcLaw (Pt Prm On)
attribute [local go_sem] ptr
attribute [local irreducible] Sz

theorem method_add (a : Addr) (w : World) : (method 437 129 (.pointer (some a)) "Add").run Tryz.prog w = .ok (292, .pointer (some a)) w := by kernel_rfl
theorem method_dbl (a : Addr) (w : World) : (method 437 129 (.pointer (some a)) "Double").run Tryz.prog w = .ok (293, .pointer (some a)) w := by kernel_rfl
/-- a point, brought back from the twist -/
def BackQ (p D E : Int) (A : Pt) (U' V' : Int) : Prop := ∃ U V, AffIs A U V ∧ U' = U * D % p ∧ V' = V * E % p
/-- what is kept of a curve that is worked with by its twist, at the world w -/
structure RcAt (R : Nat → Prop) (w : World) (rc ct c n1 n2 n3 n4 P Q B : Nat) : Prop where
  c0 : w.cell? ⟨rc, 0, .none⟩ = some (.iface 129 (ptr ct))
  c1 : w.cell? ⟨rc, 1, .none⟩ = some (ptr c)
  c4 : w.cell? ⟨rc, 4, .none⟩ = some (ptr n1)
  c5 : w.cell? ⟨rc, 5, .none⟩ = some (ptr n2)
  c6 : w.cell? ⟨rc, 6, .none⟩ = some (ptr n3)
  c7 : w.cell? ⟨rc, 7, .none⟩ = some (ptr n4)
  cP : w.cell? ⟨c, 0, .none⟩ = some (ptr P)
  cQ : w.cell? ⟨ct, 0, .none⟩ = some (ptr Q)
  cB : w.cell? ⟨ct, 2, .none⟩ = some (ptr B)
  Rr : R rc
  Rc : R c
  Rt : R ct
theorem RcAt.kept {R : Nat → Prop} {w w' : World} {rc ct c n1 n2 n3 n4 P Q B : Nat} (h : RcAt R w rc ct c n1 n2 n3 n4 P Q B) (k : Kept R w w') : RcAt R w' rc ct c n1 n2 n3 n4 P Q B :=
  ⟨k.cell h.Rr h.c0, k.cell h.Rr h.c1, k.cell h.Rr h.c4, k.cell h.Rr h.c5, k.cell h.Rr h.c6, k.cell h.Rr h.c7, k.cell h.Rc h.cP, k.cell h.Rt h.cQ, k.cell h.Rt h.cB, h.Rr, h.Rc, h.Rt⟩
/-- where a curve's numbers lie in a list -/
structure RcL (L : List (Nat × Int)) (n1 n2 n3 n4 P Q B i1 i2 i3 i4 iP iQ iB : Nat) (A C D E b p : Nat) : Prop where
  h1 : L[i1]? = some (n1, (A : Int))
  h2 : L[i2]? = some (n2, (C : Int))
  h3 : L[i3]? = some (n3, (D : Int))
  h4 : L[i4]? = some (n4, (E : Int))
  hP : L[iP]? = some (P, (p : Int))
  hQ : L[iQ]? = some (Q, (p : Int))
  hB : L[iB]? = some (B, (b : Int))
  pB : p < B64
  sA : A < B64
  sC : C < B64
  sD : D < B64
  sE : E < B64
  sb : b < B64
section
variable {R : Nat → Prop} {w0 w w' : World} {L L' : List (Nat × Int)}
theorem toTw (h : Own R w0 w L) {rc ct c n1 n2 n3 n4 P Q B i1 i2 i3 i4 iP iQ iB A C D E b p : Nat} (K : RcAt R w rc ct c n1 n2 n3 n4 P Q B) (M : RcL L n1 n2 n3 n4 P Q B i1 i2 i3 i4 iP iQ iB A C D E b p) (p0 : 0 < p) (x y ix iy X Y : Nat)
    (hx : L[ix]? = some (x, (X : Int))) (hy : L[iy]? = some (y, (Y : Int))) (sX : X < B64) (sY : Y < B64) :
    Calls Tryz.prog 118 #[ptr rc, ptr x, ptr y] w (fun e w' => ∃ tx ty, e = .returned (.tuple #[ptr tx, ptr ty]) ∧ Own R w0 w' ((ty, ((Y * C % p : Nat) : Int)) :: (tx, ((X * A % p : Nat) : Int)) :: L)) :=
  (toTwistedO h rc c n1 n2 x y P ix iy i1 i2 iP (X : Int) (Y : Int) (A : Int) (C : Int) (p : Int) K.c1 K.c4 K.c5 K.cP K.Rr K.Rc hx hy M.h1 M.h2 M.hP (sz350 sX) (sz350 sY) (sz350 M.sA) (sz350 M.sC) ((sz350 M.pB).le (by decide)) (divOK_nat M.pB p0) (by omega)).mono (by
    rintro e w' ⟨tx, ty, he, ho, _, _⟩
    exact ⟨tx, ty, he, by push_cast; exact ho⟩)
theorem fromTw (h : Own R w0 w L) {rc ct c n1 n2 n3 n4 P Q B i1 i2 i3 i4 iP iQ iB A C D E b p : Nat} (K : RcAt R w rc ct c n1 n2 n3 n4 P Q B) (M : RcL L n1 n2 n3 n4 P Q B i1 i2 i3 i4 iP iQ iB A C D E b p) (p0 : 0 < p) (x y ix iy : Nat) (X Y : Int)
    (hx : L[ix]? = some (x, X)) (hy : L[iy]? = some (y, Y)) (sX : Sz 350 X) (sY : Sz 350 Y) :
    Calls Tryz.prog 120 #[ptr rc, ptr x, ptr y] w (DuoO R w0 L (fun U V => U = X * D % p ∧ V = Y * E % p)) :=
  (fromTwistedO h rc c n3 n4 x y P ix iy i3 i4 iP X Y (D : Int) (E : Int) (p : Int) K.c1 K.c6 K.c7 K.cP K.Rr K.Rc hx hy M.h3 M.h4 M.hP sX sY (sz350 M.sD) (sz350 M.sE) ((sz350 M.pB).le (by decide)) (divOK_nat M.pB p0) (by omega)).mono (by
    rintro e w' ⟨tx, ty, he, ho, n1, n2⟩
    exact ⟨tx, ty, _, _, he, ho, n1, n2, rfl, rfl⟩)
theorem sz350_of {p : Nat} {X : Int} (pB : p < B64) (h : 0 ≤ X ∧ X < p) : Sz 350 X := (sz_red pB h.1 h.2).le (by decide)
theorem RcL.cons {n1 n2 n3 n4 P Q B i1 i2 i3 i4 iP iQ iB A C D E b p : Nat} (M : RcL L n1 n2 n3 n4 P Q B i1 i2 i3 i4 iP iQ iB A C D E b p) (q : Nat × Int) : RcL (q :: L) n1 n2 n3 n4 P Q B (i1 + 1) (i2 + 1) (i3 + 1) (i4 + 1) (iP + 1) (iQ + 1) (iB + 1) A C D E b p :=
  ⟨M.h1, M.h2, M.h3, M.h4, M.hP, M.hQ, M.hB, M.pB, M.sA, M.sC, M.sD, M.sE, M.sb⟩

set_option maxHeartbeats 8000000 in
set_option maxRecDepth 100000 in
theorem rAddO (h : Own R w0 w L) {rc ct c n1 n2 n3 n4 P Q B i1 i2 i3 i4 iP iQ iB A C D E b p : Nat} (K : RcAt R w rc ct c n1 n2 n3 n4 P Q B) (M : RcL L n1 n2 n3 n4 P Q B i1 i2 i3 i4 iP iQ iB A C D E b p) (hp : Prm (p : Int)) (x1 y1 x2 y2 k1 l1 k2 l2 X1 Y1 X2 Y2 : Nat)
    (hx1 : L[k1]? = some (x1, (X1 : Int))) (hy1 : L[l1]? = some (y1, (Y1 : Int))) (hx2 : L[k2]? = some (x2, (X2 : Int))) (hy2 : L[l2]? = some (y2, (Y2 : Int))) (sX1 : X1 < B64) (sY1 : Y1 < B64) (sX2 : X2 < B64) (sY2 : Y2 < B64)
    (o1 : On p (-3) b (.aff ((X1 * A % p : Nat) : Int) ((Y1 * C % p : Nat) : Int))) (o2 : On p (-3) b (.aff ((X2 * A % p : Nat) : Int) ((Y2 * C % p : Nat) : Int))) (m1 : ¬ (((X1 * A % p : Nat) : Int) = 0 ∧ ((Y1 * C % p : Nat) : Int) = 0)) (m2 : ¬ (((X2 * A % p : Nat) : Int) = 0 ∧ ((Y2 * C % p : Nat) : Int) = 0)) :
    Calls Tryz.prog 305 #[ptr rc, ptr x1, ptr y1, ptr x2, ptr y2] w (DuoO R w0 L (BackQ p D E (EcLaw.add p (-3) (.aff ((X1 * A % p : Nat) : Int) ((Y1 * C % p : Nat) : Int)) (.aff ((X2 * A % p : Nat) : Int) ((Y2 * C % p : Nat) : Int))))) := by
  have h2 := hp.two
  have p0 : 0 < p := by omega
  have T1 := Lib.hid (toTw h.since K M p0 x1 y1 k1 l1 X1 Y1 hx1 hy1 sX1 sY1)
  have T2 := Lib.hid (fun w1 (a c' : Nat × Int) (o : Own R w w1 (a :: c' :: L)) => toTw o (K.kept o.kept) ((M.cons c').cons a) p0 x2 y2 (k2 + 2) (l2 + 2) X2 Y2 hx2 hy2 sX2 sY2)
  obtain ⟨tX1, e1⟩ : ∃ t, t = ((X1 * A % p : Nat) : Int) := ⟨_, rfl⟩
  obtain ⟨tY1, e2⟩ : ∃ t, t = ((Y1 * C % p : Nat) : Int) := ⟨_, rfl⟩
  obtain ⟨tX2, e3⟩ : ∃ t, t = ((X2 * A % p : Nat) : Int) := ⟨_, rfl⟩
  obtain ⟨tY2, e4⟩ : ∃ t, t = ((Y2 * C % p : Nat) : Int) := ⟨_, rfl⟩
  rw [← e1, ← e2, ← e3, ← e4]
  rw [← e1, ← e2] at o1 m1
  rw [← e3, ← e4] at o2 m2
  rw [← e1, ← e2] at T1
  rw [← e3, ← e4] at T2
  have AD := Lib.hid (fun w1 (tx1 ty1 tx2 ty2 : Nat) (o : Own R w w1 ((ty2, tY2) :: (tx2, tX2) :: (ty1, tY1) :: (tx1, tX1) :: L)) => addAffO o ct tx1 ty1 tx2 ty2 Q B 3 2 1 0 (iQ + 4) (iB + 4) tX1 tY1 tX2 tY2 (b : Int) p (K.kept o.kept).cQ (K.kept o.kept).cB K.Rt rfl rfl rfl rfl M.hQ M.hB M.pB (sz64 M.sb) hp o1 o2 m1 m2)
  have FR := Lib.hid (fun w1 (x y : Nat) (U V : Int) (a1 a2 a3 a4 : Nat × Int) (hU : 0 ≤ U ∧ U < (p : Int)) (hV : 0 ≤ V ∧ V < (p : Int)) (o : Own R w w1 ((y, V) :: (x, U) :: a1 :: a2 :: a3 :: a4 :: L)) => fromTw o (K.kept o.kept) ((((((M.cons a4).cons a3).cons a2).cons a1).cons (x, U)).cons (y, V)) p0 x y 1 0 U V rfl rfl (sz350_of M.pB hU) (sz350_of M.pB hV))
  have K0 := Lib.hid (fun (w' : World) (k : Kept R w w') => (k.cell K.Rr K.c0 : w'.cell? ⟨rc, 0, .none⟩ = some (.iface 129 (ptr ct))))
  have HSS := Lib.hid h
  have hm := method_add
  have cI := K.c0
  clear h K M hp hx1 hy1 hx2 hy2 sX1 sY1 sX2 sY2 o1 o2 m1 m2 h2 p0 e1 e2 e3 e4
  unfold ptr at *
  go_enter Tryz.func305, Tryz.ntmps305
  go_wp2_with fail
  refine T1.out.mono ?_
  rintro en w1 ⟨tx1, ty1, rfl, hq⟩
  have H1 := Lib.hid hq
  clear hq cI
  go_wp2_with fail
  refine (T2.out _ _ _ H1.out).mono ?_
  rintro en w2 ⟨tx2, ty2, rfl, hq⟩
  have cI := K0.out _ hq.kept
  have H2 := Lib.hid hq
  clear hq
  go_wp2_with fail
  refine (AD.out _ _ _ _ _ H2.out).mono ?_
  rintro en w3 ⟨x3, y3, U, V, rfl, hq, n1, n2, hs, hU, hV⟩
  have H3 := Lib.hid hq
  have HS := Lib.hid (And.intro hs (And.intro hU hV))
  clear hq n1 n2 hs hU hV
  go_wp2_with fail
  refine (FR.out _ _ _ _ _ _ _ _ _ HS.out.2.1 HS.out.2.2 H3.out).mono ?_
  rintro en w4 ⟨x4, y4, U', V', rfl, hq, n1, n2, hs⟩
  have hO : Own R w w4 (((y4, V') : Nat × Int) :: (x4, U') :: L) := Own.choose (L := L) (A := [(y4, V'), (x4, U'), (y3, V), (x3, U), (ty2, tY2), (tx2, tX2), (ty1, tY1), (tx1, tX1)]) hq [0, 1] (by decide) (by simp)
  have HO := Lib.hid (HSS.out.after hO)
  have HN := Lib.hid (And.intro n1 n2)
  have HB := Lib.hid hs
  clear hq hO n1 n2 hs
  go_wp2_with fail
  go_ret2
  exact ⟨x4, y4, U', V', rfl, HO.out, HN.out.1, HN.out.2, U, V, HS.out.1, HB.out.1, HB.out.2⟩

set_option maxHeartbeats 8000000 in
set_option maxRecDepth 100000 in
theorem rDblO (h : Own R w0 w L) {rc ct c n1 n2 n3 n4 P Q B i1 i2 i3 i4 iP iQ iB A C D E b p : Nat} (K : RcAt R w rc ct c n1 n2 n3 n4 P Q B) (M : RcL L n1 n2 n3 n4 P Q B i1 i2 i3 i4 iP iQ iB A C D E b p) (hp : Prm (p : Int)) (x1 y1 k1 l1 X1 Y1 : Nat)
    (hx1 : L[k1]? = some (x1, (X1 : Int))) (hy1 : L[l1]? = some (y1, (Y1 : Int))) (sX1 : X1 < B64) (sY1 : Y1 < B64)
    (o1 : On p (-3) b (.aff ((X1 * A % p : Nat) : Int) ((Y1 * C % p : Nat) : Int))) (m1 : ¬ (((X1 * A % p : Nat) : Int) = 0 ∧ ((Y1 * C % p : Nat) : Int) = 0)) :
    Calls Tryz.prog 306 #[ptr rc, ptr x1, ptr y1] w (DuoO R w0 L (BackQ p D E (EcLaw.add p (-3) (.aff ((X1 * A % p : Nat) : Int) ((Y1 * C % p : Nat) : Int)) (.aff ((X1 * A % p : Nat) : Int) ((Y1 * C % p : Nat) : Int))))) := by
  have h2 := hp.two
  have p0 : 0 < p := by omega
  have T1 := Lib.hid (fun n => toTw (h.since.drew n) (K.kept (Kept.drew R w n)) M p0 x1 y1 k1 l1 X1 Y1 hx1 hy1 sX1 sY1)
  obtain ⟨tX1, e1⟩ : ∃ t, t = ((X1 * A % p : Nat) : Int) := ⟨_, rfl⟩
  obtain ⟨tY1, e2⟩ : ∃ t, t = ((Y1 * C % p : Nat) : Int) := ⟨_, rfl⟩
  rw [← e1, ← e2]
  rw [← e1, ← e2] at o1 m1
  rw [← e1, ← e2] at T1
  have AD := Lib.hid (fun w1 (tx1 ty1 : Nat) (o : Own R w w1 ((ty1, tY1) :: (tx1, tX1) :: L)) => dblAffO o ct tx1 ty1 Q B 1 0 (iQ + 2) (iB + 2) tX1 tY1 (b : Int) p (K.kept o.kept).cQ (K.kept o.kept).cB K.Rt rfl rfl M.hQ M.hB M.pB (sz64 M.sb) hp o1 m1)
  have FR := Lib.hid (fun w1 (x y : Nat) (U V : Int) (a1 a2 : Nat × Int) (hU : 0 ≤ U ∧ U < (p : Int)) (hV : 0 ≤ V ∧ V < (p : Int)) (o : Own R w w1 ((y, V) :: (x, U) :: a1 :: a2 :: L)) => fromTw o (K.kept o.kept) ((((M.cons a2).cons a1).cons (x, U)).cons (y, V)) p0 x y 1 0 U V rfl rfl (sz350_of M.pB hU) (sz350_of M.pB hV))
  have K0 := Lib.hid (fun (w' : World) (k : Kept R w w') => (k.cell K.Rr K.c0 : w'.cell? ⟨rc, 0, .none⟩ = some (.iface 129 (ptr ct))))
  have HSS := Lib.hid h
  have hm := method_dbl
  have cI := K.c0
  clear h K M hp hx1 hy1 sX1 sY1 o1 m1 h2 p0 e1 e2
  unfold ptr at *
  go_enter Tryz.func306, Tryz.ntmps306
  go_wp2_with fail
  go_region_held3 (fun w' => w'.cell? ⟨rc, 0, .none⟩ = some (.iface 129 (.pointer (some ⟨ct, 0, .none⟩)))) (go_keep) (first | (go_at_call 120; refine (FR.out _ _ _ _ _ _ _ HS.out.2.1 HS.out.2.2 H3.out).mono ?_; rintro en w4 ⟨x4, y4, U', V', rfl, hq, n1, n2, hs⟩; have cI := K0.out _ hq.kept; have H4 := Lib.hid hq; have HN := Lib.hid (And.intro n1 n2); have HB := Lib.hid hs; clear hq n1 n2 hs) | (go_at_call 293; refine (AD.out _ _ _ H1.out).mono ?_; rintro en w3 ⟨x3, y3, U, V, rfl, hq, n1, n2, hs, hU, hV⟩; have cI := K0.out _ hq.kept; have H3 := Lib.hid hq; have HS := Lib.hid (And.intro hs (And.intro hU hV)); clear hq n1 n2 hs hU hV) | (go_at_call 118; refine (T1.out _).mono ?_; rintro en w1 ⟨tx1, ty1, rfl, hq⟩; have cI := K0.out _ hq.kept; have H1 := Lib.hid hq; clear hq))
  all_goals
    have hO : Own R w w4 (((y4, V') : Nat × Int) :: (x4, U') :: L) := Own.choose (L := L) (A := [(y4, V'), (x4, U'), (y3, V), (x3, U), (ty1, tY1), (tx1, tX1)]) H4.out [0, 1] (by decide) (by simp)
    have HO := Lib.hid (HSS.out.after hO)
    clear hO
    go_wp2_with fail
    go_ret2
    exact ⟨x4, y4, U', V', rfl, HO.out, HN.out.1, HN.out.2, U, V, HS.out.1, HB.out.1, HB.out.2⟩
end
end Go.Proofs.YtohhkjamddojmaaGreatDoor.Big
