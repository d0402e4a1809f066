/- ScalarMult of the curve y^2 = x^3 - 3x + b: the bits of bytes, the highest first. -/
import Derived.Test.YtohhkjamddojmaaGreatDoorKA
import Derived.Test.YtohhkjamddojmaaGreatDoorSB
import Derived.Deep.Cut
namespace Go.Proofs.YtohhkjamddojmaaGreatDoor.Big
open Go.RowKit
open EcLaw (Pt Prm On Cv)
attribute [local go_sem] ptr
attribute [local irreducible] Sz

/-- the number of the bits that have been read: i bytes and j bits -/
def kv (ks : List Nat) (i j : Nat) : Nat := bev (ks.take i) * 2 ^ j + ks.getD i 0 / 2 ^ (8 - j)
theorem kv_zero {ks : List Nat} {i : Nat} (hb : ks.getD i 0 < 256) : kv ks i 0 = bev (ks.take i) := by
  unfold kv
  rw [Nat.div_eq_of_lt (by simpa using hb)]; omega
theorem kv_eight {ks : List Nat} {i : Nat} (h : i < ks.length) : kv ks i 8 = bev (ks.take (i + 1)) := by
  rw [bev_take h]; unfold kv; simp
theorem kv_step {ks : List Nat} {i j : Nat} (hb : ks.getD i 0 < 256) (hj : j < 8) : kv ks i (j + 1) = 2 * kv ks i j + (if (ks.getD i 0 * 2 ^ j % 256) &&& 128 = 128 then 1 else 0) := by
  unfold kv
  have := byte_bit _ hb j hj
  rw [show 8 - (j + 1) = 7 - j by omega, this, Nat.pow_succ, ← Nat.mul_assoc, Nat.mul_comm _ 2, Nat.mul_add, Nat.add_assoc]

section
variable {R : Nat → Prop} {w0 w w' : World} {L L' : List (Nat × Int)}
/-- doubleJacobian of a point -/
theorem dblJO (h : Own R w0 w L) (c x y z P ix iy iz iP : Nat) (X Y Z b : Int) (p : Nat) (A : Pt) (hcP : w.cell? ⟨c, 0, .none⟩ = some (ptr P)) (hRc : R c) (hx : L[ix]? = some (x, X)) (hy : L[iy]? = some (y, Y)) (hz : L[iz]? = some (z, Z)) (hP : L[iP]? = some (P, (p : Int))) (pB : p < B64)
    (hp : Prm (p : Int)) (hA : On p (-3) b A) (j : IsJ p A X Y Z) : Calls Tryz.prog 301 #[ptr c, ptr x, ptr y, ptr z] w (TriO R w0 L (IsJ p (EcLaw.add p (-3) A A))) := by
  have h2 := hp.two
  refine (doubleO h c x y z P ix iy iz iP X Y Z p hcP hRc hx hy hz hP (sz_red pB j.1.1.1 j.1.1.2) (sz_red pB j.1.2.1.1 j.1.2.1.2) (sz_red pB j.1.2.2.1 j.1.2.2.2) (sz64 pB) (divOK_nat pB (by omega)) (by omega)).mono ?_
  rintro e w' ⟨x3, y3, z3, X3, Y3, Z3, he, hO, n1, n2, n3, hq⟩
  exact ⟨x3, y3, z3, X3, Y3, Z3, he, hO, n1, n2, n3, dbl_isJ hp hA j hq⟩
/-- addJacobian of two points, the first one not at infinity -/
theorem addJO (h : Own R w0 w L) (c x1 y1 z1 x2 y2 z2 P i1 j1 k1 i2 j2 k2 iP : Nat) (X1 Y1 Z1 X2 Y2 Z2 b : Int) (p : Nat) (u v : Int) (T : Pt) (hcP : w.cell? ⟨c, 0, .none⟩ = some (ptr P)) (hRc : R c) (hx1 : L[i1]? = some (x1, X1)) (hy1 : L[j1]? = some (y1, Y1)) (hz1 : L[k1]? = some (z1, Z1)) (hx2 : L[i2]? = some (x2, X2)) (hy2 : L[j2]? = some (y2, Y2)) (hz2 : L[k2]? = some (z2, Z2)) (hP : L[iP]? = some (P, (p : Int))) (pB : p < B64)
    (hp : Prm (p : Int)) (hA : On p (-3) b (.aff u v)) (hT : On p (-3) b T) (jA : IsJ p (.aff u v) X1 Y1 Z1) (jT : IsJ p T X2 Y2 Z2) :
    Calls Tryz.prog 300 #[ptr c, ptr x1, ptr y1, ptr z1, ptr x2, ptr y2, ptr z2] w (TriO R w0 L (IsJ p (EcLaw.add p (-3) T (.aff u v)))) := by
  have h2 := hp.two
  have n1 : Z1 ≠ 0 := fun e => jA.2.1 (e ▸ Int.dvd_zero _)
  have s1 := sz_red pB jA.1.1.1 jA.1.1.2
  have s2 := sz_red pB jA.1.2.1.1 jA.1.2.1.2
  have s3 := sz_red pB jA.1.2.2.1 jA.1.2.2.2
  have s4 := sz_red pB jT.1.1.1 jT.1.1.2
  have s5 := sz_red pB jT.1.2.1.1 jT.1.2.1.2
  have s6 := sz_red pB jT.1.2.2.1 jT.1.2.2.2
  by_cases hz : Z2 = 0
  · refine (addO_z2 h c x1 y1 z1 x2 y2 z2 P i1 j1 k1 i2 j2 k2 iP X1 Y1 Z1 X2 Y2 Z2 p hcP hRc hx1 hy1 hz1 hx2 hy2 hz2 hP s1 s2 s3 s4 s5 s6 (sz64 pB) (divOK_nat pB (by omega)) (by omega) n1 hz).mono ?_
    rintro e w' ⟨x3, y3, z3, X3, Y3, Z3, he, hO, m1, m2, m3, rfl, rfl, rfl⟩
    refine ⟨x3, y3, z3, X3, Y3, Z3, he, hO, m1, m2, m3, ?_⟩
    cases T with
    | inf => exact jA
    | aff a c => exact absurd (hz ▸ Int.dvd_zero _) jT.2.1
  · refine (addO_gen h c x1 y1 z1 x2 y2 z2 P i1 j1 k1 i2 j2 k2 iP X1 Y1 Z1 X2 Y2 Z2 p hcP hRc hx1 hy1 hz1 hx2 hy2 hz2 hP s1 s2 s3 s4 s5 s6 (sz64 pB) (divOK_nat pB (by omega)) (by omega) n1 hz).mono ?_
    rintro e w' ⟨x3, y3, z3, X3, Y3, Z3, he, hO, m1, m2, m3, hq⟩
    refine ⟨x3, y3, z3, X3, Y3, Z3, he, hO, m1, m2, m3, ?_⟩
    rw [EcLaw.add_comm hp hT hA]
    exact add_isJ hp hA hT jA jT n1 hz hq
theorem and128 : ∀ s : Nat, s < 256 → (bits .and .u8 (s : Int) 128 == (128 : Int)) = decide (s &&& 128 = 128) := by decide +kernel
theorem shl8 : ∀ s : Nat, s < 256 → IntKind.u8.wrap ((s : Int) * 2) = ((s * 2 % 256 : Nat) : Int) := by decide +kernel
/-- the start: the point at infinity as (0, 0, 0) -/
theorem isJ_zero {p : Int} (hp : Prm p) : IsJ p .inf 0 0 0 := by
  have := hp.two
  exact ⟨⟨⟨by omega, by omega⟩, ⟨by omega, by omega⟩, ⟨by omega, by omega⟩⟩, Int.dvd_zero _⟩
set_option maxHeartbeats 16000000 in
set_option maxRecDepth 100000 in
theorem scalarO (h : Own R w0 w L) (c bx by_ P B kb ko kc ix iy iP iB : Nat) (ks : List Nat) (BX BY b : Int) (p : Nat) (hcP : w.cell? ⟨c, 0, .none⟩ = some (ptr P)) (hcB : w.cell? ⟨c, 2, .none⟩ = some (ptr B)) (hRc : R c)
    (hx : L[ix]? = some (bx, BX)) (hy : L[iy]? = some (by_, BY)) (hP : L[iP]? = some (P, (p : Int))) (hB : L[iB]? = some (B, b)) (hRk : R kb) (hk : ∀ i, i < ks.length → w.cell? ⟨kb, ko + i, .none⟩ = some (.int .u8 (ks.getD i 0 : Nat))) (hks : ∀ i, ks.getD i 0 < 256) (hlen : ks.length < 1000000)
    (pB : p < B64) (sb : Sz 64 b) (hcv : Cv (p : Int) (-3) b) (o1 : On p (-3) b (.aff BX BY)) (n1 : ¬ (BX = 0 ∧ BY = 0)) :
    Calls Tryz.prog 296 #[ptr c, ptr bx, ptr by_, .slice (some ⟨kb, ko, .none⟩) ks.length kc] w (PtO R w0 L p (EcLaw.mul p (-3) (bev ks) (.aff BX BY))) := by
  have hp := hcv.prm
  have h2 := hp.two
  have s1 : Sz 64 BX := sz_red pB o1.1 o1.2.1
  have s2 : Sz 64 BY := sz_red pB o1.2.2.1 o1.2.2.2.1
  have sP : Sz 64 (p : Int) := sz64 pB
  have hd : DivOK (p : Int).natAbs := divOK_nat pB (by omega)
  have HPA := Lib.hid (panicO h.since c bx by_ P B ix iy iP iB BX BY b p hcP hcB hRc hx hy hP hB o1.1 o1.2.1 o1.2.2.1 o1.2.2.2.1 s1 s2 sP sb hd (by omega) (on_poly o1) n1)
  have HON := Lib.hid (fun k => EcLaw.mul_on hp o1 k)
  have HDB := Lib.hid (fun w1 (x y z bz k : Nat) (X Y Z : Int) (o : Own R w w1 ((z, Z) :: (y, Y) :: (x, X) :: (bz, 1) :: L)) (j : IsJ p (EcLaw.mul p (-3) k (.aff BX BY)) X Y Z) => dblJO o c x y z P 2 1 0 (iP + 4) X Y Z b p _ (o.keep hcP hRc) hRc rfl rfl rfl hP pB hp (HON.out k) j)
  have HAD := Lib.hid (fun w1 (x y z bz k : Nat) (X Y Z : Int) (o : Own R w w1 ((z, Z) :: (y, Y) :: (x, X) :: (bz, 1) :: L)) (j : IsJ p (EcLaw.mul p (-3) k (.aff BX BY)) X Y Z) => addJO o c bx by_ bz x y z P (ix + 4) (iy + 4) 3 2 1 0 (iP + 4) BX BY 1 X Y Z b p BX BY _ (o.keep hcP hRc) hRc hx hy rfl rfl rfl rfl hP pB hp o1 (HON.out k) (start_isJ hp o1) j)
  have HAF := Lib.hid (fun w1 (x y z bz k : Nat) (X Y Z : Int) (o : Own R w w1 ((z, Z) :: (y, Y) :: (x, X) :: (bz, 1) :: L)) (j : IsJ p (EcLaw.mul p (-3) k (.aff BX BY)) X Y Z) => affPtO o c x y z P 2 1 0 (iP + 4) X Y Z b p _ (o.keep hcP hRc) hRc rfl rfl rfl hP pB hp (HON.out k) j)
  have HTW := Lib.hid (fun k => EcLaw.mul_two_mul hcv o1 k)
  have HJ0 := Lib.hid (isJ_zero hp)
  have HSS := Lib.hid h
  have HKS := Lib.hid hks
  have HK := Lib.hid (fun (w' : World) (k : Kept R w w') i hi => (k.cell hRk (hk i hi) : w'.cell? ⟨kb, ko + i, .none⟩ = some (.int .u8 (ks.getD i 0 : Nat))))
  clear h hcP hcB hRc hx hy hP hB hRk hk hks pB sb hcv o1 n1 hp h2 s1 s2 sP hd
  unfold ptr at *
  go_enter Tryz.func296, Tryz.ntmps296
  go_wp2_with fail
  refine HPA.out.mono ?_
  rintro en w1 ⟨rfl, hq⟩
  obtain ⟨hN, hR⟩ := hq.new
  have C1 := Lib.hid (setIntO hN 0 1 rfl hR (by decide))
  have HBZ := Lib.hid hR
  clear hq hN hR
  go_wp2_with fail
  refine C1.out.mono ?_
  rintro en w2 ⟨rfl, hq⟩
  have H2 := Lib.hid (show Own R w w2 ((w1.heap.size, 1) :: L) from hq)
  clear hq
  obtain ⟨bz, hbz⟩ : ∃ bz, bz = w1.heap.size := ⟨_, rfl⟩
  rw [← hbz] at H2
  simp only [← hbz]
  clear hbz C1
  obtain ⟨hN3, -, -, -⟩ := H2.out.new3
  have HN3 := Lib.hid hN3
  clear hN3
  go_wp2_with fail
  go_loopw [11, 12, 13, 28] (fun sx sy sz si wr => ∃ (i x y z : Nat) (X Y Z : Int), sx = ptr x ∧ sy = ptr y ∧ sz = ptr z ∧ si = .int .i64 i ∧ i ≤ ks.length ∧ RowKit.Hid (Own R w wr ((z, Z) :: (y, Y) :: (x, X) :: (bz, 1) :: L) ∧ IsJ p (EcLaw.mul p (-3) (bev (ks.take i)) (.aff BX BY)) X Y Z)) (fun _ _ _ si _ => ks.length - (intOf si).toNat)
  case atStart => exact ⟨0, _, _, _, 0, 0, 0, rfl, rfl, rfl, rfl, Nat.zero_le _, ⟨HN3.out, HJ0.out⟩⟩
  case round =>
    obtain ⟨i, x, y, z, X, Y, Z, rfl, rfl, rfl, rfl, hi, HR⟩ := hrel
    by_cases hlt : i < ks.length
    · have hc := HK.out _ HR.out.1.kept i hlt
      have hb := HKS.out i
      obtain ⟨b, hbd⟩ : ∃ b, b = ks.getD i 0 := ⟨_, rfl⟩
      rw [← hbd] at hc hb
      have HBD := Lib.hid hbd
      have HJ := Lib.hid (show IsJ p (EcLaw.mul p (-3) (kv ks i 0) (.aff BX BY)) X Y Z by rw [kv_zero (HKS.out i)]; exact HR.out.2)
      clear hbd
      unfold ptr at *
      go_wp2_with fail
      go_loopw [11, 12, 13, 15, 32] (fun sx sy sz sb sj wr2 => ∃ (j s x y z : Nat) (X Y Z : Int), sx = ptr x ∧ sy = ptr y ∧ sz = ptr z ∧ sb = .int .u8 s ∧ sj = .int .i64 j ∧ j ≤ 8 ∧ s < 256 ∧ RowKit.Hid (s = b * 2 ^ j % 256 ∧ Own R w wr2 ((z, Z) :: (y, Y) :: (x, X) :: (bz, 1) :: L) ∧ IsJ p (EcLaw.mul p (-3) (kv ks i j) (.aff BX BY)) X Y Z)) (fun _ _ _ _ sj _ => 8 - (intOf sj).toNat)
      case atStart => exact ⟨0, b, x, y, z, X, Y, Z, rfl, rfl, rfl, rfl, rfl, by omega, hb, ⟨by omega, HR.out.1, HJ.out⟩⟩
      case round =>
        obtain ⟨j, s, x2, y2, z2, X2, Y2, Z2, rfl, rfl, rfl, rfl, rfl, hj8, hs, HQ⟩ := hrel
        by_cases hj : j < 8
        · have HD := Lib.hid (HDB.out _ x2 y2 z2 bz _ X2 Y2 Z2 HQ.out.2.1 HQ.out.2.2)
          have HE := Lib.hid (kv_step (j := j) (HKS.out i) hj)
          rw [← HBD.out, ← HQ.out.1] at HE
          have e128 := and128 s hs
          have esh := shl8 s hs
          have hs2 : s * 2 % 256 < 256 := Nat.mod_lt _ (by decide)
          have HS2 := Lib.hid (show s * 2 % 256 = b * 2 ^ (j + 1) % 256 by rw [HQ.out.1]; exact byte_shl b j)
          obtain ⟨s2, hs2d⟩ : ∃ s2, s2 = s * 2 % 256 := ⟨_, rfl⟩
          rw [← hs2d] at HS2 hs2 esh
          unfold ptr at *
          go_wp2_with fail
          refine HD.out.mono ?_
          rintro en w5 ⟨x3, y3, z3, X3, Y3, Z3, rfl, hq, -, -, -, hj3⟩
          have H5 := Lib.hid (show Own R w w5 ((z3, Z3) :: (y3, Y3) :: (x3, X3) :: (bz, 1) :: L) from Own.choose (L := L) (A := [(z3, Z3), (y3, Y3), (x3, X3), (z2, Z2), (y2, Y2), (x2, X2), (bz, 1)]) hq [0, 1, 2, 6] (by decide) (by simp))
          rw [← HTW.out] at hj3
          have HJ3 := Lib.hid hj3
          clear hq hj3 HD
          by_cases hbit : s &&& 128 = 128
          · have hbt : (bits .and .u8 (s : Int) 128 == (128 : Int)) = true := by rw [e128]; simp [hbit]
            have HA := Lib.hid (HAD.out _ x3 y3 z3 bz _ X3 Y3 Z3 H5.out HJ3.out)
            have HE2 := Lib.hid (show kv ks i (j + 1) = 2 * kv ks i j + 1 by rw [HE.out, if_pos hbit])
            clear e128 hbit HE
            unfold ptr at *
            go_wp2_with fail
            refine HA.out.mono ?_
            rintro en w6 ⟨x4, y4, z4, X4, Y4, Z4, rfl, hq, -, -, -, hj4⟩
            have H6 := Lib.hid (show Own R w w6 ((z4, Z4) :: (y4, Y4) :: (x4, X4) :: (bz, 1) :: L) from Own.choose (L := L) (A := [(z4, Z4), (y4, Y4), (x4, X4), (z3, Z3), (y3, Y3), (x3, X3), (bz, 1)]) hq [0, 1, 2, 6] (by decide) (by simp))
            have HJ4 := Lib.hid (show IsJ p (EcLaw.mul p (-3) (kv ks i (j + 1)) (.aff BX BY)) X4 Y4 Z4 by rw [HE2.out]; exact hj4)
            clear hq hj4 HA
            go_wp2_with fail
            go_roundw
            case rel => exact ⟨j + 1, s2, x4, y4, z4, X4, Y4, Z4, rfl, rfl, rfl, by rw [show (s : Int) * 2 % 256 = (s2 : Int) by omega], by go_num, by omega, hs2, ⟨HS2.out, H6.out, HJ4.out⟩⟩
            case measure => simp [intOf]; omega
          · have hbt : (bits .and .u8 (s : Int) 128 == (128 : Int)) = false := by rw [e128]; simp [hbit]
            have HJ4 := Lib.hid (show IsJ p (EcLaw.mul p (-3) (kv ks i (j + 1)) (.aff BX BY)) X3 Y3 Z3 by rw [HE.out, if_neg hbit]; exact HJ3.out)
            clear e128 hbit HE
            go_wp2_with fail
            go_roundw
            case rel => exact ⟨j + 1, s2, x3, y3, z3, X3, Y3, Z3, rfl, rfl, rfl, by rw [show (s : Int) * 2 % 256 = (s2 : Int) by omega], by go_num, by omega, hs2, ⟨HS2.out, H5.out, HJ4.out⟩⟩
            case measure => simp [intOf]; omega
        · obtain rfl : j = 8 := by omega
          have HJ8 := Lib.hid (show IsJ p (EcLaw.mul p (-3) (bev (ks.take (i + 1))) (.aff BX BY)) X2 Y2 Z2 by rw [← kv_eight hlt]; exact HQ.out.2.2)
          unfold ptr at *
          go_wp2_with fail
          go_roundw
          case rel => exact ⟨i + 1, x2, y2, z2, X2, Y2, Z2, rfl, rfl, rfl, by go_num, by omega, ⟨HQ.out.2.1, HJ8.out⟩⟩
          case measure => simp [intOf]; omega
    · have hie : i = ks.length := by omega
      subst hie
      have HA := Lib.hid (HAF.out _ x y z bz _ X Y Z HR.out.1 HR.out.2)
      rw [List.take_length] at HA
      unfold ptr at *
      go_wp2_with fail
      refine HA.out.mono ?_
      rintro en w6 ⟨xx, yy, XX, YY, rfl, hq, m1, m2, hs⟩
      have hO : Own R w w6 (((yy, YY) : Nat × Int) :: (xx, XX) :: L) := Own.choose (L := L) (A := [(yy, YY), (xx, XX), (z, Z), (y, Y), (x, X), (bz, 1)]) hq [0, 1] (by decide) (by simp)
      have HO := Lib.hid (HSS.out.after hO)
      have HM := Lib.hid (And.intro m1 m2)
      have HE := Lib.hid hs
      clear hq hO m1 m2 hs
      go_wp2_with fail
      go_ret2
      exact ⟨xx, yy, XX, YY, rfl, HO.out, HM.out.1, HM.out.2, HE.out⟩
end
end Go.Proofs.YtohhkjamddojmaaGreatDoor.Big
