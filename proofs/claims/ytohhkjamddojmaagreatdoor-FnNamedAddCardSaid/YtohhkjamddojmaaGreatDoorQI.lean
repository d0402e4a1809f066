/- From Jacobian coordinates back, on the curves of bitcurves. -/
import Derived.Test.YtohhkjamddojmaaGreatDoorQH
import Derived.Test.YtohhkjamddojmaaGreatDoorOB
set_option maxHeartbeats 16000000
namespace Go.Proofs.YtohhkjamddojmaaGreatDoor.Big
open Go.RowKit
attribute [local go_sem] ptr
attribute [local irreducible] Sz
section
variable {R : Nat → Prop} {w0 w w' : World} {L L' : List (Nat × Int)}
def AffB (p X Y Z U V : Int) : Prop := (0 ≤ U ∧ U < p) ∧ (0 ≤ V ∧ V < p) ∧ ∃ t : Int, p ∣ t * Z - 1 ∧ U = X * (t * t) % p ∧ V = Y * (t * t * t) % p
def DuoB (R : Nat → Prop) (w0 : World) (L : List (Nat × Int)) (Q : Int → Int → Prop) (e : Ending) (w' : World) : Prop :=
 ∃ x3 y3 X3 Y3, e = .returned (.tuple #[ptr x3, ptr y3]) ∧ Own R w0 w' ((y3, Y3) :: (x3, X3) :: L) ∧ ¬ R x3 ∧ ¬ R y3 ∧ Q X3 Y3
set_option maxRecDepth 100000 in
theorem bitAffine (h : Own R w0 w L) (c x y z P ix iy iz iP : Nat) (X Y : Int) (Z p : Nat) (hcP : w.cell? ⟨c, 1, .none⟩ = some (ptr P)) (hRc : R c) (hx : L[ix]? = some (x, X)) (hy : L[iy]? = some (y, Y)) (hz : L[iz]? = some (z, (Z : Int))) (hP : L[iP]? = some (P, (p : Int))) (sX : Sz 260 X) (sY : Sz 260 Y) (pB : p < B64 ^ 4) (hZ : 0 < Z) (hZp : Z < p) (hgc : Int.gcd Z p = 1) :
 Calls Tryz.prog 107 #[ptr c, ptr x, ptr y, ptr z] w (DuoB R w0 L (AffB p X Y Z)) := by
 have HSS := Lz h
 have O0 := Lz h.since
 have HX := Lz hx
 have HY := Lz hy
 have HZ := Lz hz
 have HP := Lz hP
 have SX := Lz sX
 have SY := Lz sY
 have SZ := Lz (show Sz 256 (Z : Int) from sz_of_lt (n := 4) (by omega))
 have SP := Lz (show Sz 256 (p : Int) from sz_of_lt (n := 4) (by omega))
 have HD := Lz (show DivOK ((p : Int)).natAbs from by rw [Int.natAbs_natCast]; exact DivOK.four (by omega) pB)
 have HP0 := Lz (show (p : Int) ≠ 0 by omega)
 have HZ0 := Lz hZ
 have HZP := Lz hZp
 have PB := Lz pB
 have HGC := Lz hgc
 have HCMP := Lz (show cmpI (Z : Int) ((0 : Nat) : Int) = 1 from by unfold cmpI; rw [if_neg (by omega), if_pos (by omega)])
 have K0 := Lz (fun (w' : World) (k : Kept R w w') => (k.cell hRc hcP : w'.cell? ⟨c, 1, .none⟩ = some (ptr P)))
 have cP := hcP
 clear h hx hy hz hP sX sY pB hRc hcP hZ hZp hgc
 unfold ptr at *
 go_enter Tryz.func107, Tryz.ntmps107
 go_wp2_with fail
 refine (newIntO O0.out 0 (by decide)).mono ?_
 rintro en wA ⟨zz, rfl, hq, hRn⟩
 have OA := Lz (show Own R w wA ((zz, ((0 : Nat) : Int)) :: L) from hq)
 have hc := cmpO OA.out (iz + 1) 0 HZ.out rfl (SZ.out.le (by decide))
 rw [HCMP.out] at hc
 have HC := Lz hc
 clear hq hRn hc
 clear cP
 have cP := K0.out wA OA.out.kept
 go_wp2_with fail
 refine HC.out.mono ?_
 rintro e wB ⟨rfl, nq, hwB⟩
 have O1 := Lz (show Own R w wB ((zz, ((0 : Nat) : Int)) :: L) from by rw [hwB]; exact OA.out.drew nq)
 clear hwB cP HC
 have cP := K0.out wB O1.out.kept
 have lc : c < wB.heap.size := World.block_lt_of_cell? wB ⟨c, 1, .none⟩ cP
 obtain ⟨hN, hR⟩ := O1.out.new
 have HN1 := Lz hN
 have NRzi := Lz hR
 clear hN hR
 go_wp2_with fail
 refine (modInverseO HN1.out 0 (iz + 2) (iP + 2) Z p rfl HZ.out HP.out NRzi.out HZ0.out HZP.out PB.out HGC.out).mono ?_
 rintro en w2 ⟨t, rfl, hq, ht, htd⟩
 have O2 := Lz (show Own R w w2 ((wB.heap.size, (t : Int)) :: (zz, ((0 : Nat) : Int)) :: L) from hq)
 have ST := Lz (show Sz 256 (t : Int) from sz_of_lt (n := 4) (by have := PB.out; omega))
 have HT := Lz htd
 clear hq ht htd
 clear cP
 have cP := K0.out w2 O2.out.kept
 obtain ⟨hN, hR⟩ := O2.out.new
 have HN2 := Lz hN
 have NRq := Lz hR
 clear hN hR
 go_wp2_with fail
 refine (mulO HN2.out 0 1 1 rfl rfl rfl NRq.out (ST.out.le (by decide : 256 ≤ 704)) (ST.out.le (by decide : 256 ≤ 2496))).mono ?_
 rintro en w3 ⟨rfl, hq⟩
 obtain ⟨v1, hv⟩ : ∃ v1 : Int, v1 = (t : Int) * (t : Int) := ⟨_, rfl⟩
 have O3 := Lz (show Own R w w3 ((w2.heap.size, v1) :: (wB.heap.size, (t : Int)) :: (zz, ((0 : Nat) : Int)) :: L) from by rw [hv]; exact hq)
 have S1 := Lz (show Sz 512 v1 from by rw [hv]; exact ST.out.mul ST.out)
 have E1 := Lz hv
 clear hq hv
 clear cP
 have cP := K0.out w3 O3.out.kept
 obtain ⟨hN, hR⟩ := O3.out.new
 have HN3 := Lz hN
 have NRxo := Lz hR
 clear hN hR
 go_wp2_with fail
 refine (mulO HN3.out 0 (ix + 4) 1 rfl HX.out rfl NRxo.out (SX.out.le (by decide : 260 ≤ 704)) (S1.out.le (by decide : 512 ≤ 2496))).mono ?_
 rintro en w4 ⟨rfl, hq⟩
 obtain ⟨v2, hv⟩ : ∃ v2 : Int, v2 = X * v1 := ⟨_, rfl⟩
 have O4 := Lz (show Own R w w4 ((w3.heap.size, v2) :: (w2.heap.size, v1) :: (wB.heap.size, (t : Int)) :: (zz, ((0 : Nat) : Int)) :: L) from by rw [hv]; exact hq)
 have S2 := Lz (show Sz 772 v2 from by rw [hv]; exact SX.out.mul S1.out)
 have E2 := Lz hv
 clear hq hv
 clear cP
 have cP := K0.out w4 O4.out.kept
 go_wp2_with fail
 refine (modO O4.out 0 0 (iP + 4) rfl rfl HP.out (by omega) NRxo.out (S2.out.le (by decide : 772 ≤ 630000)) (SP.out.le (by decide : 256 ≤ 630000)) HD.out HP0.out).mono ?_
 rintro en w5 ⟨rfl, hq⟩
 obtain ⟨v3, hv⟩ : ∃ v3 : Int, v3 = v2 % (p : Int) := ⟨_, rfl⟩
 have O5 := Lz (show Own R w w5 ((w3.heap.size, v3) :: (w2.heap.size, v1) :: (wB.heap.size, (t : Int)) :: (zz, ((0 : Nat) : Int)) :: L) from by rw [hv]; exact hq)
 have S3 := Lz (show Sz 256 v3 from by rw [hv]; exact Sz.emod _ HP0.out SP.out)
 have E3 := Lz hv
 clear hq hv
 clear cP
 have cP := K0.out w5 O5.out.kept
 go_wp2_with fail
 refine (mulO O5.out 1 1 2 rfl rfl rfl NRq.out (S1.out.le (by decide : 512 ≤ 704)) (ST.out.le (by decide : 256 ≤ 2496))).mono ?_
 rintro en w6 ⟨rfl, hq⟩
 obtain ⟨v4, hv⟩ : ∃ v4 : Int, v4 = v1 * (t : Int) := ⟨_, rfl⟩
 have O6 := Lz (show Own R w w6 ((w3.heap.size, v3) :: (w2.heap.size, v4) :: (wB.heap.size, (t : Int)) :: (zz, ((0 : Nat) : Int)) :: L) from by rw [hv]; exact hq)
 have S4 := Lz (show Sz 768 v4 from by rw [hv]; exact S1.out.mul ST.out)
 have E4 := Lz hv
 clear hq hv
 clear cP
 have cP := K0.out w6 O6.out.kept
 obtain ⟨hN, hR⟩ := O6.out.new
 have HN6 := Lz hN
 have NRyo := Lz hR
 clear hN hR
 go_wp2_with fail
 refine (mulO HN6.out 0 (iy + 5) 2 rfl HY.out rfl NRyo.out (SY.out.le (by decide : 260 ≤ 704)) (S4.out.le (by decide : 768 ≤ 2496))).mono ?_
 rintro en w7 ⟨rfl, hq⟩
 obtain ⟨v5, hv⟩ : ∃ v5 : Int, v5 = Y * v4 := ⟨_, rfl⟩
 have O7 := Lz (show Own R w w7 ((w6.heap.size, v5) :: (w3.heap.size, v3) :: (w2.heap.size, v4) :: (wB.heap.size, (t : Int)) :: (zz, ((0 : Nat) : Int)) :: L) from by rw [hv]; exact hq)
 have S5 := Lz (show Sz 1028 v5 from by rw [hv]; exact SY.out.mul S4.out)
 have E5 := Lz hv
 clear hq hv
 clear cP
 have cP := K0.out w7 O7.out.kept
 go_wp2_with fail
 refine (modO O7.out 0 0 (iP + 5) rfl rfl HP.out (by omega) NRyo.out (S5.out.le (by decide : 1028 ≤ 630000)) (SP.out.le (by decide : 256 ≤ 630000)) HD.out HP0.out).mono ?_
 rintro en w8 ⟨rfl, hq⟩
 obtain ⟨v6, hv⟩ : ∃ v6 : Int, v6 = v5 % (p : Int) := ⟨_, rfl⟩
 have O8 := Lz (show Own R w w8 ((w6.heap.size, v6) :: (w3.heap.size, v3) :: (w2.heap.size, v4) :: (wB.heap.size, (t : Int)) :: (zz, ((0 : Nat) : Int)) :: L) from by rw [hv]; exact hq)
 have S6 := Lz (show Sz 256 v6 from by rw [hv]; exact Sz.emod _ HP0.out SP.out)
 have E6 := Lz hv
 clear hq hv
 clear cP
 have cP := K0.out w8 O8.out.kept
 go_wp2_with fail
 have hO : Own R w w8 (((w6.heap.size, v6) : Nat × Int) :: (w3.heap.size, v3) :: L) := Own.choose (L := L) (A := [(w6.heap.size, v6), (w3.heap.size, v3), (w2.heap.size, v4), (wB.heap.size, (t : Int)), (zz, ((0 : Nat) : Int))]) O8.out [0, 1] (by decide) (by simp)
 have HO := Lz hO
 clear hO
 have HU := Lz (show v3 = X * ((t : Int) * t) % p by rw [E3.out, E2.out, E1.out])
 have HV := Lz (show v6 = Y * ((t : Int) * t * t) % p by rw [E6.out, E5.out, E4.out, E1.out])
 go_ret2
 have hpz : (0 : Int) < p := by have := HZ0.out; have := HZP.out; omega
 exact ⟨w3.heap.size, w6.heap.size, v3, v6, rfl, HSS.out.after HO.out, NRxo.out, NRyo.out, (by rw [HU.out]; exact ⟨Int.emod_nonneg _ (by omega), Int.emod_lt_of_pos _ hpz⟩), (by rw [HV.out]; exact ⟨Int.emod_nonneg _ (by omega), Int.emod_lt_of_pos _ hpz⟩), (t : Int), HT.out, HU.out, HV.out⟩
end
end Go.Proofs.YtohhkjamddojmaaGreatDoor.Big
