/- ScalarMult of the curves of bitcurves: the bits of bytes, the highest first. Add of the curves of bitcurves. -/
import Derived.Test.YtohhkjamddojmaaGreatDoorQI
import Derived.Test.YtohhkjamddojmaaGreatDoorQA
import Derived.Test.YtohhkjamddojmaaGreatDoorNN
set_option maxHeartbeats 16000000
namespace Go.Proofs.YtohhkjamddojmaaGreatDoor.Bit
open Go.RowKit
open Big EcLaw
attribute [local go_sem] ptr
def kv (ks : List Nat) (i j : Nat) : Nat := bev (ks.take i) * 2 ^ j + ks.getD i 0 / 2 ^ (8 - j)
theorem bev_take {ks : List Nat} {i : Nat} (h : i < ks.length) : bev (ks.take (i + 1)) = bev (ks.take i) * 256 + ks.getD i 0 := by
 rw [List.take_add_one, List.getElem?_eq_getElem h]
 show bev (ks.take i ++ [ks[i]]) = _
 rw [bev_snoc]
 simp [List.getD, h]
theorem kv_zero {ks : List Nat} {i : Nat} (hb : ks.getD i 0 < 256) : kv ks i 0 = bev (ks.take i) := by
 unfold kv
 rw [Nat.div_eq_of_lt (by simpa using hb)]; omega
theorem kv_eight {ks : List Nat} {i : Nat} (h : i < ks.length) : kv ks i 8 = bev (ks.take (i + 1)) := by
 rw [bev_take h]; unfold kv; simp
theorem byte_bit : ∀ b : Nat, b < 256 → ∀ j : Nat, j < 8 → b / 2 ^ (7 - j) = 2 * (b / 2 ^ (8 - j)) + (if (b * 2 ^ j % 256) &&& 128 = 128 then 1 else 0) := by decide +kernel
theorem byte_shl (b j : Nat) : (b * 2 ^ j % 256) * 2 % 256 = b * 2 ^ (j + 1) % 256 := by
 rw [Nat.pow_succ, ← Nat.mul_assoc, Nat.mod_mul_mod]
theorem kv_step {ks : List Nat} {i j : Nat} (hb : ks.getD i 0 < 256) (hj : j < 8) : kv ks i (j + 1) = 2 * kv ks i j + (if (ks.getD i 0 * 2 ^ j % 256) &&& 128 = 128 then 1 else 0) := by
 unfold kv
 have := byte_bit _ hb j hj
 rw [show 8 - (j + 1) = 7 - j by omega, this, Nat.pow_succ, ← Nat.mul_assoc, Nat.mul_comm _ 2, Nat.mul_add, Nat.add_assoc]
theorem bev_take_le (ks : List Nat) (i : Nat) : bev (ks.take i) ≤ bev ks := by
 have e : bev ks = bev (ks.take i ++ ks.drop i) := by rw [List.take_append_drop]
 have e2 : bev (ks.take i ++ ks.drop i) = bev (ks.take i) * 256 ^ (ks.drop i).length + bev (ks.drop i) := by
  conv => lhs; unfold bev
  rw [List.foldl_append]
  exact bev_from _ _
 have := Nat.le_mul_of_pos_right (bev (ks.take i)) (show 0 < 256 ^ (ks.drop i).length from Nat.pow_pos (by decide))
 omega
theorem kv_le {ks : List Nat} {i j : Nat} (h : i < ks.length) (hj : j ≤ 8) : kv ks i j ≤ bev ks := by
 have e := bev_take h
 have hle := bev_take_le ks (i + 1)
 have h1 : 2 ^ j ≤ 2 ^ 8 := Nat.pow_le_pow_right (by decide) hj
 have h2 : bev (ks.take i) * 2 ^ j ≤ bev (ks.take i) * 2 ^ 8 := Nat.mul_le_mul_left _ h1
 have h3 := Nat.div_le_self (ks.getD i 0) (2 ^ (8 - j))
 unfold kv
 omega
theorem and128 : ∀ s : Nat, s < 256 → (bits .and .u8 (s : Int) 128 == (128 : Int)) = decide (s &&& 128 = 128) := by decide +kernel
theorem shl8 : ∀ s : Nat, s < 256 → IntKind.u8.wrap ((s : Int) * 2) = ((s * 2 % 256 : Nat) : Int) := by decide +kernel
theorem at_app {α : Type} (A B : List α) (k : Nat) : (A ++ B)[A.length + k]? = B[k]? := by
 rw [List.getElem?_append_right (by omega), Nat.add_sub_cancel_left]
section
variable {R : Nat → Prop} {w0 w w' : World} {L L' : List (Nat × Int)}
theorem sz_red {c : Nums} (h : Grp c) {a : Int} (h0 : 0 ≤ a) (h1 : a < c.p) : Sz 256 a := by
 have := h.pB
 unfold Sz
 omega
theorem pB4 {c : Nums} (h : Grp c) : c.p < B64 ^ 4 := by
 have := h.pB
 unfold B64
 omega
theorem dblPt {c : Nums} (hc : Grp c) (h : Own R w0 w L) (cc x y z P ix iy iz iP m : Nat) (X Y Z : Int) (hcP : w.cell? ⟨cc, 1, .none⟩ = some (ptr P)) (hRc : R cc) (hx : L[ix]? = some (x, X)) (hy : L[iy]? = some (y, Y)) (hz : L[iz]? = some (z, Z)) (hP : L[iP]? = some (P, (c.p : Int)))
 (j : IsJ c.p (EcLaw.mul c.p 0 m c.G) X Y Z) : Calls Tryz.prog 105 #[ptr cc, ptr x, ptr y, ptr z] w (TriB R w0 L (IsJ c.p (EcLaw.mul c.p 0 (2 * m) c.G))) := by
 have h5 := hc.p5
 refine (bitDouble h cc x y z P ix iy iz iP X Y Z c.p hcP hRc hx hy hz hP ((sz_red hc j.1.1.1 j.1.1.2).le (by decide)) ((sz_red hc j.1.2.1.1 j.1.2.1.2).le (by decide)) ((sz_red hc j.1.2.2.1 j.1.2.2.2).le (by decide)) ((sz_of_lt (n := 4) (by have := pB4 hc; omega)).le (by decide)) (by rw [Int.natAbs_natCast]; exact DivOK.four (by omega) (pB4 hc)) (by omega)).mono ?_
 rintro e w' ⟨x3, y3, z3, X3, Y3, Z3, he, hO, n1, n2, n3, hq⟩
 exact ⟨x3, y3, z3, X3, Y3, Z3, he, hO, n1, n2, n3, step_dbl hc j hq⟩
theorem addPt {c : Nums} (hc : Grp c) (h : Own R w0 w L) (cc x1 y1 z1 x2 y2 z2 P i1 j1 k1 i2 j2 k2 iP m : Nat) (X2 Y2 Z2 : Int) (hcP : w.cell? ⟨cc, 1, .none⟩ = some (ptr P)) (hRc : R cc) (hx1 : L[i1]? = some (x1, (c.x : Int))) (hy1 : L[j1]? = some (y1, (c.y : Int))) (hz1 : L[k1]? = some (z1, 1)) (hx2 : L[i2]? = some (x2, X2)) (hy2 : L[j2]? = some (y2, Y2)) (hz2 : L[k2]? = some (z2, Z2)) (hP : L[iP]? = some (P, (c.p : Int)))
 (m0 : 2 ≤ m) (m1 : m + 1 < c.n) (j : IsJ c.p (EcLaw.mul c.p 0 m c.G) X2 Y2 Z2) : Calls Tryz.prog 106 #[ptr cc, ptr x1, ptr y1, ptr z1, ptr x2, ptr y2, ptr z2] w (TriB R w0 L (IsJ c.p (EcLaw.mul c.p 0 (m + 1) c.G))) := by
 have h5 := hc.p5
 have o1 := hc.on
 refine (bitAdd h cc x1 y1 z1 x2 y2 z2 P i1 j1 k1 i2 j2 k2 iP c.x c.y 1 X2 Y2 Z2 c.p hcP hRc hx1 hy1 hz1 hx2 hy2 hz2 hP ((sz_red hc o1.1 o1.2.1).le (by decide)) ((sz_red hc o1.2.2.1 o1.2.2.2.1).le (by decide)) ((sz_red hc (by omega) (by omega)).le (by decide)) ((sz_red hc j.1.1.1 j.1.1.2).le (by decide)) ((sz_red hc j.1.2.1.1 j.1.2.1.2).le (by decide)) ((sz_red hc j.1.2.2.1 j.1.2.2.2).le (by decide)) ((sz_of_lt (n := 4) (by have := pB4 hc; omega)).le (by decide)) (by rw [Int.natAbs_natCast]; exact DivOK.four (by omega) (pB4 hc)) (by omega)).mono ?_
 rintro e w' ⟨x3, y3, z3, X3, Y3, Z3, he, hO, n1, n2, n3, hq⟩
 exact ⟨x3, y3, z3, X3, Y3, Z3, he, hO, n1, n2, n3, step_add hc m0 m1 j hq⟩
theorem affPt {c : Nums} (hc : Grp c) (h : Own R w0 w L) (cc x y z P ix iy iz iP : Nat) (X Y Z : Int) (A : Pt) (hcP : w.cell? ⟨cc, 1, .none⟩ = some (ptr P)) (hRc : R cc) (hx : L[ix]? = some (x, X)) (hy : L[iy]? = some (y, Y)) (hz : L[iz]? = some (z, Z)) (hP : L[iP]? = some (P, (c.p : Int)))
 (hA : On c.p 0 c.b A) (hn : A ≠ .inf) (j : IsJ c.p A X Y Z) : Calls Tryz.prog 107 #[ptr cc, ptr x, ptr y, ptr z] w (DuoB R w0 L (fun U V => A = .aff U V)) := by
 have h5 := hc.p5
 cases hAe : A with
 | inf => exact absurd hAe hn
 | aff a b =>
  rw [hAe] at hA j
  obtain ⟨⟨⟨x0, x1⟩, ⟨y0, y1⟩, ⟨z0, z1⟩⟩, jj⟩ := j
  obtain ⟨Z', rfl⟩ : ∃ Z' : Nat, Z = Z' := ⟨Z.toNat, by omega⟩
  have hnd : ¬ c.p ∣ Z' := fun hd => jj.1 (Int.natCast_dvd_natCast.2 hd)
  have hz0 : 0 < Z' := by
   rcases Nat.eq_zero_or_pos Z' with h0 | h0
   · exact absurd (h0 ▸ Nat.dvd_zero _) hnd
   · exact h0
  have hg : Int.gcd (Z' : Int) c.p = 1 := by
   have := hc.pp.coprime hnd
   rw [Int.gcd_comm]
   exact this
  refine (bitAffine h cc x y z P ix iy iz iP X Y Z' c.p hcP hRc hx hy hz hP ((sz_red hc x0 x1).le (by decide)) ((sz_red hc y0 y1).le (by decide)) (pB4 hc) hz0 (by omega) hg).mono ?_
  rintro e w' ⟨x3, y3, X3, Y3, he, hO, n1, n2, ⟨u0, u1⟩, ⟨v0, v1⟩, t, ht, hU, hV⟩
  refine ⟨x3, y3, X3, Y3, he, hO, n1, n2, ?_⟩
  have k1 : (c.p : Int) ∣ X3 - X * t ^ 2 := by
   have := dvd_mod hU
   exact zzq 1 this (by grind)
  have k2 : (c.p : Int) ∣ Y3 - Y * t ^ 3 := by
   have := dvd_mod hV
   exact zzq 1 this (by grind)
  obtain ⟨e1, e2⟩ := jac_affine hc.prm hA jj ht k1 k2 u0 u1 v0 v1
  rw [e1, e2]
def SI (R : Nat → Prop) (w : World) (L : List (Nat × Int)) (c : Nums) (bz : Nat) (wr : World) (x y z m : Nat) (sn : Bool) : Prop :=
 ∃ (A : List (Nat × Int)) (ix iy iz : Nat) (X Y Z : Int), sn = decide (m ≠ 0) ∧ Own R w wr (A ++ (bz, 1) :: L) ∧ (A ++ (bz, 1) :: L)[ix]? = some (x, X) ∧ (A ++ (bz, 1) :: L)[iy]? = some (y, Y) ∧ (A ++ (bz, 1) :: L)[iz]? = some (z, Z) ∧ IsJ c.p (EcLaw.mul c.p 0 (if m = 0 then 1 else m) c.G) X Y Z
theorem at_back {A L : List (Nat × Int)} {bz i x : Nat} {X : Int} (h : L[i]? = some (x, X)) : (A ++ (bz, 1) :: L)[A.length + (i + 1)]? = some (x, X) := by rw [at_app]; exact h
set_option maxRecDepth 100000 in
theorem scalarB {c : Nums} (hc : Grp c) (h : Own R w0 w L) (cc bx by_ P kb ko kc ix iy iP : Nat) (ks : List Nat) (hcP : w.cell? ⟨cc, 1, .none⟩ = some (ptr P)) (hRc : R cc)
 (hx : L[ix]? = some (bx, (c.x : Int))) (hy : L[iy]? = some (by_, (c.y : Int))) (hP : L[iP]? = some (P, (c.p : Int))) (hRk : R kb) (hk : ∀ i, i < ks.length → w.cell? ⟨kb, ko + i, .none⟩ = some (.int .u8 (ks.getD i 0 : Nat))) (hks : ∀ i, ks.getD i 0 < 256) (hlen : ks.length < 1000000)
 (k0 : 0 < bev ks) (k1 : bev ks < c.n) :
 Calls Tryz.prog 60 #[ptr cc, ptr bx, ptr by_, .slice (some ⟨kb, ko, .none⟩) ks.length kc] w (DuoB R w0 L (fun U V => EcLaw.mul c.p 0 (bev ks) c.G = .aff U V)) := by
 have HGR := Lz hc
 have HDB := Lz (fun w1 (A : List (Nat × Int)) (x y z bz m jx jy jz : Nat) (X Y Z : Int) (o : Own R w w1 (A ++ (bz, 1) :: L)) (e1 : (A ++ (bz, 1) :: L)[jx]? = some (x, X)) (e2 : (A ++ (bz, 1) :: L)[jy]? = some (y, Y)) (e3 : (A ++ (bz, 1) :: L)[jz]? = some (z, Z)) (j : IsJ c.p (EcLaw.mul c.p 0 m c.G) X Y Z) => dblPt hc o cc x y z P jx jy jz (A.length + (iP + 1)) m X Y Z (o.keep hcP hRc) hRc e1 e2 e3 (at_back hP) j)
 have HAD := Lz (fun w1 (A : List (Nat × Int)) (x y z bz m jx jy jz : Nat) (X Y Z : Int) (o : Own R w w1 (A ++ (bz, 1) :: L)) (e1 : (A ++ (bz, 1) :: L)[jx]? = some (x, X)) (e2 : (A ++ (bz, 1) :: L)[jy]? = some (y, Y)) (e3 : (A ++ (bz, 1) :: L)[jz]? = some (z, Z)) (m0 : 2 ≤ m) (m1 : m + 1 < c.n) (j : IsJ c.p (EcLaw.mul c.p 0 m c.G) X Y Z) => addPt hc o cc bx by_ bz x y z P (A.length + (ix + 1)) (A.length + (iy + 1)) (A.length + 0) jx jy jz (A.length + (iP + 1)) m X Y Z (o.keep hcP hRc) hRc (at_back hx) (at_back hy) (at_app _ _ 0) e1 e2 e3 (at_back hP) m0 m1 j)
 have HAF := Lz (fun w1 (A : List (Nat × Int)) (x y z bz m jx jy jz : Nat) (X Y Z : Int) (o : Own R w w1 (A ++ (bz, 1) :: L)) (e1 : (A ++ (bz, 1) :: L)[jx]? = some (x, X)) (e2 : (A ++ (bz, 1) :: L)[jy]? = some (y, Y)) (e3 : (A ++ (bz, 1) :: L)[jz]? = some (z, Z)) (m0 : 0 < m) (m1 : m < c.n) (j : IsJ c.p (EcLaw.mul c.p 0 m c.G) X Y Z) => affPt hc o cc x y z P jx jy jz (A.length + (iP + 1)) X Y Z (EcLaw.mul c.p 0 m c.G) (o.keep hcP hRc) hRc e1 e2 e3 (at_back hP) (mul_on hc.prm hc.on m) (hc.ne m0 m1) j)
 have HJ0 := Lz (show IsJ c.p (EcLaw.mul c.p 0 1 c.G) c.x c.y 1 by rw [EcLaw.mul_one]; exact aff_isJ hc.prm hc.on)
 have HSS := Lz h
 have HO0 := Lz h.since
 have HKS := Lz hks
 have HXY := Lz (And.intro hx hy)
 have HB := Lz (And.intro k0 k1)
 have HK := Lz (fun (w' : World) (k : Kept R w w') i hi => (k.cell hRk (hk i hi) : w'.cell? ⟨kb, ko + i, .none⟩ = some (.int .u8 (ks.getD i 0 : Nat))))
 clear h hcP hRc hx hy hP hRk hk hks k0 k1 hc
 unfold ptr at *
 go_enter Tryz.func60, Tryz.ntmps60
 obtain ⟨hN, hR⟩ := HO0.out.new
 have C1 := Lz (setIntO hN 0 1 rfl hR (by decide))
 clear hN hR
 go_wp2_with fail
 refine C1.out.mono ?_
 rintro en w2 ⟨rfl, hq⟩
 have H2 := Lz (show Own R w w2 ((w.heap.size, 1) :: L) from hq)
 clear hq
 obtain ⟨bz, hbz⟩ : ∃ bz, bz = w.heap.size := ⟨_, rfl⟩
 rw [← hbz] at H2
 simp only [← hbz]
 clear hbz C1
 have H3 := Lz (show SI R w L c bz w2 bx by_ bz 0 false from ⟨[], ix + 1, iy + 1, 0, c.x, c.y, 1, rfl, H2.out, HXY.out.1, HXY.out.2, rfl, HJ0.out⟩)
 clear H2
 unfold ptr
 go_wp2_with fail
 go_loopw [11, 12, 13, 14, 25] (fun sx sy sz ss si wr => ∃ (i x y z : Nat) (sn : Bool), sx = .pointer (some ⟨x, 0, .none⟩) ∧ sy = .pointer (some ⟨y, 0, .none⟩) ∧ sz = .pointer (some ⟨z, 0, .none⟩) ∧ ss = .bool sn ∧ si = .int .i64 i ∧ i ≤ ks.length ∧ RowKit.Hid (SI R w L c bz wr x y z (bev (ks.take i)) sn)) (fun _ _ _ _ si _ => ks.length - (intOf si).toNat)
 case atStart => exact ⟨0, _, _, _, _, rfl, rfl, rfl, rfl, rfl, Nat.zero_le _, H3.out⟩
 case round =>
  obtain ⟨i, x, y, z, sn, rfl, rfl, rfl, rfl, rfl, hi, HR⟩ := hrel
  by_cases hlt : i < ks.length
  · have hc := HK.out _ (by obtain ⟨_, _, _, _, _, _, _, _, ho, -⟩ := HR.out; exact ho.kept) i hlt
    have hb := HKS.out i
    obtain ⟨b, hbd⟩ : ∃ b, b = ks.getD i 0 := ⟨_, rfl⟩
    rw [← hbd] at hc hb
    have HBD := Lz hbd
    have HJ := Lz (show SI R w L c bz wr x y z (kv ks i 0) sn by rw [kv_zero (HKS.out i)]; exact HR.out)
    have HLT := Lz hlt
    clear hbd
    go_wp2_with fail
    go_loopw [11, 12, 13, 14, 16, 17] (fun sx sy sz ss sb sj wr2 => ∃ (j s x y z : Nat) (sn : Bool), sx = .pointer (some ⟨x, 0, .none⟩) ∧ sy = .pointer (some ⟨y, 0, .none⟩) ∧ sz = .pointer (some ⟨z, 0, .none⟩) ∧ ss = .bool sn ∧ sb = .int .u8 s ∧ sj = .int .i64 j ∧ j ≤ 8 ∧ s < 256 ∧ RowKit.Hid (s = b * 2 ^ j % 256 ∧ SI R w L c bz wr2 x y z (kv ks i j) sn)) (fun _ _ _ _ _ sj _ => 8 - (intOf sj).toNat)
    case atStart => exact ⟨0, b, x, y, z, sn, rfl, rfl, rfl, rfl, rfl, rfl, by omega, hb, ⟨by omega, HJ.out⟩⟩
    case round =>
     obtain ⟨j, s, x2, y2, z2, sn2, rfl, rfl, rfl, rfl, rfl, rfl, hj8, hs, HQ⟩ := hrel
     by_cases hj : j < 8
     · have HE := Lz (kv_step (j := j) (HKS.out i) hj)
       rw [← HBD.out, ← HQ.out.1] at HE
       have e128 := and128 s hs
       have esh := shl8 s hs
       have hs2 : s * 2 % 256 < 256 := Nat.mod_lt _ (by decide)
       have HS2 := Lz (show s * 2 % 256 = b * 2 ^ (j + 1) % 256 by rw [HQ.out.1]; exact byte_shl b j)
       obtain ⟨s2, hs2d⟩ : ∃ s2, s2 = s * 2 % 256 := ⟨_, rfl⟩
       rw [← hs2d] at HS2 hs2 esh
       have HLE := Lz (kv_le (j := j + 1) HLT.out (by omega))
       obtain ⟨A, jx, jy, jz, X, Y, Z, hsn, hO, e1, e2, e3, hJ⟩ := HQ.out.2
       have HO := Lz hO
       have HEE := Lz (And.intro e1 (And.intro e2 e3))
       by_cases hm : kv ks i j = 0
       · rw [hm] at hsn hJ
         obtain rfl : sn2 = false := hsn
         have HJ1 := Lz (show IsJ c.p (EcLaw.mul c.p 0 1 c.G) X Y Z from hJ)
         have HM := Lz hm
         clear hJ hO e1 e2 e3 hm
         by_cases hbit : s &&& 128 = 128
         · have hbt : (bits .and .u8 (s : Int) 128 == (128 : Int)) = true := by rw [e128]; simp [hbit]
           have HN := Lz (show SI R w L c bz wr x2 y2 z2 (kv ks i (j + 1)) true from ⟨A, jx, jy, jz, X, Y, Z, by rw [HE.out, HM.out, if_pos hbit]; rfl, HO.out, HEE.out.1, HEE.out.2.1, HEE.out.2.2, by rw [HE.out, HM.out, if_pos hbit]; exact HJ1.out⟩)
           clear e128 hbit HE
           go_wp2_with fail
           go_roundw
           case rel => exact ⟨j + 1, s2, x2, y2, z2, true, rfl, rfl, rfl, rfl, by first | rfl | rw [show (s : Int) * 2 % 256 = (s2 : Int) by omega], by go_num, by omega, hs2, ⟨HS2.out, HN.out⟩⟩
           case measure => simp [intOf]; omega
         · have hbt : (bits .and .u8 (s : Int) 128 == (128 : Int)) = false := by rw [e128]; simp [hbit]
           have HN := Lz (show SI R w L c bz wr x2 y2 z2 (kv ks i (j + 1)) false from ⟨A, jx, jy, jz, X, Y, Z, by rw [HE.out, HM.out, if_neg hbit]; rfl, HO.out, HEE.out.1, HEE.out.2.1, HEE.out.2.2, by rw [HE.out, HM.out, if_neg hbit]; exact HJ1.out⟩)
           clear e128 hbit HE
           go_wp2_with fail
           go_roundw
           case rel => exact ⟨j + 1, s2, x2, y2, z2, false, rfl, rfl, rfl, rfl, by first | rfl | rw [show (s : Int) * 2 % 256 = (s2 : Int) by omega], by go_num, by omega, hs2, ⟨HS2.out, HN.out⟩⟩
           case measure => simp [intOf]; omega
       · obtain rfl : sn2 = true := by rw [hsn]; simp [hm]
         rw [if_neg hm] at hJ
         have HJ1 := Lz hJ
         have HM := Lz hm
         clear hsn hJ hO e1 e2 e3 hm
         have HD := Lz (HDB.out _ A x2 y2 z2 bz _ jx jy jz X Y Z HO.out HEE.out.1 HEE.out.2.1 HEE.out.2.2 HJ1.out)
         go_wp2_with fail
         refine HD.out.mono ?_
         rintro en w5 ⟨x3, y3, z3, X3, Y3, Z3, rfl, hq, -, -, -, hj3⟩
         have H5 := Lz (show Own R w w5 (((z3, Z3) :: (y3, Y3) :: (x3, X3) :: A) ++ (bz, 1) :: L) from hq)
         have HJ3 := Lz hj3
         clear hq hj3 HD HO HEE HJ1
         by_cases hbit : s &&& 128 = 128
         · have hbt : (bits .and .u8 (s : Int) 128 == (128 : Int)) = true := by rw [e128]; simp [hbit]
           have HE2 := Lz (show kv ks i (j + 1) = 2 * kv ks i j + 1 by rw [HE.out, if_pos hbit])
           have HA := Lz (HAD.out _ _ x3 y3 z3 bz _ 2 1 0 X3 Y3 Z3 H5.out rfl rfl rfl (by have := HM.out; omega) (by have := HLE.out; have := HE2.out; have := HB.out; omega) HJ3.out)
           clear e128 hbit HE
           go_wp2_with fail
           refine HA.out.mono ?_
           rintro en w6 ⟨x4, y4, z4, X4, Y4, Z4, rfl, hq, -, -, -, hj4⟩
           have HN := Lz (show SI R w L c bz w6 x4 y4 z4 (kv ks i (j + 1)) true from ⟨(z4, Z4) :: (y4, Y4) :: (x4, X4) :: (z3, Z3) :: (y3, Y3) :: (x3, X3) :: A, 2, 1, 0, X4, Y4, Z4, by rw [HE2.out]; simp, hq, rfl, rfl, rfl, by rw [HE2.out, if_neg (by omega)]; exact hj4⟩)
           clear hq hj4 HA
           go_wp2_with fail
           go_roundw
           case rel => exact ⟨j + 1, s2, x4, y4, z4, true, rfl, rfl, rfl, rfl, by first | rfl | rw [show (s : Int) * 2 % 256 = (s2 : Int) by omega], by go_num, by omega, hs2, ⟨HS2.out, HN.out⟩⟩
           case measure => simp [intOf]; omega
         · have hbt : (bits .and .u8 (s : Int) 128 == (128 : Int)) = false := by rw [e128]; simp [hbit]
           have HN := Lz (show SI R w L c bz w5 x3 y3 z3 (kv ks i (j + 1)) true from ⟨(z3, Z3) :: (y3, Y3) :: (x3, X3) :: A, 2, 1, 0, X3, Y3, Z3, by rw [HE.out, if_neg hbit]; have := HM.out; simp; omega, H5.out, rfl, rfl, rfl, by rw [HE.out, if_neg hbit, if_neg (by have := HM.out; omega)]; exact HJ3.out⟩)
           clear e128 hbit HE
           go_wp2_with fail
           go_roundw
           case rel => exact ⟨j + 1, s2, x3, y3, z3, true, rfl, rfl, rfl, rfl, by first | rfl | rw [show (s : Int) * 2 % 256 = (s2 : Int) by omega], by go_num, by omega, hs2, ⟨HS2.out, HN.out⟩⟩
           case measure => simp [intOf]; omega
     · obtain rfl : j = 8 := by omega
       have HJ8 := Lz (show SI R w L c bz wr x2 y2 z2 (bev (ks.take (i + 1))) sn2 by rw [← kv_eight hlt]; exact HQ.out.2)
       go_wp2_with fail
       go_roundw
       case rel => exact ⟨i + 1, x2, y2, z2, sn2, rfl, rfl, rfl, rfl, by go_num, by omega, HJ8.out⟩
       case measure => simp [intOf]; omega
  · have hie : i = ks.length := by omega
    subst hie
    obtain ⟨A, jx, jy, jz, X, Y, Z, hsn, hO, e1, e2, e3, hJ⟩ := HR.out
    rw [List.take_length] at hsn hJ
    have hm : bev ks ≠ 0 := by have := HB.out; omega
    obtain rfl : sn = true := by rw [hsn]; simp [hm]
    rw [if_neg hm] at hJ
    have HA := Lz (HAF.out _ A x y z bz _ jx jy jz X Y Z hO e1 e2 e3 (by omega) (by have := HB.out; omega) hJ)
    clear hsn hJ hO e1 e2 e3 hm
    go_wp2_with fail
    refine HA.out.mono ?_
    rintro en w6 ⟨xx, yy, XX, YY, rfl, hq, m1, m2, hs⟩
    have hO : Own R w w6 (((yy, YY) : Nat × Int) :: (xx, XX) :: L) := Own.choose (L := L) (A := (yy, YY) :: (xx, XX) :: (A ++ [(bz, 1)])) (by simpa using hq) [0, 1] (by decide) (by simp)
    have HO := Lz (HSS.out.after hO)
    have HM := Lz (And.intro m1 m2)
    have HE := Lz hs
    clear hq hO m1 m2 hs
    go_wp2_with fail
    go_ret2
    exact ⟨xx, yy, XX, YY, rfl, HO.out, HM.out.1, HM.out.2, HE.out⟩
end
end Go.Proofs.YtohhkjamddojmaaGreatDoor.Bit

set_option maxHeartbeats 16000000
namespace Go.Proofs.YtohhkjamddojmaaGreatDoor.Bit
open Go.RowKit
open Big EcLaw
attribute [local go_sem] ptr
section
variable {R : Nat → Prop} {w0 w w' : World} {L L' : List (Nat × Int)}
set_option maxRecDepth 100000 in
theorem addB {c : Nums} (hc : Grp c) (h : Own R w0 w L) (cc x1 y1 x2 y2 P i1 j1 i2 j2 iP : Nat) (X1 Y1 X2 Y2 : Int) (hcP : w.cell? ⟨cc, 1, .none⟩ = some (ptr P)) (hRc : R cc)
 (hx1 : L[i1]? = some (x1, X1)) (hy1 : L[j1]? = some (y1, Y1)) (hx2 : L[i2]? = some (x2, X2)) (hy2 : L[j2]? = some (y2, Y2)) (hP : L[iP]? = some (P, (c.p : Int)))
 (o1 : On c.p 0 c.b (.aff X1 Y1)) (o2 : On c.p 0 c.b (.aff X2 Y2)) (hne : Pt.aff X1 Y1 ≠ .aff X2 Y2) (hs : EcLaw.add c.p 0 (.aff X1 Y1) (.aff X2 Y2) ≠ .inf) :
 Calls Tryz.prog 71 #[ptr cc, ptr x1, ptr y1, ptr x2, ptr y2] w (DuoB R w0 L (fun U V => EcLaw.add c.p 0 (.aff X1 Y1) (.aff X2 Y2) = .aff U V)) := by
 have h5 := hc.p5
 obtain ⟨hN, hR⟩ := h.since.new
 have C1 := Lz (setIntO hN 0 1 rfl hR (by decide))
 have HAD := Lz (fun w1 (z : Nat) (o : Own R w w1 ((z, 1) :: L)) => bitAdd o cc x1 y1 z x2 y2 z P (i1 + 1) (j1 + 1) 0 (i2 + 1) (j2 + 1) 0 (iP + 1) X1 Y1 1 X2 Y2 1 c.p (o.keep hcP hRc) hRc hx1 hy1 rfl hx2 hy2 rfl hP ((sz_red hc o1.1 o1.2.1).le (by decide)) ((sz_red hc o1.2.2.1 o1.2.2.2.1).le (by decide)) ((sz_red hc (by omega) (by omega)).le (by decide)) ((sz_red hc o2.1 o2.2.1).le (by decide)) ((sz_red hc o2.2.2.1 o2.2.2.2.1).le (by decide)) ((sz_red hc (by omega) (by omega)).le (by decide)) ((sz_of_lt (n := 4) (by have := pB4 hc; omega)).le (by decide)) (by rw [Int.natAbs_natCast]; exact DivOK.four (by omega) (pB4 hc)) (by omega))
 have HJ := Lz (fun (X3 Y3 Z3 : Int) (D : BitAdd X1 Y1 1 X2 Y2 1 c.p X3 Y3 Z3) => bitAdd_isJ hc.prm o1 o2 (aff_isJ hc.prm o1) (aff_isJ hc.prm o2) (by simp) (by simp) hne D)
 have HAF := Lz (fun w1 (L1 : List (Nat × Int)) (x y z : Nat) (X Y Z : Int) (o : Own R w w1 ((z, Z) :: (y, Y) :: (x, X) :: L1)) (iQ : Nat) (hQ : L1[iQ]? = some (P, (c.p : Int))) (j : IsJ c.p (EcLaw.add c.p 0 (.aff X1 Y1) (.aff X2 Y2)) X Y Z) => affPt hc o cc x y z P 2 1 0 (iQ + 3) X Y Z _ (o.keep hcP hRc) hRc rfl rfl rfl hQ (add_on hc.prm o1 o2) hs j)
 have HSS := Lz h
 have HPP := Lz hP
 clear h hcP hRc hx1 hy1 hx2 hy2 hP hc o1 o2 hne hs hN hR
 unfold ptr at *
 go_enter Tryz.func71, Tryz.ntmps71
 go_wp2_with fail
 refine C1.out.mono ?_
 rintro en w2 ⟨rfl, hq⟩
 have H2 := Lz (show Own R w w2 ((w.heap.size, 1) :: L) from hq)
 clear hq C1
 generalize w.heap.size = bz at *
 have HA := Lz (HAD.out _ bz H2.out)
 unfold ptr
 go_wp2_with fail
 refine HA.out.mono ?_
 rintro en w6 ⟨x4, y4, z4, X4, Y4, Z4, rfl, hq, -, -, -, hD⟩
 have HF := Lz (HAF.out _ ((bz, 1) :: L) x4 y4 z4 X4 Y4 Z4 hq (iP + 1) HPP.out (HJ.out _ _ _ hD))
 clear hq hD HA
 go_wp2_with fail
 refine HF.out.mono ?_
 rintro en w7 ⟨xx, yy, XX, YY, rfl, hq, m1, m2, hs⟩
 have hO : Own R w w7 (((yy, YY) : Nat × Int) :: (xx, XX) :: L) := Own.choose (L := L) (A := [(yy, YY), (xx, XX), (z4, Z4), (y4, Y4), (x4, X4), (bz, 1)]) hq [0, 1] (by decide) (by simp)
 have HO := Lz (HSS.out.after hO)
 have HM := Lz (And.intro m1 m2)
 have HE := Lz hs
 clear hq hO m1 m2 hs
 go_wp2_with fail
 go_ret2
 exact ⟨xx, yy, XX, YY, rfl, HO.out, HM.out.1, HM.out.2, HE.out⟩
end
end Go.Proofs.YtohhkjamddojmaaGreatDoor.Bit
