/- Doubling in Jacobian coordinates on the curves y^2 = x^3 + b of bitcurves: the steps as the program takes them. -/
import Derived.Test.YtohhkjamddojmaaGreatDoorTA
import Derived.Test.YtohhkjamddojmaaGreatDoorLA
import Derived.Deep.Cut
set_option maxRecDepth 100000
set_option maxHeartbeats 16000000
namespace Go.Proofs.YtohhkjamddojmaaGreatDoor.Big
open Go.RowKit
attribute [local go_sem] ptr
theorem sz_small {a:Int} (h:a.natAbs<16):Sz 4 a:=h
attribute [local irreducible] Sz
section
variable {R : Nat → Prop} {w0 w w' : World} {L L' : List (Nat × Int)}
theorem Int_MulN {R:Nat->Prop} {w:World} {zs:List Nat} {vs:List Int} (h:Ints R w zs vs) (i j k z x y:Nat) (a b:Int) (hi:zs[i]? = some z) (hj:zs[j]? = some x) (hk:zs[k]? = some y) (hR:¬R z) (hxy:x≠y)
 (ha:vs[j]? = some a) (hb:vs[k]? = some b) (hla:(dg a.natAbs).length<=39) (hlb:(dg b.natAbs).length<=39) (htab:Tab w) :
 Calls Tryz.prog 124 #[ptr z,ptr x,ptr y] w (IntP R zs (vs.set i (a*b)) z w):=by
 obtain⟨ps,qs,h⟩:=h
 have H:=Lz (mul_other R w zs vs ps qs h (.pointer .none) i j k z x y a b hi hj hk hR hxy ha hb hla hlb htab)
 clear h hi hj hk hR ha hb hla hlb htab hxy
 unfold ptr at *
 go_enter Tryz.func124,Tryz.ntmps124
 go_wp2_with fail
 refine H.out.mono ?_
 rintro e w1 ⟨rfl,hh⟩
 have HH:=Lz hh
 clear hh
 go_wp2_with fail
 go_ret
 exact⟨rfl,HH.out⟩
theorem mulNO (h:Own R w0 w L) (i j k:Nat) {z x y:Nat} {v a b:Int} (hi:L[i]? = some (z,v)) (hj:L[j]? = some (x,a)) (hk:L[k]? = some (y,b)) (hjk:j≠k) (hR:¬R z) (sa:Sz 2496 a) (sb:Sz 2496 b) :
 Calls Tryz.prog 124 #[ptr z,ptr x,ptr y] w (OpP R w0 z (L.set i (z,a*b))):=
 (Int_MulN h.ints i j k z x y a b (at1 hi) (at1 hj) (at1 hk) hR (h.inj hj hk hjk) (at2 hj) (at2 hk) (Sz.words (k:=39) sa) (Sz.words (k:=39) sb) h.tab).mono λ_ _ hp=>OpP.of h hi hp
def BitDbl (X Y Z p:Int) (v16 v22 v26:Int):Prop:=∃ v1 v2 v3 v4 v5 v6 v7 v9 v11 v12 v14 v15 v17 v18 v20 v21 v23 v25:Int,v1=X*X/\v2=Y*Y/\v3=v2*v2/\v4=X+v2/\v5=v4*v4/\v6=v5-v1/\v7=v6-v3/\v9=v7*(2:Int)/\v11=(3:Int)*v1/\v12=v11*v11/\v14=(2:Int)*v9/\v15=v12-v14/\v16=v15%p/\v17=v9-v16/\v18=v11*v17/\v20=(8:Int)*v3/\v21=v18-v20/\v22=v21%p/\v23=Y*Z/\v25=(2:Int)*v23/\v26=v25%p
def TriB (R:Nat->Prop) (w0:World) (L:List (Nat×Int)) (Q:Int->Int->Int->Prop) (e:Ending) (w':World):Prop:=
 ∃ x3 y3 z3 X3 Y3 Z3,e=.returned (.tuple #[ptr x3,ptr y3,ptr z3])/\Own R w0 w' ((z3,Z3) :: (y3,Y3) :: (x3,X3) :: L)/\¬R x3/\¬R y3/\¬R z3/\Q X3 Y3 Z3
theorem bitDouble (h:Own R w0 w L) (c x y z P ix iy iz iP:Nat) (X Y Z p:Int) (hcP:w.cell? ⟨c,1,.none⟩=some (ptr P)) (hRc:R c) (hx:L[ix]? = some (x,X)) (hy:L[iy]? = some (y,Y)) (hz:L[iz]? = some (z,Z)) (hP:L[iP]? = some (P,p))
 (sX:Sz 260 X) (sY:Sz 260 Y) (sZ:Sz 260 Z) (sp:Sz 260 p) (hdiv:DivOK p.natAbs) (hp0:p≠0) :
 Calls Tryz.prog 105 #[ptr c,ptr x,ptr y,ptr z] w (TriB R w0 L (BitDbl X Y Z p)):=by
 have HSS:=Lz h
 have O0:=Lz h.since
 have HX:=Lz hx
 have HY:=Lz hy
 have HZ:=Lz hz
 have HP:=Lz hP
 have SX:=Lz sX
 have SY:=Lz sY
 have SZ:=Lz sZ
 have SP:=Lz sp
 have HD:=Lz hdiv
 have HP0:=Lz hp0
 have K0:=Lz (λ(w':World) (k:Kept R w w')=>(k.cell hRc hcP:w'.cell? ⟨c,1,.none⟩=some (ptr P)))
 have cP:=hcP
 clear h hx hy hz hP sX sY sZ sp hdiv hp0 hRc hcP
 unfold ptr at *
 go_enter Tryz.func105,Tryz.ntmps105
 obtain⟨hN,hR⟩:=O0.out.new
 have HN0:=Lz hN
 have NRa:=Lz hR
 clear hN hR
 go_wp2_with fail
 refine(mulO HN0.out 0 (ix+1) (ix+1) rfl HX.out HX.out NRa.out (SX.out.le (by decide:260<=704)) (SX.out.le (by decide:260<=2496))).mono ?_
 rintro en w1 ⟨rfl,hq⟩
 obtain⟨v1,hv⟩:∃ v1:Int,v1=X*X:=⟨_,rfl⟩
 have O1:=Lz (show Own R w w1 ((w.heap.size,v1) :: L) from by rw[hv];exact hq)
 have S1:=Lz (show Sz 520 v1 from by rw[hv];exact SX.out.mul SX.out)
 have E1:=Lz hv
 clear hq hv
 clear cP
 have cP:=K0.out w1 O1.out.kept
 obtain⟨hN,hR⟩:=O1.out.new
 have HN1:=Lz hN
 have NRb:=Lz hR
 clear hN hR
 go_wp2_with fail
 refine(mulO HN1.out 0 (iy+2) (iy+2) rfl HY.out HY.out NRb.out (SY.out.le (by decide:260<=704)) (SY.out.le (by decide:260<=2496))).mono ?_
 rintro en w2 ⟨rfl,hq⟩
 obtain⟨v2,hv⟩:∃ v2:Int,v2=Y*Y:=⟨_,rfl⟩
 have O2:=Lz (show Own R w w2 ((w1.heap.size,v2) :: (w.heap.size,v1) :: L) from by rw[hv];exact hq)
 have S2:=Lz (show Sz 520 v2 from by rw[hv];exact SY.out.mul SY.out)
 have E2:=Lz hv
 clear hq hv
 clear cP
 have cP:=K0.out w2 O2.out.kept
 obtain⟨hN,hR⟩:=O2.out.new
 have HN2:=Lz hN
 have NRc:=Lz hR
 clear hN hR
 go_wp2_with fail
 refine(mulO HN2.out 0 1 1 rfl rfl rfl NRc.out (S2.out.le (by decide:520<=704)) (S2.out.le (by decide:520<=2496))).mono ?_
 rintro en w3 ⟨rfl,hq⟩
 obtain⟨v3,hv⟩:∃ v3:Int,v3=v2*v2:=⟨_,rfl⟩
 have O3:=Lz (show Own R w w3 ((w2.heap.size,v3) :: (w1.heap.size,v2) :: (w.heap.size,v1) :: L) from by rw[hv];exact hq)
 have S3:=Lz (show Sz 1040 v3 from by rw[hv];exact S2.out.mul S2.out)
 have E3:=Lz hv
 clear hq hv
 clear cP
 have cP:=K0.out w3 O3.out.kept
 obtain⟨hN,hR⟩:=O3.out.new
 have HN3:=Lz hN
 have NRd:=Lz hR
 clear hN hR
 go_wp2_with fail
 refine(addO HN3.out 0 (ix+4) 2 rfl HX.out rfl NRd.out (SX.out.le (by decide:260<=640000)) (S2.out.le (by decide:520<=640000))).mono ?_
 rintro en w4 ⟨rfl,hq⟩
 obtain⟨v4,hv⟩:∃ v4:Int,v4=X+v2:=⟨_,rfl⟩
 have O4:=Lz (show Own R w w4 ((w3.heap.size,v4) :: (w2.heap.size,v3) :: (w1.heap.size,v2) :: (w.heap.size,v1) :: L) from by rw[hv];exact hq)
 have S4:=Lz (show Sz 521 v4 from by rw[hv];exact(SX.out.le (by decide:260<=520)).add (S2.out.le (by decide:520<=520)))
 have E4:=Lz hv
 clear hq hv
 clear cP
 have cP:=K0.out w4 O4.out.kept
 go_wp2_with fail
 refine(mulO O4.out 0 0 0 rfl rfl rfl NRd.out (S4.out.le (by decide:521<=704)) (S4.out.le (by decide:521<=2496))).mono ?_
 rintro en w5 ⟨rfl,hq⟩
 obtain⟨v5,hv⟩:∃ v5:Int,v5=v4*v4:=⟨_,rfl⟩
 have O5:=Lz (show Own R w w5 ((w3.heap.size,v5) :: (w2.heap.size,v3) :: (w1.heap.size,v2) :: (w.heap.size,v1) :: L) from by rw[hv];exact hq)
 have S5:=Lz (show Sz 1042 v5 from by rw[hv];exact S4.out.mul S4.out)
 have E5:=Lz hv
 clear hq hv
 clear cP
 have cP:=K0.out w5 O5.out.kept
 go_wp2_with fail
 refine(subO O5.out 0 0 3 rfl rfl rfl NRd.out (S5.out.le (by decide:1042<=640000)) (S1.out.le (by decide:520<=640000))).mono ?_
 rintro en w6 ⟨rfl,hq⟩
 obtain⟨v6,hv⟩:∃ v6:Int,v6=v5-v1:=⟨_,rfl⟩
 have O6:=Lz (show Own R w w6 ((w3.heap.size,v6) :: (w2.heap.size,v3) :: (w1.heap.size,v2) :: (w.heap.size,v1) :: L) from by rw[hv];exact hq)
 have S6:=Lz (show Sz 1043 v6 from by rw[hv];exact(S5.out.le (by decide:1042<=1042)).sub (S1.out.le (by decide:520<=1042)))
 have E6:=Lz hv
 clear hq hv
 clear cP
 have cP:=K0.out w6 O6.out.kept
 go_wp2_with fail
 refine(subO O6.out 0 0 1 rfl rfl rfl NRd.out (S6.out.le (by decide:1043<=640000)) (S3.out.le (by decide:1040<=640000))).mono ?_
 rintro en w7 ⟨rfl,hq⟩
 obtain⟨v7,hv⟩:∃ v7:Int,v7=v6-v3:=⟨_,rfl⟩
 have O7:=Lz (show Own R w w7 ((w3.heap.size,v7) :: (w2.heap.size,v3) :: (w1.heap.size,v2) :: (w.heap.size,v1) :: L) from by rw[hv];exact hq)
 have S7:=Lz (show Sz 1044 v7 from by rw[hv];exact(S6.out.le (by decide:1043<=1043)).sub (S3.out.le (by decide:1040<=1043)))
 have E7:=Lz hv
 clear hq hv
 clear cP
 have cP:=K0.out w7 O7.out.kept
 go_wp2_with fail
 refine(newIntO O7.out 2 (by decide)).mono ?_
 rintro en w8 ⟨z8,rfl,hq,hRn⟩
 have NRtwo:=Lz hRn
 have O8:=Lz (show Own R w w8 ((z8,(2:Int)) :: (w3.heap.size,v7) :: (w2.heap.size,v3) :: (w1.heap.size,v2) :: (w.heap.size,v1) :: L) from hq)
 have S8:=Lz (show Sz 4 (2:Int) from sz_small (by decide))
 clear hq hRn
 clear cP
 have cP:=K0.out w8 O8.out.kept
 go_wp2_with fail
 refine(mulNO O8.out 1 1 0 rfl rfl rfl (by omega) NRd.out (S7.out.le (by decide:1044<=2496)) (S8.out.le (by decide:4<=2496))).mono ?_
 rintro en w9 ⟨rfl,hq⟩
 obtain⟨v9,hv⟩:∃ v9:Int,v9=v7*(2:Int):=⟨_,rfl⟩
 have O9:=Lz (show Own R w w9 ((z8,(2:Int)) :: (w3.heap.size,v9) :: (w2.heap.size,v3) :: (w1.heap.size,v2) :: (w.heap.size,v1) :: L) from by rw[hv];exact hq)
 have S9:=Lz (show Sz 1048 v9 from by rw[hv];exact S7.out.mul S8.out)
 have E9:=Lz hv
 clear hq hv
 clear cP
 have cP:=K0.out w9 O9.out.kept
 obtain⟨hN,hR⟩:=O9.out.new
 have HN9:=Lz hN
 have NRe:=Lz hR
 clear hN hR
 go_wp2_with fail
 refine(newIntO HN9.out 3 (by decide)).mono ?_
 rintro en w10 ⟨z10,rfl,hq,hRn⟩
 have NRthree:=Lz hRn
 have O10:=Lz (show Own R w w10 ((z10,(3:Int)) :: (w9.heap.size,(0:Int)) :: (z8,(2:Int)) :: (w3.heap.size,v9) :: (w2.heap.size,v3) :: (w1.heap.size,v2) :: (w.heap.size,v1) :: L) from hq)
 have S10:=Lz (show Sz 4 (3:Int) from sz_small (by decide))
 clear hq hRn
 clear cP
 have cP:=K0.out w10 O10.out.kept
 go_wp2_with fail
 refine(mulO O10.out 1 0 6 rfl rfl rfl NRe.out (S10.out.le (by decide:4<=704)) (S1.out.le (by decide:520<=2496))).mono ?_
 rintro en w11 ⟨rfl,hq⟩
 obtain⟨v11,hv⟩:∃ v11:Int,v11=(3:Int)*v1:=⟨_,rfl⟩
 have O11:=Lz (show Own R w w11 ((z10,(3:Int)) :: (w9.heap.size,v11) :: (z8,(2:Int)) :: (w3.heap.size,v9) :: (w2.heap.size,v3) :: (w1.heap.size,v2) :: (w.heap.size,v1) :: L) from by rw[hv];exact hq)
 have S11:=Lz (show Sz 524 v11 from by rw[hv];exact S10.out.mul S1.out)
 have E11:=Lz hv
 clear hq hv
 clear cP
 have cP:=K0.out w11 O11.out.kept
 obtain⟨hN,hR⟩:=O11.out.new
 have HN11:=Lz hN
 have NRf:=Lz hR
 clear hN hR
 go_wp2_with fail
 refine(mulO HN11.out 0 2 2 rfl rfl rfl NRf.out (S11.out.le (by decide:524<=704)) (S11.out.le (by decide:524<=2496))).mono ?_
 rintro en w12 ⟨rfl,hq⟩
 obtain⟨v12,hv⟩:∃ v12:Int,v12=v11*v11:=⟨_,rfl⟩
 have O12:=Lz (show Own R w w12 ((w11.heap.size,v12) :: (z10,(3:Int)) :: (w9.heap.size,v11) :: (z8,(2:Int)) :: (w3.heap.size,v9) :: (w2.heap.size,v3) :: (w1.heap.size,v2) :: (w.heap.size,v1) :: L) from by rw[hv];exact hq)
 have S12:=Lz (show Sz 1048 v12 from by rw[hv];exact S11.out.mul S11.out)
 have E12:=Lz hv
 clear hq hv
 clear cP
 have cP:=K0.out w12 O12.out.kept
 obtain⟨hN,hR⟩:=O12.out.new
 have HN12:=Lz hN
 have NRx3:=Lz hR
 clear hN hR
 go_wp2_with fail
 refine(newIntO HN12.out 2 (by decide)).mono ?_
 rintro en w13 ⟨z13,rfl,hq,hRn⟩
 have NRtwob:=Lz hRn
 have O13:=Lz (show Own R w w13 ((z13,(2:Int)) :: (w12.heap.size,(0:Int)) :: (w11.heap.size,v12) :: (z10,(3:Int)) :: (w9.heap.size,v11) :: (z8,(2:Int)) :: (w3.heap.size,v9) :: (w2.heap.size,v3) :: (w1.heap.size,v2) :: (w.heap.size,v1) :: L) from hq)
 have S13:=Lz (show Sz 4 (2:Int) from sz_small (by decide))
 clear hq hRn
 clear cP
 have cP:=K0.out w13 O13.out.kept
 go_wp2_with fail
 refine(mulO O13.out 1 0 6 rfl rfl rfl NRx3.out (S13.out.le (by decide:4<=704)) (S9.out.le (by decide:1048<=2496))).mono ?_
 rintro en w14 ⟨rfl,hq⟩
 obtain⟨v14,hv⟩:∃ v14:Int,v14=(2:Int)*v9:=⟨_,rfl⟩
 have O14:=Lz (show Own R w w14 ((z13,(2:Int)) :: (w12.heap.size,v14) :: (w11.heap.size,v12) :: (z10,(3:Int)) :: (w9.heap.size,v11) :: (z8,(2:Int)) :: (w3.heap.size,v9) :: (w2.heap.size,v3) :: (w1.heap.size,v2) :: (w.heap.size,v1) :: L) from by rw[hv];exact hq)
 have S14:=Lz (show Sz 1052 v14 from by rw[hv];exact S13.out.mul S9.out)
 have E14:=Lz hv
 clear hq hv
 clear cP
 have cP:=K0.out w14 O14.out.kept
 go_wp2_with fail
 refine(subO O14.out 1 2 1 rfl rfl rfl NRx3.out (S12.out.le (by decide:1048<=640000)) (S14.out.le (by decide:1052<=640000))).mono ?_
 rintro en w15 ⟨rfl,hq⟩
 obtain⟨v15,hv⟩:∃ v15:Int,v15=v12-v14:=⟨_,rfl⟩
 have O15:=Lz (show Own R w w15 ((z13,(2:Int)) :: (w12.heap.size,v15) :: (w11.heap.size,v12) :: (z10,(3:Int)) :: (w9.heap.size,v11) :: (z8,(2:Int)) :: (w3.heap.size,v9) :: (w2.heap.size,v3) :: (w1.heap.size,v2) :: (w.heap.size,v1) :: L) from by rw[hv];exact hq)
 have S15:=Lz (show Sz 1053 v15 from by rw[hv];exact(S12.out.le (by decide:1048<=1052)).sub (S14.out.le (by decide:1052<=1052)))
 have E15:=Lz hv
 clear hq hv
 clear cP
 have cP:=K0.out w15 O15.out.kept
 go_wp2_with fail
 refine(modO O15.out 1 1 (iP+10) rfl rfl HP.out (by omega) NRx3.out (S15.out.le (by decide:1053<=630000)) (SP.out.le (by decide:260<=630000)) HD.out HP0.out).mono ?_
 rintro en w16 ⟨rfl,hq⟩
 obtain⟨v16,hv⟩:∃ v16:Int,v16=v15%p:=⟨_,rfl⟩
 have O16:=Lz (show Own R w w16 ((z13,(2:Int)) :: (w12.heap.size,v16) :: (w11.heap.size,v12) :: (z10,(3:Int)) :: (w9.heap.size,v11) :: (z8,(2:Int)) :: (w3.heap.size,v9) :: (w2.heap.size,v3) :: (w1.heap.size,v2) :: (w.heap.size,v1) :: L) from by rw[hv];exact hq)
 have S16:=Lz (show Sz 260 v16 from by rw[hv];exact Sz.emod _ HP0.out SP.out)
 have E16:=Lz hv
 clear hq hv
 clear cP
 have cP:=K0.out w16 O16.out.kept
 obtain⟨hN,hR⟩:=O16.out.new
 have HN16:=Lz hN
 have NRy3:=Lz hR
 clear hN hR
 go_wp2_with fail
 refine(subO HN16.out 0 7 2 rfl rfl rfl NRy3.out (S9.out.le (by decide:1048<=640000)) (S16.out.le (by decide:260<=640000))).mono ?_
 rintro en w17 ⟨rfl,hq⟩
 obtain⟨v17,hv⟩:∃ v17:Int,v17=v9-v16:=⟨_,rfl⟩
 have O17:=Lz (show Own R w w17 ((w16.heap.size,v17) :: (z13,(2:Int)) :: (w12.heap.size,v16) :: (w11.heap.size,v12) :: (z10,(3:Int)) :: (w9.heap.size,v11) :: (z8,(2:Int)) :: (w3.heap.size,v9) :: (w2.heap.size,v3) :: (w1.heap.size,v2) :: (w.heap.size,v1) :: L) from by rw[hv];exact hq)
 have S17:=Lz (show Sz 1049 v17 from by rw[hv];exact(S9.out.le (by decide:1048<=1048)).sub (S16.out.le (by decide:260<=1048)))
 have E17:=Lz hv
 clear hq hv
 clear cP
 have cP:=K0.out w17 O17.out.kept
 go_wp2_with fail
 refine(mulO O17.out 0 5 0 rfl rfl rfl NRy3.out (S11.out.le (by decide:524<=704)) (S17.out.le (by decide:1049<=2496))).mono ?_
 rintro en w18 ⟨rfl,hq⟩
 obtain⟨v18,hv⟩:∃ v18:Int,v18=v11*v17:=⟨_,rfl⟩
 have O18:=Lz (show Own R w w18 ((w16.heap.size,v18) :: (z13,(2:Int)) :: (w12.heap.size,v16) :: (w11.heap.size,v12) :: (z10,(3:Int)) :: (w9.heap.size,v11) :: (z8,(2:Int)) :: (w3.heap.size,v9) :: (w2.heap.size,v3) :: (w1.heap.size,v2) :: (w.heap.size,v1) :: L) from by rw[hv];exact hq)
 have S18:=Lz (show Sz 1573 v18 from by rw[hv];exact S11.out.mul S17.out)
 have E18:=Lz hv
 clear hq hv
 clear cP
 have cP:=K0.out w18 O18.out.kept
 obtain⟨hN,hR⟩:=O18.out.new
 have HN18:=Lz hN
 have NRu:=Lz hR
 clear hN hR
 go_wp2_with fail
 refine(newIntO HN18.out 8 (by decide)).mono ?_
 rintro en w19 ⟨z19,rfl,hq,hRn⟩
 have NReight:=Lz hRn
 have O19:=Lz (show Own R w w19 ((z19,(8:Int)) :: (w18.heap.size,(0:Int)) :: (w16.heap.size,v18) :: (z13,(2:Int)) :: (w12.heap.size,v16) :: (w11.heap.size,v12) :: (z10,(3:Int)) :: (w9.heap.size,v11) :: (z8,(2:Int)) :: (w3.heap.size,v9) :: (w2.heap.size,v3) :: (w1.heap.size,v2) :: (w.heap.size,v1) :: L) from hq)
 have S19:=Lz (show Sz 4 (8:Int) from sz_small (by decide))
 clear hq hRn
 clear cP
 have cP:=K0.out w19 O19.out.kept
 go_wp2_with fail
 refine(mulO O19.out 1 0 10 rfl rfl rfl NRu.out (S19.out.le (by decide:4<=704)) (S3.out.le (by decide:1040<=2496))).mono ?_
 rintro en w20 ⟨rfl,hq⟩
 obtain⟨v20,hv⟩:∃ v20:Int,v20=(8:Int)*v3:=⟨_,rfl⟩
 have O20:=Lz (show Own R w w20 ((z19,(8:Int)) :: (w18.heap.size,v20) :: (w16.heap.size,v18) :: (z13,(2:Int)) :: (w12.heap.size,v16) :: (w11.heap.size,v12) :: (z10,(3:Int)) :: (w9.heap.size,v11) :: (z8,(2:Int)) :: (w3.heap.size,v9) :: (w2.heap.size,v3) :: (w1.heap.size,v2) :: (w.heap.size,v1) :: L) from by rw[hv];exact hq)
 have S20:=Lz (show Sz 1044 v20 from by rw[hv];exact S19.out.mul S3.out)
 have E20:=Lz hv
 clear hq hv
 clear cP
 have cP:=K0.out w20 O20.out.kept
 go_wp2_with fail
 refine(subO O20.out 2 2 1 rfl rfl rfl NRy3.out (S18.out.le (by decide:1573<=640000)) (S20.out.le (by decide:1044<=640000))).mono ?_
 rintro en w21 ⟨rfl,hq⟩
 obtain⟨v21,hv⟩:∃ v21:Int,v21=v18-v20:=⟨_,rfl⟩
 have O21:=Lz (show Own R w w21 ((z19,(8:Int)) :: (w18.heap.size,v20) :: (w16.heap.size,v21) :: (z13,(2:Int)) :: (w12.heap.size,v16) :: (w11.heap.size,v12) :: (z10,(3:Int)) :: (w9.heap.size,v11) :: (z8,(2:Int)) :: (w3.heap.size,v9) :: (w2.heap.size,v3) :: (w1.heap.size,v2) :: (w.heap.size,v1) :: L) from by rw[hv];exact hq)
 have S21:=Lz (show Sz 1574 v21 from by rw[hv];exact(S18.out.le (by decide:1573<=1573)).sub (S20.out.le (by decide:1044<=1573)))
 have E21:=Lz hv
 clear hq hv
 clear cP
 have cP:=K0.out w21 O21.out.kept
 go_wp2_with fail
 refine(modO O21.out 2 2 (iP+13) rfl rfl HP.out (by omega) NRy3.out (S21.out.le (by decide:1574<=630000)) (SP.out.le (by decide:260<=630000)) HD.out HP0.out).mono ?_
 rintro en w22 ⟨rfl,hq⟩
 obtain⟨v22,hv⟩:∃ v22:Int,v22=v21%p:=⟨_,rfl⟩
 have O22:=Lz (show Own R w w22 ((z19,(8:Int)) :: (w18.heap.size,v20) :: (w16.heap.size,v22) :: (z13,(2:Int)) :: (w12.heap.size,v16) :: (w11.heap.size,v12) :: (z10,(3:Int)) :: (w9.heap.size,v11) :: (z8,(2:Int)) :: (w3.heap.size,v9) :: (w2.heap.size,v3) :: (w1.heap.size,v2) :: (w.heap.size,v1) :: L) from by rw[hv];exact hq)
 have S22:=Lz (show Sz 260 v22 from by rw[hv];exact Sz.emod _ HP0.out SP.out)
 have E22:=Lz hv
 clear hq hv
 clear cP
 have cP:=K0.out w22 O22.out.kept
 obtain⟨hN,hR⟩:=O22.out.new
 have HN22:=Lz hN
 have NRz3:=Lz hR
 clear hN hR
 go_wp2_with fail
 refine(mulO HN22.out 0 (iy+14) (iz+14) rfl HY.out HZ.out NRz3.out (SY.out.le (by decide:260<=704)) (SZ.out.le (by decide:260<=2496))).mono ?_
 rintro en w23 ⟨rfl,hq⟩
 obtain⟨v23,hv⟩:∃ v23:Int,v23=Y*Z:=⟨_,rfl⟩
 have O23:=Lz (show Own R w w23 ((w22.heap.size,v23) :: (z19,(8:Int)) :: (w18.heap.size,v20) :: (w16.heap.size,v22) :: (z13,(2:Int)) :: (w12.heap.size,v16) :: (w11.heap.size,v12) :: (z10,(3:Int)) :: (w9.heap.size,v11) :: (z8,(2:Int)) :: (w3.heap.size,v9) :: (w2.heap.size,v3) :: (w1.heap.size,v2) :: (w.heap.size,v1) :: L) from by rw[hv];exact hq)
 have S23:=Lz (show Sz 520 v23 from by rw[hv];exact SY.out.mul SZ.out)
 have E23:=Lz hv
 clear hq hv
 clear cP
 have cP:=K0.out w23 O23.out.kept
 go_wp2_with fail
 refine(newIntO O23.out 2 (by decide)).mono ?_
 rintro en w24 ⟨z24,rfl,hq,hRn⟩
 have NRtwoc:=Lz hRn
 have O24:=Lz (show Own R w w24 ((z24,(2:Int)) :: (w22.heap.size,v23) :: (z19,(8:Int)) :: (w18.heap.size,v20) :: (w16.heap.size,v22) :: (z13,(2:Int)) :: (w12.heap.size,v16) :: (w11.heap.size,v12) :: (z10,(3:Int)) :: (w9.heap.size,v11) :: (z8,(2:Int)) :: (w3.heap.size,v9) :: (w2.heap.size,v3) :: (w1.heap.size,v2) :: (w.heap.size,v1) :: L) from hq)
 have S24:=Lz (show Sz 4 (2:Int) from sz_small (by decide))
 clear hq hRn
 clear cP
 have cP:=K0.out w24 O24.out.kept
 go_wp2_with fail
 refine(mulO O24.out 1 0 1 rfl rfl rfl NRz3.out (S24.out.le (by decide:4<=704)) (S23.out.le (by decide:520<=2496))).mono ?_
 rintro en w25 ⟨rfl,hq⟩
 obtain⟨v25,hv⟩:∃ v25:Int,v25=(2:Int)*v23:=⟨_,rfl⟩
 have O25:=Lz (show Own R w w25 ((z24,(2:Int)) :: (w22.heap.size,v25) :: (z19,(8:Int)) :: (w18.heap.size,v20) :: (w16.heap.size,v22) :: (z13,(2:Int)) :: (w12.heap.size,v16) :: (w11.heap.size,v12) :: (z10,(3:Int)) :: (w9.heap.size,v11) :: (z8,(2:Int)) :: (w3.heap.size,v9) :: (w2.heap.size,v3) :: (w1.heap.size,v2) :: (w.heap.size,v1) :: L) from by rw[hv];exact hq)
 have S25:=Lz (show Sz 524 v25 from by rw[hv];exact S24.out.mul S23.out)
 have E25:=Lz hv
 clear hq hv
 clear cP
 have cP:=K0.out w25 O25.out.kept
 go_wp2_with fail
 refine(modO O25.out 1 1 (iP+15) rfl rfl HP.out (by omega) NRz3.out (S25.out.le (by decide:524<=630000)) (SP.out.le (by decide:260<=630000)) HD.out HP0.out).mono ?_
 rintro en w26 ⟨rfl,hq⟩
 obtain⟨v26,hv⟩:∃ v26:Int,v26=v25%p:=⟨_,rfl⟩
 have O26:=Lz (show Own R w w26 ((z24,(2:Int)) :: (w22.heap.size,v26) :: (z19,(8:Int)) :: (w18.heap.size,v20) :: (w16.heap.size,v22) :: (z13,(2:Int)) :: (w12.heap.size,v16) :: (w11.heap.size,v12) :: (z10,(3:Int)) :: (w9.heap.size,v11) :: (z8,(2:Int)) :: (w3.heap.size,v9) :: (w2.heap.size,v3) :: (w1.heap.size,v2) :: (w.heap.size,v1) :: L) from by rw[hv];exact hq)
 have S26:=Lz (show Sz 260 v26 from by rw[hv];exact Sz.emod _ HP0.out SP.out)
 have E26:=Lz hv
 clear hq hv
 clear cP
 have cP:=K0.out w26 O26.out.kept
 go_wp2_with fail
 have hO:Own R w w26 (((w22.heap.size,v26):Nat×Int) :: (w16.heap.size,v22) :: (w12.heap.size,v16) :: L):=Own.choose (L:=L) (A:=[(z24,(2:Int)),(w22.heap.size,v26),(z19,(8:Int)),(w18.heap.size,v20),(w16.heap.size,v22),(z13,(2:Int)),(w12.heap.size,v16),(w11.heap.size,v12),(z10,(3:Int)),(w9.heap.size,v11),(z8,(2:Int)),(w3.heap.size,v9),(w2.heap.size,v3),(w1.heap.size,v2),(w.heap.size,v1)]) O26.out [1,4,6] (by decide) (by simp)
 have HO:=Lz hO
 have HST:=Lz (show BitDbl X Y Z p v16 v22 v26 from⟨v1,v2,v3,v4,v5,v6,v7,v9,v11,v12,v14,v15,v17,v18,v20,v21,v23,v25,E1.out,E2.out,E3.out,E4.out,E5.out,E6.out,E7.out,E9.out,E11.out,E12.out,E14.out,E15.out,E16.out,E17.out,E18.out,E20.out,E21.out,E22.out,E23.out,E25.out,E26.out⟩)
 go_ret3
 exact⟨w12.heap.size,w16.heap.size,w22.heap.size,v16,v22,v26,rfl,HSS.out.after HO.out,NRx3.out,NRy3.out,NRz3.out,HST.out⟩
end
end Go.Proofs.YtohhkjamddojmaaGreatDoor.Big
