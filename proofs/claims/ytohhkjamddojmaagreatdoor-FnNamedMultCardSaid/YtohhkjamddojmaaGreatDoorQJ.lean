/- ScalarMult of the curves of bitcurves: the bits of bytes, the highest first. Bytes of numbers in memory; greats: two Ints as bytes; NamedMult. NamedMult. NamedMult, the whole. -/
import Derived.Test.YtohhkjamddojmaaGreatDoorQG
import Derived.Test.YtohhkjamddojmaaGreatDoorQA
import Derived.Test.YtohhkjamddojmaaGreatDoorKC
import Derived.Test.YtohhkjamddojmaaGreatDoorTH
import Derived.Test.YtohhkjamddojmaaGreatDoorSO
set_option maxRecDepth 100000
set_option maxHeartbeats 16000000
namespace Go.Proofs.YtohhkjamddojmaaGreatDoor.Bit
open Go.RowKit
open Big EcLaw
attribute [local go_sem] ptr
def kv (ks:List Nat) (i j:Nat):Nat:=bev (ks.take i)*2^j+ks.getD i 0/2^(8-j)
theorem bev_take {ks:List Nat} {i:Nat} (h:i<ks.length):bev (ks.take (i+1))=bev (ks.take i)*256+ks.getD i 0:=by
 rw[List.take_add_one,List.getElem?_eq_getElem h]
 show bev (ks.take i ++ [ks[i]])=_
 rw[bev_snoc]
 simp[List.getD,h]
theorem kv_zero {ks:List Nat} {i:Nat} (hb:ks.getD i 0<256):kv ks i 0=bev (ks.take i):=by
 unfold kv
 rw[Nat.div_eq_of_lt (by simpa using hb)];omega
theorem kv_eight {ks:List Nat} {i:Nat} (h:i<ks.length):kv ks i 8=bev (ks.take (i+1)):=by
 rw[bev_take h];unfold kv;simp
theorem byte_bit:∀ b:Nat,b<256->∀ j:Nat,j<8->b/2^(7-j)=2*(b/2^(8-j))+(if (b*2^j%256) &&& 128=128 then 1 else 0):=by decide +kernel
theorem byte_shl (b j:Nat):(b*2^j%256)*2%256=b*2^(j+1)%256:=by
 rw[Nat.pow_succ,<-Nat.mul_assoc,Nat.mod_mul_mod]
theorem kv_step {ks:List Nat} {i j:Nat} (hb:ks.getD i 0<256) (hj:j<8):kv ks i (j+1)=2*kv ks i j+(if (ks.getD i 0*2^j%256) &&& 128=128 then 1 else 0):=by
 unfold kv
 have:=byte_bit _ hb j hj
 rw[show 8-(j+1)=7-j by omega,this,Nat.pow_succ,<-Nat.mul_assoc,Nat.mul_comm _ 2,Nat.mul_add,Nat.add_assoc]
theorem bev_take_le (ks:List Nat) (i:Nat):bev (ks.take i)<=bev ks:=by
 have e:bev ks=bev (ks.take i++ks.drop i):=by rw[List.take_append_drop]
 have e2:bev (ks.take i++ks.drop i)=bev (ks.take i)*256^(ks.drop i).length+bev (ks.drop i):=by
  conv=>lhs;unfold bev
  rw[List.foldl_append]
  exact bev_from _ _
 have:=Nat.le_mul_of_pos_right (bev (ks.take i)) (show 0<256^(ks.drop i).length from Nat.pow_pos (by decide))
 omega
theorem kv_le {ks:List Nat} {i j:Nat} (h:i<ks.length) (hj:j<=8):kv ks i j<=bev ks:=by
 have e:=bev_take h
 have hle:=bev_take_le ks (i+1)
 have h1:2^j<=2^8:=Nat.pow_le_pow_right (by decide) hj
 have h2:bev (ks.take i)*2^j<=bev (ks.take i)*2^8:=Nat.mul_le_mul_left _ h1
 have h3:=Nat.div_le_self (ks.getD i 0) (2^(8-j))
 unfold kv
 omega
theorem and128:∀ s:Nat,s<256->(bits .and .u8 (s:Int) 128==(128:Int))=decide (s &&& 128=128):=by decide +kernel
theorem shl8:∀ s:Nat,s<256->IntKind.u8.wrap ((s:Int)*2)=((s*2%256:Nat):Int):=by decide +kernel
theorem at_app {α : Type} (A B:List α) (k:Nat):(A++B)[A.length+k]? = B[k]?:=by
 rw[List.getElem?_append_right (by omega),Nat.add_sub_cancel_left]
section
variable {R : Nat → Prop} {w0 w w' : World} {L L' : List (Nat × Int)}
theorem sz_red {c:Nums} (h:Grp c) {a:Int} (h0:0<=a) (h1:a<c.p):Sz 256 a:=by
 have:=h.pB
 unfold Sz
 omega
theorem pB4 {c:Nums} (h:Grp c):c.p<B64^4:=by
 have:=h.pB
 unfold B64
 omega
theorem dblPt {c:Nums} (hc:Grp c) (h:Own R w0 w L) (cc x y z P ix iy iz iP m:Nat) (X Y Z:Int) (hcP:w.cell? ⟨cc,1,.none⟩=some (ptr P)) (hRc:R cc) (hx:L[ix]? = some (x,X)) (hy:L[iy]? = some (y,Y)) (hz:L[iz]? = some (z,Z)) (hP:L[iP]? = some (P,(c.p:Int)))
 (j:IsJ c.p (EcLaw.mul c.p 0 m c.G) X Y Z):Calls Tryz.prog 105 #[ptr cc,ptr x,ptr y,ptr z] w (TriB R w0 L (IsJ c.p (EcLaw.mul c.p 0 (2*m) c.G))):=by
 have h5:=hc.p5
 refine(bitDouble h cc x y z P ix iy iz iP X Y Z c.p hcP hRc hx hy hz hP ((sz_red hc j.1.1.1 j.1.1.2).le (by decide)) ((sz_red hc j.1.2.1.1 j.1.2.1.2).le (by decide)) ((sz_red hc j.1.2.2.1 j.1.2.2.2).le (by decide)) ((sz_of_lt (n:=4) (by have:=pB4 hc;omega)).le (by decide)) (by rw[Int.natAbs_natCast];exact DivOK.four (by omega) (pB4 hc)) (by omega)).mono ?_
 rintro e w' ⟨x3,y3,z3,X3,Y3,Z3,he,hO,n1,n2,n3,hq⟩
 exact⟨x3,y3,z3,X3,Y3,Z3,he,hO,n1,n2,n3,step_dbl hc j hq⟩
theorem addPt {c:Nums} (hc:Grp c) (h:Own R w0 w L) (cc x1 y1 z1 x2 y2 z2 P i1 j1 k1 i2 j2 k2 iP m:Nat) (X2 Y2 Z2:Int) (hcP:w.cell? ⟨cc,1,.none⟩=some (ptr P)) (hRc:R cc) (hx1:L[i1]? = some (x1,(c.x:Int))) (hy1:L[j1]? = some (y1,(c.y:Int))) (hz1:L[k1]? = some (z1,1)) (hx2:L[i2]? = some (x2,X2)) (hy2:L[j2]? = some (y2,Y2)) (hz2:L[k2]? = some (z2,Z2)) (hP:L[iP]? = some (P,(c.p:Int)))
 (m0:2<=m) (m1:m+1<c.n) (j:IsJ c.p (EcLaw.mul c.p 0 m c.G) X2 Y2 Z2):Calls Tryz.prog 106 #[ptr cc,ptr x1,ptr y1,ptr z1,ptr x2,ptr y2,ptr z2] w (TriB R w0 L (IsJ c.p (EcLaw.mul c.p 0 (m+1) c.G))):=by
 have h5:=hc.p5
 have o1:=hc.on
 refine(bitAdd h cc x1 y1 z1 x2 y2 z2 P i1 j1 k1 i2 j2 k2 iP c.x c.y 1 X2 Y2 Z2 c.p hcP hRc hx1 hy1 hz1 hx2 hy2 hz2 hP ((sz_red hc o1.1 o1.2.1).le (by decide)) ((sz_red hc o1.2.2.1 o1.2.2.2.1).le (by decide)) ((sz_red hc (by omega) (by omega)).le (by decide)) ((sz_red hc j.1.1.1 j.1.1.2).le (by decide)) ((sz_red hc j.1.2.1.1 j.1.2.1.2).le (by decide)) ((sz_red hc j.1.2.2.1 j.1.2.2.2).le (by decide)) ((sz_of_lt (n:=4) (by have:=pB4 hc;omega)).le (by decide)) (by rw[Int.natAbs_natCast];exact DivOK.four (by omega) (pB4 hc)) (by omega)).mono ?_
 rintro e w' ⟨x3,y3,z3,X3,Y3,Z3,he,hO,n1,n2,n3,hq⟩
 exact⟨x3,y3,z3,X3,Y3,Z3,he,hO,n1,n2,n3,step_add hc m0 m1 j hq⟩
theorem affPt {c:Nums} (hc:Grp c) (h:Own R w0 w L) (cc x y z P ix iy iz iP:Nat) (X Y Z:Int) (A:Pt) (hcP:w.cell? ⟨cc,1,.none⟩=some (ptr P)) (hRc:R cc) (hx:L[ix]? = some (x,X)) (hy:L[iy]? = some (y,Y)) (hz:L[iz]? = some (z,Z)) (hP:L[iP]? = some (P,(c.p:Int)))
 (hA:On c.p 0 c.b A) (hn:A≠.inf) (j:IsJ c.p A X Y Z):Calls Tryz.prog 107 #[ptr cc,ptr x,ptr y,ptr z] w (DuoB R w0 L (λU V=>A=.aff U V)):=by
 have h5:=hc.p5
 cases hAe:A with
 | inf=>exact absurd hAe hn
 | aff a b=>
  rw[hAe] at hA j
  obtain⟨⟨⟨x0,x1⟩,⟨y0,y1⟩,⟨z0,z1⟩⟩,jj⟩:=j
  obtain⟨Z',rfl⟩:∃ Z':Nat,Z=Z':=⟨Z.toNat,by omega⟩
  have hnd:¬c.p∣Z':=λhd=>jj.1 (Int.natCast_dvd_natCast.2 hd)
  have hz0:0<Z':=by
   rcases Nat.eq_zero_or_pos Z' with h0|h0
   . exact absurd (h0 ▸ Nat.dvd_zero _) hnd
   . exact h0
  have hg:Int.gcd (Z':Int) c.p=1:=by
   have:=hc.pp.coprime hnd
   rw[Int.gcd_comm]
   exact this
  refine(bitAffine h cc x y z P ix iy iz iP X Y Z' c.p hcP hRc hx hy hz hP ((sz_red hc x0 x1).le (by decide)) ((sz_red hc y0 y1).le (by decide)) (pB4 hc) hz0 (by omega) hg).mono ?_
  rintro e w' ⟨x3,y3,X3,Y3,he,hO,n1,n2,⟨u0,u1⟩,⟨v0,v1⟩,t,ht,hU,hV⟩
  refine⟨x3,y3,X3,Y3,he,hO,n1,n2,?_⟩
  have k1:(c.p:Int)∣X3-X*t^2:=by
   have:=dvd_mod hU
   exact zzq 1 this (by grind)
  have k2:(c.p:Int)∣Y3-Y*t^3:=by
   have:=dvd_mod hV
   exact zzq 1 this (by grind)
  obtain⟨e1,e2⟩:=jac_affine hc.prm hA jj ht k1 k2 u0 u1 v0 v1
  rw[e1,e2]
def SI (R:Nat->Prop) (w:World) (L:List (Nat×Int)) (c:Nums) (bz:Nat) (wr:World) (x y z m:Nat) (sn:Bool):Prop:=
 ∃ (A:List (Nat×Int)) (ix iy iz:Nat) (X Y Z:Int),sn=decide (m≠0)/\Own R w wr (A++(bz,1) :: L)/\(A++(bz,1) :: L)[ix]? = some (x,X)/\(A++(bz,1) :: L)[iy]? = some (y,Y)/\(A++(bz,1) :: L)[iz]? = some (z,Z)/\IsJ c.p (EcLaw.mul c.p 0 (if m=0 then 1 else m) c.G) X Y Z
theorem at_back {A L:List (Nat×Int)} {bz i x:Nat} {X:Int} (h:L[i]? = some (x,X)):(A++(bz,1) :: L)[A.length+(i+1)]? = some (x,X):=by rw[at_app];exact h
theorem scalarB {c:Nums} (hc:Grp c) (h:Own R w0 w L) (cc bx by_ P kb ko kc ix iy iP:Nat) (ks:List Nat) (hcP:w.cell? ⟨cc,1,.none⟩=some (ptr P)) (hRc:R cc)
 (hx:L[ix]? = some (bx,(c.x:Int))) (hy:L[iy]? = some (by_,(c.y:Int))) (hP:L[iP]? = some (P,(c.p:Int))) (hRk:R kb) (hk:∀ i,i<ks.length->w.cell? ⟨kb,ko+i,.none⟩=some (.int .u8 (ks.getD i 0:Nat))) (hks:∀ i,ks.getD i 0<256) (hlen:ks.length<1000000)
 (k0:0<bev ks) (k1:bev ks<c.n) :
 Calls Tryz.prog 60 #[ptr cc,ptr bx,ptr by_,.slice (some ⟨kb,ko,.none⟩) ks.length kc] w (DuoB R w0 L (λU V=>EcLaw.mul c.p 0 (bev ks) c.G=.aff U V)):=by
 have HGR:=Lz hc
 have HDB:=Lz (λw1 (A:List (Nat×Int)) (x y z bz m jx jy jz:Nat) (X Y Z:Int) (o:Own R w w1 (A++(bz,1) :: L)) (e1:(A++(bz,1) :: L)[jx]? = some (x,X)) (e2:(A++(bz,1) :: L)[jy]? = some (y,Y)) (e3:(A++(bz,1) :: L)[jz]? = some (z,Z)) (j:IsJ c.p (EcLaw.mul c.p 0 m c.G) X Y Z)=>dblPt hc o cc x y z P jx jy jz (A.length+(iP+1)) m X Y Z (o.keep hcP hRc) hRc e1 e2 e3 (at_back hP) j)
 have HAD:=Lz (λw1 (A:List (Nat×Int)) (x y z bz m jx jy jz:Nat) (X Y Z:Int) (o:Own R w w1 (A++(bz,1) :: L)) (e1:(A++(bz,1) :: L)[jx]? = some (x,X)) (e2:(A++(bz,1) :: L)[jy]? = some (y,Y)) (e3:(A++(bz,1) :: L)[jz]? = some (z,Z)) (m0:2<=m) (m1:m+1<c.n) (j:IsJ c.p (EcLaw.mul c.p 0 m c.G) X Y Z)=>addPt hc o cc bx by_ bz x y z P (A.length+(ix+1)) (A.length+(iy+1)) (A.length+0) jx jy jz (A.length+(iP+1)) m X Y Z (o.keep hcP hRc) hRc (at_back hx) (at_back hy) (at_app _ _ 0) e1 e2 e3 (at_back hP) m0 m1 j)
 have HAF:=Lz (λw1 (A:List (Nat×Int)) (x y z bz m jx jy jz:Nat) (X Y Z:Int) (o:Own R w w1 (A++(bz,1) :: L)) (e1:(A++(bz,1) :: L)[jx]? = some (x,X)) (e2:(A++(bz,1) :: L)[jy]? = some (y,Y)) (e3:(A++(bz,1) :: L)[jz]? = some (z,Z)) (m0:0<m) (m1:m<c.n) (j:IsJ c.p (EcLaw.mul c.p 0 m c.G) X Y Z)=>affPt hc o cc x y z P jx jy jz (A.length+(iP+1)) X Y Z (EcLaw.mul c.p 0 m c.G) (o.keep hcP hRc) hRc e1 e2 e3 (at_back hP) (mul_on hc.prm hc.on m) (hc.ne m0 m1) j)
 have HJ0:=Lz (show IsJ c.p (EcLaw.mul c.p 0 1 c.G) c.x c.y 1 by rw[EcLaw.mul_one];exact aff_isJ hc.prm hc.on)
 have HSS:=Lz h
 have HO0:=Lz h.since
 have HKS:=Lz hks
 have HXY:=Lz (And.intro hx hy)
 have HB:=Lz (And.intro k0 k1)
 have HK:=Lz (λ(w':World) (k:Kept R w w') i hi=>(k.cell hRk (hk i hi):w'.cell? ⟨kb,ko+i,.none⟩=some (.int .u8 (ks.getD i 0:Nat))))
 clear h hcP hRc hx hy hP hRk hk hks k0 k1 hc
 unfold ptr at *
 go_enter Tryz.func60,Tryz.ntmps60
 obtain⟨hN,hR⟩:=HO0.out.new
 have C1:=Lz (setIntO hN 0 1 rfl hR (by decide))
 clear hN hR
 go_wp2_with fail
 refine C1.out.mono ?_
 rintro en w2 ⟨rfl,hq⟩
 have H2:=Lz (show Own R w w2 ((w.heap.size,1) :: L) from hq)
 clear hq
 obtain⟨bz,hbz⟩:∃ bz,bz=w.heap.size:=⟨_,rfl⟩
 rw[<-hbz] at H2
 simp only[<-hbz]
 clear hbz C1
 have H3:=Lz (show SI R w L c bz w2 bx by_ bz 0 false from⟨[],ix+1,iy+1,0,c.x,c.y,1,rfl,H2.out,HXY.out.1,HXY.out.2,rfl,HJ0.out⟩)
 clear H2
 unfold ptr
 go_wp2_with fail
 go_loopw [11,12,13,14,25] (λsx sy sz ss si wr=>∃ (i x y z:Nat) (sn:Bool),sx=.pointer (some ⟨x,0,.none⟩)/\sy=.pointer (some ⟨y,0,.none⟩)/\sz=.pointer (some ⟨z,0,.none⟩)/\ss=.bool sn/\si=.int .i64 i/\i<=ks.length/\RowKit.Hid (SI R w L c bz wr x y z (bev (ks.take i)) sn)) (λ_ _ _ _ si _=>ks.length-(intOf si).toNat)
 case atStart=>exact⟨0,_,_,_,_,rfl,rfl,rfl,rfl,rfl,Nat.zero_le _,H3.out⟩
 case round=>
  obtain⟨i,x,y,z,sn,rfl,rfl,rfl,rfl,rfl,hi,HR⟩:=hrel
  by_cases hlt:i<ks.length
  . have hc:=HK.out _ (by obtain⟨_,_,_,_,_,_,_,_,ho,-⟩:=HR.out;exact ho.kept) i hlt
    have hb:=HKS.out i
    obtain⟨b,hbd⟩:∃ b,b=ks.getD i 0:=⟨_,rfl⟩
    rw[<-hbd] at hc hb
    have HBD:=Lz hbd
    have HJ:=Lz (show SI R w L c bz wr x y z (kv ks i 0) sn by rw[kv_zero (HKS.out i)];exact HR.out)
    have HLT:=Lz hlt
    clear hbd
    go_wp2_with fail
    go_loopw [11,12,13,14,16,17] (λsx sy sz ss sb sj wr2=>∃ (j s x y z:Nat) (sn:Bool),sx=.pointer (some ⟨x,0,.none⟩)/\sy=.pointer (some ⟨y,0,.none⟩)/\sz=.pointer (some ⟨z,0,.none⟩)/\ss=.bool sn/\sb=.int .u8 s/\sj=.int .i64 j/\j<=8/\s<256/\RowKit.Hid (s=b*2^j%256/\SI R w L c bz wr2 x y z (kv ks i j) sn)) (λ_ _ _ _ _ sj _=>8-(intOf sj).toNat)
    case atStart=>exact⟨0,b,x,y,z,sn,rfl,rfl,rfl,rfl,rfl,rfl,by omega,hb,⟨by omega,HJ.out⟩⟩
    case round=>
     obtain⟨j,s,x2,y2,z2,sn2,rfl,rfl,rfl,rfl,rfl,rfl,hj8,hs,HQ⟩:=hrel
     by_cases hj:j<8
     . have HE:=Lz (kv_step (j:=j) (HKS.out i) hj)
       rw[<-HBD.out,<-HQ.out.1] at HE
       have e128:=and128 s hs
       have esh:=shl8 s hs
       have hs2:s*2%256<256:=Nat.mod_lt _ (by decide)
       have HS2:=Lz (show s*2%256=b*2^(j+1)%256 by rw[HQ.out.1];exact byte_shl b j)
       obtain⟨s2,hs2d⟩:∃ s2,s2=s*2%256:=⟨_,rfl⟩
       rw[<-hs2d] at HS2 hs2 esh
       have HLE:=Lz (kv_le (j:=j+1) HLT.out (by omega))
       obtain⟨A,jx,jy,jz,X,Y,Z,hsn,hO,e1,e2,e3,hJ⟩:=HQ.out.2
       have HO:=Lz hO
       have HEE:=Lz (And.intro e1 (And.intro e2 e3))
       by_cases hm:kv ks i j=0
       . rw[hm] at hsn hJ
         obtain rfl:sn2=false:=hsn
         have HJ1:=Lz (show IsJ c.p (EcLaw.mul c.p 0 1 c.G) X Y Z from hJ)
         have HM:=Lz hm
         clear hJ hO e1 e2 e3 hm
         by_cases hbit:s &&& 128=128
         . have hbt:(bits .and .u8 (s:Int) 128==(128:Int))=true:=by rw[e128];simp[hbit]
           have HN:=Lz (show SI R w L c bz wr x2 y2 z2 (kv ks i (j+1)) true from⟨A,jx,jy,jz,X,Y,Z,by rw[HE.out,HM.out,if_pos hbit];rfl,HO.out,HEE.out.1,HEE.out.2.1,HEE.out.2.2,by rw[HE.out,HM.out,if_pos hbit];exact HJ1.out⟩)
           clear e128 hbit HE
           go_wp2_with fail
           go_roundw
           case rel=>exact⟨j+1,s2,x2,y2,z2,true,rfl,rfl,rfl,rfl,by first|rfl|rw[show(s:Int)*2%256=(s2:Int) by omega],by go_num,by omega,hs2,⟨HS2.out,HN.out⟩⟩
           case measure=>simp[intOf];omega
         . have hbt:(bits .and .u8 (s:Int) 128==(128:Int))=false:=by rw[e128];simp[hbit]
           have HN:=Lz (show SI R w L c bz wr x2 y2 z2 (kv ks i (j+1)) false from⟨A,jx,jy,jz,X,Y,Z,by rw[HE.out,HM.out,if_neg hbit];rfl,HO.out,HEE.out.1,HEE.out.2.1,HEE.out.2.2,by rw[HE.out,HM.out,if_neg hbit];exact HJ1.out⟩)
           clear e128 hbit HE
           go_wp2_with fail
           go_roundw
           case rel=>exact⟨j+1,s2,x2,y2,z2,false,rfl,rfl,rfl,rfl,by first|rfl|rw[show(s:Int)*2%256=(s2:Int) by omega],by go_num,by omega,hs2,⟨HS2.out,HN.out⟩⟩
           case measure=>simp[intOf];omega
       . obtain rfl:sn2=true:=by rw[hsn];simp[hm]
         rw[if_neg hm] at hJ
         have HJ1:=Lz hJ
         have HM:=Lz hm
         clear hsn hJ hO e1 e2 e3 hm
         have HD:=Lz (HDB.out _ A x2 y2 z2 bz _ jx jy jz X Y Z HO.out HEE.out.1 HEE.out.2.1 HEE.out.2.2 HJ1.out)
         go_wp2_with fail
         refine HD.out.mono ?_
         rintro en w5 ⟨x3,y3,z3,X3,Y3,Z3,rfl,hq,-,-,-,hj3⟩
         have H5:=Lz (show Own R w w5 (((z3,Z3) :: (y3,Y3) :: (x3,X3) :: A)++(bz,1) :: L) from hq)
         have HJ3:=Lz hj3
         clear hq hj3 HD HO HEE HJ1
         by_cases hbit:s &&& 128=128
         . have hbt:(bits .and .u8 (s:Int) 128==(128:Int))=true:=by rw[e128];simp[hbit]
           have HE2:=Lz (show kv ks i (j+1)=2*kv ks i j+1 by rw[HE.out,if_pos hbit])
           have HA:=Lz (HAD.out _ _ x3 y3 z3 bz _ 2 1 0 X3 Y3 Z3 H5.out rfl rfl rfl (by have:=HM.out;omega) (by have:=HLE.out;have:=HE2.out;have:=HB.out;omega) HJ3.out)
           clear e128 hbit HE
           go_wp2_with fail
           refine HA.out.mono ?_
           rintro en w6 ⟨x4,y4,z4,X4,Y4,Z4,rfl,hq,-,-,-,hj4⟩
           have HN:=Lz (show SI R w L c bz w6 x4 y4 z4 (kv ks i (j+1)) true from⟨(z4,Z4) :: (y4,Y4) :: (x4,X4) :: (z3,Z3) :: (y3,Y3) :: (x3,X3) :: A,2,1,0,X4,Y4,Z4,by rw[HE2.out];simp,hq,rfl,rfl,rfl,by rw[HE2.out,if_neg (by omega)];exact hj4⟩)
           clear hq hj4 HA
           go_wp2_with fail
           go_roundw
           case rel=>exact⟨j+1,s2,x4,y4,z4,true,rfl,rfl,rfl,rfl,by first|rfl|rw[show(s:Int)*2%256=(s2:Int) by omega],by go_num,by omega,hs2,⟨HS2.out,HN.out⟩⟩
           case measure=>simp[intOf];omega
         . have hbt:(bits .and .u8 (s:Int) 128==(128:Int))=false:=by rw[e128];simp[hbit]
           have HN:=Lz (show SI R w L c bz w5 x3 y3 z3 (kv ks i (j+1)) true from⟨(z3,Z3) :: (y3,Y3) :: (x3,X3) :: A,2,1,0,X3,Y3,Z3,by rw[HE.out,if_neg hbit];have:=HM.out;simp;omega,H5.out,rfl,rfl,rfl,by rw[HE.out,if_neg hbit,if_neg (by have:=HM.out;omega)];exact HJ3.out⟩)
           clear e128 hbit HE
           go_wp2_with fail
           go_roundw
           case rel=>exact⟨j+1,s2,x3,y3,z3,true,rfl,rfl,rfl,rfl,by first|rfl|rw[show(s:Int)*2%256=(s2:Int) by omega],by go_num,by omega,hs2,⟨HS2.out,HN.out⟩⟩
           case measure=>simp[intOf];omega
     . obtain rfl:j=8:=by omega
       have HJ8:=Lz (show SI R w L c bz wr x2 y2 z2 (bev (ks.take (i+1))) sn2 by rw[<-kv_eight hlt];exact HQ.out.2)
       go_wp2_with fail
       go_roundw
       case rel=>exact⟨i+1,x2,y2,z2,sn2,rfl,rfl,rfl,rfl,by go_num,by omega,HJ8.out⟩
       case measure=>simp[intOf];omega
  . have hie:i=ks.length:=by omega
    subst hie
    obtain⟨A,jx,jy,jz,X,Y,Z,hsn,hO,e1,e2,e3,hJ⟩:=HR.out
    rw[List.take_length] at hsn hJ
    have hm:bev ks≠0:=by have:=HB.out;omega
    obtain rfl:sn=true:=by rw[hsn];simp[hm]
    rw[if_neg hm] at hJ
    have HA:=Lz (HAF.out _ A x y z bz _ jx jy jz X Y Z hO e1 e2 e3 (by omega) (by have:=HB.out;omega) hJ)
    clear hsn hJ hO e1 e2 e3 hm
    go_wp2_with fail
    refine HA.out.mono ?_
    rintro en w6 ⟨xx,yy,XX,YY,rfl,hq,m1,m2,hs⟩
    have hO:Own R w w6 (((yy,YY):Nat×Int) :: (xx,XX) :: L):=Own.choose (L:=L) (A:=(yy,YY) :: (xx,XX) :: (A ++ [(bz,1)])) (by simpa using hq) [0,1] (by decide) (by simp)
    have HO:=Lz (HSS.out.after hO)
    have HM:=Lz (And.intro m1 m2)
    have HE:=Lz hs
    clear hq hO m1 m2 hs
    go_wp2_with fail
    go_ret2
    exact⟨xx,yy,XX,YY,rfl,HO.out,HM.out.1,HM.out.2,HE.out⟩
end
end Go.Proofs.YtohhkjamddojmaaGreatDoor.Bit

set_option maxRecDepth 100000
set_option maxHeartbeats 16000000
namespace Go.Proofs.YtohhkjamddojmaaGreatDoor.Bit
open Go.RowKit
open Big EcLaw
attribute [local go_sem] ptr
attribute [local irreducible] Sz
section
variable {R : Nat → Prop} {w0 w w' : World} {L L' : List (Nat × Int)}
def Sl (w:World) (g o:Nat) (ks:List Nat):Prop:=(∀ i,i<ks.length->w.cell? ⟨g,o+i,.none⟩=some (.int .u8 (ks.getD i 0:Nat)))/\(∀ i,ks.getD i 0<256)/\ks.length<=700000/\g<w.heap.size
theorem Sl.kept {g o:Nat} {ks:List Nat} (h:Sl w g o ks) (k:Kept R w w') (hR:R g):Sl w' g o ks:=⟨λi hi=>k.cell hR (h.1 i hi),h.2.1,h.2.2.1,Nat.lt_of_lt_of_le h.2.2.2 k.size⟩
def ByV (w:World) (g:Nat) (v:Value) (n:Nat):Prop:=∃ o ks,v=.slice (some ⟨g,o,.none⟩) ks.length ks.length/\Sl w g o ks/\bev ks=n/\(0<ks.length->ks.getD 0 0≠0)
theorem ByV.kept {g n:Nat} {v:Value} (h:ByV w g v n) (k:Kept R w w') (hR:R g):ByV w' g v n:=by
 obtain⟨o,ks,e,hs,h1,h2⟩:=h
 exact⟨o,ks,e,hs.kept k hR,h1,h2⟩
theorem ByV.of {n g o:Nat} {ks:List Nat} (h2:Own (RO R g) w w L) (h3:∀ i,i<ks.length->w.cell? ⟨g,o+i,.none⟩=some (.int .u8 (ks.getD i 0:Nat))) (h4:∀ i,ks.getD i 0<256) (h5:bev ks=n) (h6:0<ks.length->ks.getD 0 0≠0) (h7:ks.length<=700000) :
 ByV w g (.slice (some ⟨g,o,.none⟩) ks.length ks.length) n:=⟨o,ks,rfl,⟨h3,h4,h7,h2.old (RO.self _ _)⟩,h5,h6⟩
theorem catch_idle2 (a b c:Addr) (w:World) :
 CallsD Tryz.prog 103 #[.pointer (some a),.pointer (some b),.pointer (some c)] .returning w λe u' w'=>e=.returned (.tuple #[])/\u'=.returning/\w'=w:=by
 refine callsD_of_wpS Tryz.func103 rfl λc₀ cs hu=>?_
 apply wpS_seq
 apply wpS_region
 simp[wpOpsS,go_sem,recoverD,hu,Tryz.ntmps103,Exit.thenS]
 refine wpS_cond (t:=false) (by simp[Act.eval,Array.replicate]) ?_
 simp only[Bool.false_eq_true,if_false]
 refine wpS_of_wp (wp_skip ?_)
 cases c₀
 simp_all [bodyPostS,results,Tryz.results103]
def GreatP (R:Nat->Prop) (w:World) (Post:Nat->Nat->Prop) (e:Ending) (w':World):Prop:=
 ∃ X Y vx vy gx gy,e=.returned (.tuple #[vx,vy,.bool true])/\Post X Y/\Kept R w w'/\Own R w' w' []/\ByV w' gx vx X/\ByV w' gy vy Y/\w.heap.size<=gx/\w.heap.size<=gy
theorem dg_four {n:Nat} (h:n<B64^4):(dg n).length<=10000:=by
 have:(dg n).length<=4:=by
  apply Nat.le_of_not_lt
  intro e
  have h0:n≠0:=λe0=>by rw[e0] at e;simp[dg] at e
  have:=dg_last h0
  have:B64^4<=B64^((dg n).length-1):=Nat.pow_le_pow_right (by decide) (by omega)
  omega
 omega
theorem great59 (h:Own R w0 w L) (cap:Array Value) (Post:Nat->Nat->Prop)
 (hF:∀ w1,Own (RO (RO (RO R w.heap.size) (w.heap.size+1)) (w.heap.size+1+1)) w1 w1 L->Kept R w w1->Calls Tryz.prog 59 cap w1 (λe w'=>∃ (tx ty X Y:Nat) (M:List (Nat×Int)),e=.returned (.tuple #[ptr tx,ptr ty])/\Own (RO (RO (RO R w.heap.size) (w.heap.size+1)) (w.heap.size+1+1)) w1 w' ((ty,(Y:Int)) :: (tx,(X:Int)) :: M)/\X<B64^4/\Y<B64^4/\Post X Y)) :
 Calls Tryz.prog 58 #[.func (.func 59) #[] cap] w (GreatP R w Post):=by
 have hmf:∀ (fn:Fn) (first cap:Array Value) (w:World),(Instr.makeFunc fn first cap).run Tryz.prog w=.ok (.func fn first cap) w:=λ_ _ _ _=>rfl
 have g1:=h.guard (.cells #[.slice .none 0 0] 25)
 have g2:=g1.guard (.cells #[.slice .none 0 0] 25)
 have g3:=g2.guard (.cells #[.bool false] 4)
 have e1:=g1.box (.cells #[.slice .none 0 0] 25)
 have e2:=g2.box (.cells #[.bool false] 4)
 have e0:=h.box (.cells #[.slice .none 0 0] 25)
 have k3:=(((h.since.box (.cells #[.slice .none 0 0] 25)).box (.cells #[.slice .none 0 0] 25)).box (.cells #[.bool false] 4)).kept
 have n0:=heap_alloc_new w (.cells #[.slice .none 0 0] 25)
 have n1:=heap_alloc_new (w.alloc (.cells #[.slice .none 0 0] 25)) (.cells #[.slice .none 0 0] 25)
 have n2:=heap_alloc_new ((w.alloc (.cells #[.slice .none 0 0] 25)).alloc (.cells #[.slice .none 0 0] 25)) (.cells #[.bool false] 4)
 have s1:(w.alloc (.cells #[.slice .none 0 0] 25)).heap.size=w.heap.size+1:=Array.size_push _
 have s2:((w.alloc (.cells #[.slice .none 0 0] 25)).alloc (.cells #[.slice .none 0 0] 25)).heap.size=w.heap.size+1+1:=by
  show(Array.push _ _).size=_
  rw[Array.size_push,s1]
 have s3:(((w.alloc (.cells #[.slice .none 0 0] 25)).alloc (.cells #[.slice .none 0 0] 25)).alloc (.cells #[.bool false] 4)).heap.size=w.heap.size+1+1+1:=by
  show(Array.push _ _).size=_
  rw[Array.size_push,s2]
 rw[s1] at g2 g3 n1 e2
 rw[s2] at g3 n2
 have m1:=e2.block n1 (RO.self _ _)
 have m0:=e1.block n0 (RO.self _ _)
 have m0':=e2.block m0 (.inl (RO.self _ _))
 have f0:¬R w.heap.size:=h.fresh
 have f1:¬R (w.heap.size+1):=by have:=e0.fresh;rwa [s1] at this
 have f2:¬R (w.heap.size+1+1):=by have:=(e0.box (.cells #[.slice .none 0 0] 25)).fresh;rwa [s2] at this
 have HFR:=Lz (And.intro f0 (And.intro f1 (And.intro f2 (And.intro s3 k3))))
 have BL:=Lz (And.intro m0' (And.intro m1 n2))
 have HS0:=Lz h
 have C3:=Lz (hF _ g3 k3)
 clear h hF g1 g2 g3 s1 s2 s3 e0 e1 e2 k3 n0 n1 n2 m0 m0' m1 f0 f1 f2
 go_enter_defers Tryz.func58,Tryz.ntmps58
 go_wp2_with fail
 refine C3.out.mono ?_
 rintro e w1 ⟨tx,ty,X,Y,M,rfl,hO,hX,hY,hP⟩
 have I:=Lz (intBytesN hO.since 1 X rfl (dg_four hX))
 have J:=Lz (λw2 (g:Nat) (o:Own (RO (RO (RO (RO R w.heap.size) (w.heap.size+1)) (w.heap.size+1+1)) g) w2 w2 (((ty,(Y:Int)):Nat×Int) :: (tx,(X:Int)) :: M))=>intBytesN o 0 Y rfl (dg_four hY))
 have HO:=Lz hO
 have HP:=Lz hP
 have HX:=Lz (And.intro hX hY)
 clear hO hX hY hP C3
 unfold ptr at *
 go_wp2_with fail
 refine I.out.mono ?_
 rintro e w2 ⟨g,o,ks,rfl,a1,a2,a3,a4,a5,a6,a7,a8⟩
 have HA:=Lz (And.intro a1 (And.intro a2 (And.intro (ByV.of a2 a3 a4 a5 a6 (by have:=dg_four HX.out.1;omega)) a8)))
 clear I a1 a2 a3 a4 a5 a6 a7 a8
 go_wp2_with fail
 refine(J.out _ _ HA.out.2.1).mono ?_
 rintro e w3 ⟨g',o',ks',rfl,a1,a2,a3,a4,a5,a6,a7,a8⟩
 have HB:=Lz (And.intro a1 (And.intro a2 (And.intro (ByV.of a2 a3 a4 a5 a6 (by have:=dg_four HX.out.2;omega)) a8)))
 clear J a1 a2 a3 a4 a5 a6 a7 a8
 have B0:=HB.out.1.block (HA.out.1.block (HO.out.block BL.out.1 (.inl (.inl (RO.self _ _)))) (.inl (.inl (RO.self _ _)))) (.inl (.inl (.inl (RO.self _ _))))
 have B1:=HB.out.1.block (HA.out.1.block (HO.out.block BL.out.2.1 (.inl (RO.self _ _))) (.inl (RO.self _ _))) (.inl (.inl (RO.self _ _)))
 have B2:=HB.out.1.block (HA.out.1.block (HO.out.block BL.out.2.2 (RO.self _ _)) (RO.self _ _)) (.inl (RO.self _ _))
 obtain⟨⟨q0,q1⟩,⟨q2,q3⟩,⟨q4,q5⟩,q6,q7,q8⟩:=three (X:=.slice (some ⟨g,o,.none⟩) ks.length ks.length) (Y:=.slice (some ⟨g',o',.none⟩) ks'.length ks'.length) (Z:=.bool true) B0 B1 B2
 go_wp2_with fail
 refine leaves_cons (f:=103) (args:=#[.pointer (some ⟨w.heap.size,0,.none⟩),.pointer (some ⟨w.heap.size+1,0,.none⟩),.pointer (some ⟨w.heap.size+1+1,0,.none⟩)]) (by simp) (by simp[go_sem]) ?_
 refine(catch_idle2 _ _ _ _).mono ?_
 rintro e u' w'' ⟨rfl,rfl,rfl⟩
 obtain⟨f0,f1,f2,s3,k3⟩:=HFR.out
 have z1:w.heap.size+1+1+1<=g:=by have:=HO.out.kept.size;rw[s3] at this;exact Nat.le_trans this HA.out.2.2.2
 have z2:w.heap.size+1+1+1<=g':=by have:=HO.out.kept.size;rw[s3] at this;have:=HA.out.1.kept.size;have:=HB.out.2.2.2;omega
 have KK:Kept (RO (RO R g) g') w3 (((w3.setCell ⟨w.heap.size,0,.none⟩ (.slice (some ⟨g,o,.none⟩) ks.length ks.length)).setCell ⟨w.heap.size+1,0,.none⟩ (.slice (some ⟨g',o',.none⟩) ks'.length ks'.length)).setCell ⟨w.heap.size+1+1,0,.none⟩ (.bool true)):=
  ((kept_set (RO.not (RO.not f0 (by omega)) (by omega))).trans (kept_set (RO.not (RO.not f1 (by omega)) (by omega)))).trans (kept_set (RO.not (RO.not f2 (by omega)) (by omega)))
 have kAll:Kept R w w3:=k3.trans ((HO.out.kept.weaken (λ_ _ hn hk=>hn (.inl (.inl (.inl hk))))).trans ((HA.out.1.kept.weaken (λ_ _ hn hk=>hn (.inl (.inl (.inl hk))))).trans (HB.out.1.kept.weaken (λ_ _ hn hk=>hn (.inl (.inl (.inl (.inl hk))))))))
 have kEnd:=kAll.trans (KK.weaken (λ_ _ hn hk=>hn (.inl (.inl hk))))
 have hW:=(HS0.out.turned kEnd).since
 have v1:=(HA.out.2.2.1.kept HB.out.1.kept (RO.self _ _)).kept KK (.inl (RO.self _ _))
 have v2:=HB.out.2.2.1.kept KK (RO.self _ _)
 have hP:=HP.out
 simp[Leaves,settle,results,Tryz.results58,go_sem,q6,q7,q8]
 exact⟨X,Y,_,_,g,g',rfl,hP,kEnd,hW,v1,v2,by omega,by omega⟩
end
end Go.Proofs.YtohhkjamddojmaaGreatDoor.Bit

set_option maxRecDepth 100000
set_option maxHeartbeats 16000000
namespace Go.Proofs.YtohhkjamddojmaaGreatDoor.Bit
open Go.RowKit
open Big EcLaw
attribute [local go_sem] ptr
attribute [local irreducible] Sz
section
variable {R : Nat → Prop} {w0 w w' : World} {L L' : List (Nat × Int)}
theorem nat_of_mul {c:Nums} (h:Grp c) {m:Nat} (m0:0<m) (m1:m<c.n) {U V:Int} (e:EcLaw.mul c.p 0 m c.G=.aff U V):∃ X Y:Nat,U=(X:Int)/\V=(Y:Int)/\X<c.p/\Y<c.p:=by
 obtain⟨x,y,e2,hx,hy⟩:=Grp_aff h m0 m1
 rw[e2] at e
 injection e with e3 e4
 exact⟨x,y,e3.symm,e4.symm,hx,hy⟩
theorem namedMul1 {c:Nums} (hc:Grp c) (h:Own R w0 w L) (b0 b1 b2 b3 cc P iP gx ox gy oy kb ko kc:Nat) (xs ys ks:List Nat) (hP:L[iP]? = some (P,(c.p:Int)))
 (hc0:w.cell? ⟨b0,0,.none⟩=some (ptr cc)) (hc1:w.cell? ⟨b1,0,.none⟩=some (.slice (some ⟨gx,ox,.none⟩) xs.length xs.length)) (hc2:w.cell? ⟨b2,0,.none⟩=some (.slice (some ⟨gy,oy,.none⟩) ys.length ys.length)) (hc3:w.cell? ⟨b3,0,.none⟩=some (.slice (some ⟨kb,ko,.none⟩) ks.length kc))
 (hcP:w.cell? ⟨cc,1,.none⟩=some (ptr P)) (hR0:R b0) (hR1:R b1) (hR2:R b2) (hR3:R b3) (hRc:R cc) (hRx:R gx) (hRy:R gy) (hRk:R kb)
 (sx:Sl w gx ox xs) (sy:Sl w gy oy ys) (sk:Sl w kb ko ks) (ex:bev xs=c.x) (ey:bev ys=c.y) (k0:0<bev ks) (k1:bev ks<c.n) :
 Calls Tryz.prog 59 #[ptr b0,ptr b1,ptr b2,ptr b3] w (λe w'=>∃ (tx ty X Y:Nat) (M:List (Nat×Int)),e=.returned (.tuple #[ptr tx,ptr ty])/\Own R w0 w' ((ty,(Y:Int)) :: (tx,(X:Int)) :: M)/\X<B64^4/\Y<B64^4/\EcLaw.mul c.p 0 (bev ks) c.G=.aff X Y):=by
 have HSS:=Lz h
 have O0:=Lz h.since
 have K5:=Lz (λ(w':World) (k:Kept R w w')=>(⟨k.cell hR0 hc0,k.cell hR1 hc1,k.cell hR2 hc2,k.cell hR3 hc3⟩:w'.cell? ⟨b0,0,.none⟩=some (ptr cc)/\w'.cell? ⟨b1,0,.none⟩=some (.slice (some ⟨gx,ox,.none⟩) xs.length xs.length)/\w'.cell? ⟨b2,0,.none⟩=some (.slice (some ⟨gy,oy,.none⟩) ys.length ys.length)/\w'.cell? ⟨b3,0,.none⟩=some (.slice (some ⟨kb,ko,.none⟩) ks.length kc)))
 have HX:=Lz (λn=>greatO (h.since.drew n) gx ox xs.length xs hRx (sx.kept (Kept.drew R w n) hRx).1 sx.2.1 sx.2.2.1 (Nat.le_refl _))
 have HY:=Lz (λw1 (M:List (Nat×Int)) (o:Own R w w1 M)=>greatO o gy oy ys.length ys hRy (sy.kept o.kept hRy).1 sy.2.1 sy.2.2.1 (Nat.le_refl _))
 have HM:=Lz (λw1 (x y:Nat) (o:Own R w w1 ((y,(c.y:Int)) :: (x,(c.x:Int)) :: L))=>scalarB hc o cc x y P kb ko kc 1 0 (iP+2) ks (o.keep hcP hRc) hRc rfl rfl hP hRk (sk.kept o.kept hRk).1 sk.2.1 (by have:=sk.2.2.1;omega) k0 k1)
 have HN:=Lz (λU V (e:EcLaw.mul c.p 0 (bev ks) c.G=.aff U V)=>nat_of_mul hc k0 k1 e)
 have HP4:=Lz (pB4 hc)
 rw[ex] at HX
 rw[ey] at HY
 clear h hP hc0 hc1 hc2 hc3 hcP hR0 hR1 hR2 hR3 hRc hRx hRy hRk sx sy sk k0 k1 hc ex ey
 have HN0:=Lz (K5.out w (Kept.refl _ _))
 obtain⟨q0,q1,q2,q3⟩:=HN0.out
 unfold ptr at *
 go_enter Tryz.func59,Tryz.ntmps59
 go_wp2_with fail
 go_region_held3 (λw'=>w'.cell? ⟨b0,0,.none⟩=some (.pointer (some ⟨cc,0,.none⟩))/\w'.cell? ⟨b1,0,.none⟩=some (.slice (some ⟨gx,ox,.none⟩) xs.length xs.length)/\w'.cell? ⟨b2,0,.none⟩=some (.slice (some ⟨gy,oy,.none⟩) ys.length ys.length)/\w'.cell? ⟨b3,0,.none⟩=some (.slice (some ⟨kb,ko,.none⟩) ks.length kc)) (go_keep) (first|(go_at_call 60;refine(HM.out _ x1 y1 N2.out).mono ?_;rintro en w9 ⟨tx,ty,U,V,rfl,hq,e1,e2,hs⟩;obtain⟨q0,q1,q2,q3⟩:=K5.out _ hq.kept;have H9:=Lz hq;have HB:=Lz hs;clear hq e1 e2 hs)|(go_at_call 61;refine(HY.out _ _ N1.out).mono ?_;rintro en v2 ⟨y1,rfl,hq,e1⟩;obtain⟨q0,q1,q2,q3⟩:=K5.out _ hq.kept;have N2:=Lz hq;clear hq e1)|(go_at_call 61;refine(HX.out _).mono ?_;rintro en v1 ⟨x1,rfl,hq,e1⟩;obtain⟨q0,q1,q2,q3⟩:=K5.out _ hq.kept;have N1:=Lz hq;clear hq e1))
 all_goals
  obtain⟨X,Y,eU,eV,hX,hY⟩:=HN.out _ _ HB.out
  have HF:=Lz HB.out
  rw[eU,eV] at HF
  subst eU eV
  have HO:=Lz (HSS.out.after H9.out)
  have HL:=Lz (And.intro (Nat.lt_trans hX HP4.out) (Nat.lt_trans hY HP4.out))
  clear hX hY HB H9 HX HY HM HN HP4 K5 O0
  go_wp2_with fail
  go_ret2
  exact⟨tx,ty,X,Y,_,rfl,HO.out,HL.out.1,HL.out.2,HF.out⟩
end
end Go.Proofs.YtohhkjamddojmaaGreatDoor.Bit

set_option maxRecDepth 100000
set_option maxHeartbeats 16000000
namespace Go.Proofs.YtohhkjamddojmaaGreatDoor.Bit
open Go.RowKit
open Big EcLaw
attribute [local go_sem] ptr
attribute [local irreducible] Sz
section
variable {R : Nat → Prop} {w0 w w' : World} {L L' : List (Nat × Int)}
structure CurveB (R:Nat->Prop) (w w':World) (c:Nums) (k:Nat->Prop) (b cc zP zN zB zX zY:Nat):Prop where
 own:Own k w' w' [(zY,(c.y:Int)),(zX,(c.x:Int)),(zB,(c.b:Int)),(zN,(c.n:Int)),(zP,(c.p:Int))]
 kept:Kept R w w'
 cP:w'.cell? ⟨cc,1,.none⟩=some (ptr zP)
 cb:w'.cell? ⟨b,0,.none⟩=some (ptr cc)
 kb:k b
 kc:k cc
 mono:∀ i,R i->k i
theorem CurveB.of {c:Nums} {bits cc zP zN zB zX zY:Nat} {nm:Value} (h1:Own (RO R cc) w' w' ((zY,(c.y:Int)) :: (zX,(c.x:Int)) :: (zB,(c.b:Int)) :: (zN,(c.n:Int)) :: (zP,(c.p:Int)) :: [])) (h2:Kept R w w') (h3:w'.heap[cc]? = some (.cells #[nm,ptr zP,ptr zN,ptr zB,ptr zX,ptr zY,.int .i64 (bits:Nat)] 110)) (_h4:¬R cc) :
 CurveB R w (w'.alloc (.cells #[ptr cc] 106)) c (RO (RO R cc) w'.heap.size) w'.heap.size cc zP zN zB zX zY:=by
 have g:=h1.guard (.cells #[ptr cc] 106)
 have n0:=heap_alloc_new w' (.cells #[ptr cc] 106)
 have hb:=(h1.box (.cells #[ptr cc] 106))
 exact⟨g,h2.trans hb.kept.ro,zzv (k:=1) (h1.since.box (.cells #[ptr cc] 106) |>.block h3 (RO.self _ _)) rfl,zzv n0 rfl,RO.self _ _,.inl (RO.self _ _),λi hi=>.inl (.inl hi)⟩
theorem namedMultO {bits:Nat} {c:Nums} (hf:Four bits c) (h:Own R w0 w []) (ae:Addr) (he:w.cell? ⟨2,0,.none⟩=some (eofV ae)) (gx gy:Nat) (vx vy:Value) (kb ko kc:Nat) (ks:List Nat) (bx:ByV w gx vx c.x) (by_:ByV w gy vy c.y) (hRx:R gx) (hRy:R gy) (sk:Sl w kb ko ks) (hRk:R kb) (k0:0<bev ks) (k1:bev ks<c.n) :
 Calls Tryz.prog 16 #[.int .i64 (bits:Nat),vx,vy,.slice (some ⟨kb,ko,.none⟩) ks.length kc] w (GreatP R w (λX Y=>EcLaw.mul c.p 0 (bev ks) c.G=.aff X Y)):=by
 obtain⟨ox,xs,rfl,sx,ex,zx⟩:=bx
 obtain⟨oy,ys,rfl,sy,ey,zy⟩:=by_
 have hmf:∀ (fn:Fn) (first cap:Array Value) (w:World),(Instr.makeFunc fn first cap).run Tryz.prog w=.ok (.func fn first cap) w:=λ_ _ _ _=>rfl
 have e0:=h.since.box (.cells #[.slice (some ⟨gx,ox,.none⟩) xs.length xs.length] 25)
 have g1:=h.guard (.cells #[.slice (some ⟨gx,ox,.none⟩) xs.length xs.length] 25)
 have n0:=heap_alloc_new w (.cells #[.slice (some ⟨gx,ox,.none⟩) xs.length xs.length] 25)
 have g2:=g1.guard (.cells #[.slice (some ⟨gy,oy,.none⟩) ys.length ys.length] 25)
 have e1:=g1.box (.cells #[.slice (some ⟨gy,oy,.none⟩) ys.length ys.length] 25)
 have n1:=heap_alloc_new (w.alloc (.cells #[.slice (some ⟨gx,ox,.none⟩) xs.length xs.length] 25)) (.cells #[.slice (some ⟨gy,oy,.none⟩) ys.length ys.length] 25)
 have s1:(w.alloc (.cells #[.slice (some ⟨gx,ox,.none⟩) xs.length xs.length] 25)).heap.size=w.heap.size+1:=Array.size_push _
 have s2:((w.alloc (.cells #[.slice (some ⟨gx,ox,.none⟩) xs.length xs.length] 25)).alloc (.cells #[.slice (some ⟨gy,oy,.none⟩) ys.length ys.length] 25)).heap.size=w.heap.size+1+1:=by
  show(Array.push _ _).size=_
  rw[Array.size_push,s1]
 have g3:=g2.guard (.cells #[.slice (some ⟨kb,ko,.none⟩) ks.length kc] 25)
 have e2:=g2.box (.cells #[.slice (some ⟨kb,ko,.none⟩) ks.length kc] 25)
 have n2:=heap_alloc_new ((w.alloc (.cells #[.slice (some ⟨gx,ox,.none⟩) xs.length xs.length] 25)).alloc (.cells #[.slice (some ⟨gy,oy,.none⟩) ys.length ys.length] 25)) (.cells #[.slice (some ⟨kb,ko,.none⟩) ks.length kc] 25)
 rw[s1] at g2 g3 n1 e2
 rw[s2] at g3 n2
 have m1:=e2.block n1 (RO.self _ _)
 have m0:=e1.block n0 (RO.self _ _)
 have m0':=e2.block m0 (.inl (RO.self _ _))
 have k3:=(((h.since.box (.cells #[.slice (some ⟨gx,ox,.none⟩) xs.length xs.length] 25)).box (.cells #[.slice (some ⟨gy,oy,.none⟩) ys.length ys.length] 25)).box (.cells #[.slice (some ⟨kb,ko,.none⟩) ks.length kc] 25)).kept
 have hl2:R 2:=h.low 2 (by omega)
 have C:=Lz (namedO hf g3 ae (k3.cell hl2 he))
 have F:=Lz (λ(w2:World) (K:Nat->Prop) (b cc zP zN zB zX zY:Nat) (B:CurveB (RO (RO (RO R w.heap.size) (w.heap.size+1)) (w.heap.size+1+1)) (((w.alloc (.cells #[.slice (some ⟨gx,ox,.none⟩) xs.length xs.length] 25)).alloc (.cells #[.slice (some ⟨gy,oy,.none⟩) ys.length ys.length] 25)).alloc (.cells #[.slice (some ⟨kb,ko,.none⟩) ks.length kc] 25)) w2 c K b cc zP zN zB zX zY)=>
  great59 B.own #[.pointer (some ⟨b,0,.none⟩),.pointer (some ⟨w.heap.size,0,.none⟩),.pointer (some ⟨w.heap.size+1,0,.none⟩),.pointer (some ⟨w.heap.size+1+1,0,.none⟩)] (λX Y=>EcLaw.mul c.p 0 (bev ks) c.G=.aff X Y) (λw1 o k=>
   have kk:Kept R w w1:=k3.trans ((B.kept.ro.ro.ro).trans (k.weaken (λ_ _ hn hk=>hn (B.mono _ (.inl (.inl (.inl hk)))))))
   have hin:∀ i,R i->RO (RO (RO K w2.heap.size) (w2.heap.size+1)) (w2.heap.size+1+1) i:=λi hi=>.inl (.inl (.inl (B.mono _ (.inl (.inl (.inl hi))))))
   namedMul1 hf.grp o b w.heap.size (w.heap.size+1) (w.heap.size+1+1) cc zP 4 gx ox gy oy kb ko kc xs ys ks rfl
    (k.cell B.kb B.cb) (k.cell (B.mono _ (.inl (.inl (RO.self _ _)))) (B.kept.cell (.inl (.inl (RO.self _ _))) (zzv m0' rfl))) (k.cell (B.mono _ (.inl (RO.self _ _))) (B.kept.cell (.inl (RO.self _ _)) (zzv m1 rfl))) (k.cell (B.mono _ (RO.self _ _)) (B.kept.cell (RO.self _ _) (zzv n2 rfl)))
    (k.cell B.kc B.cP) (.inl (.inl (.inl B.kb))) (.inl (.inl (.inl (B.mono _ (.inl (.inl (RO.self _ _))))))) (.inl (.inl (.inl (B.mono _ (.inl (RO.self _ _)))))) (.inl (.inl (.inl (B.mono _ (RO.self _ _))))) (.inl (.inl (.inl B.kc)))
    (hin _ hRx) (hin _ hRy) (hin _ hRk) (sx.kept kk hRx) (sy.kept kk hRy) (sk.kept kk hRk) ex ey k0 k1))
 have HE:=Lz (λ(w2 w3:World) (K:Nat->Prop) (b cc zP zN zB zX zY:Nat) (B:CurveB (RO (RO (RO R w.heap.size) (w.heap.size+1)) (w.heap.size+1+1)) (((w.alloc (.cells #[.slice (some ⟨gx,ox,.none⟩) xs.length xs.length] 25)).alloc (.cells #[.slice (some ⟨gy,oy,.none⟩) ys.length ys.length] 25)).alloc (.cells #[.slice (some ⟨kb,ko,.none⟩) ks.length kc] 25)) w2 c K b cc zP zN zB zX zY) (e:Ending) (G:GreatP K w2 (λX Y=>EcLaw.mul c.p 0 (bev ks) c.G=.aff X Y) e w3)=>
  (show GreatP R w (λX Y=>EcLaw.mul c.p 0 (bev ks) c.G=.aff X Y) e w3 from by
   obtain⟨X,Y,vx,vy,g,g',a1,a2,a3,a4,a5,a6,a7,a8⟩:=G
   have kk:Kept R w w3:=k3.trans ((B.kept.ro.ro.ro).trans (a3.weaken (λ_ _ hn hk=>hn (B.mono _ (.inl (.inl (.inl hk)))))))
   have:w.heap.size<=w2.heap.size:=(k3.trans B.kept.ro.ro.ro).size
   exact⟨X,Y,vx,vy,g,g',a1,a2,kk,(h.turned kk).since,a5,a6,by omega,by omega⟩))
 clear h e0 g1 n0 g2 e1 n1 s1 s2 g3 e2 n2 m1 m0 m0' k3 hl2 he hRx hRy hRk sx sy sk ex ey zx zy k0 k1
 go_enter Tryz.func16,Tryz.ntmps16
 go_wp2_with fail
 refine C.out.mono ?_
 rintro en w1 ⟨cc,zP,zN,zB,zX,zY,nm,rfl,a1,a2,a3,a4⟩
 have HC:=Lz (CurveB.of a1 a2 a3 a4)
 have q0:=zzv (k:=0) (heap_alloc_new w1 (.cells #[ptr cc] 106)) rfl
 have C2:=Lz (F.out _ _ _ _ _ _ _ _ _ HC.out)
 clear a1 a2 a3 a4 F C
 unfold ptr at *
 go_wp2_with fail
 refine C2.out.mono ?_
 rintro en w3 hq
 obtain⟨X,Y,vx,vy,g,g',rfl,h1⟩:=id hq
 have H3:=Lz (HE.out _ _ _ _ _ _ _ _ _ _ HC.out _ hq)
 clear hq h1 C2
 go_wp2_with fail
 go_ret3
 exact H3.out
end
end Go.Proofs.YtohhkjamddojmaaGreatDoor.Bit
