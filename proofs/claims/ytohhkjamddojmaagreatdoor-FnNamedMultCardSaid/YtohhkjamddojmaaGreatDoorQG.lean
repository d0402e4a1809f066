/- Lehmer's algorithm: numbers of several words. The greatest common divisor and the inverse, of numbers of several words. From Jacobian coordinates back, on the curves of bitcurves. -/
import Derived.Test.YtohhkjamddojmaaGreatDoorNN
import Derived.Deep.Cut
import Derived.Test.YtohhkjamddojmaaGreatDoorOB
set_option maxRecDepth 100000
set_option maxHeartbeats 16000000
namespace Go.Proofs.YtohhkjamddojmaaGreatDoor.Big
open Go.RowKit
theorem sz_toR {n:Nat} {U:Int} (h:Sz n U):Sz n ((toR U).2:Int):=by unfold Sz at *;show((U.natAbs:Int)).natAbs<_;rw[Int.natAbs_natCast];exact h
attribute [local go_sem] ptr
attribute [local irreducible] Sz absOf
section
variable {R : Nat → Prop} {w0 w : World} {L : List (Nat × Int)}
theorem Own.newThree (h:Own R w0 w L):Own R w0 (((w.alloc (.cells #[.bool false,.slice .none 0 0] 172)).alloc (.cells #[.bool false,.slice .none 0 0] 172)).alloc (.cells #[.bool false,.slice .none 0 0] 172)) ((w.heap.size+1+1,0) :: (w.heap.size+1,0) :: (w.heap.size,0) :: L)/\¬R (w.heap.size+1+1)/\¬R (w.heap.size+1)/\¬R w.heap.size:=by
 obtain⟨h2,r2,r1⟩:=h.new2
 obtain⟨h3,r3⟩:=h2.new
 have e:((w.alloc (.cells #[.bool false,.slice .none 0 0] 172)).alloc (.cells #[.bool false,.slice .none 0 0] 172)).heap.size=w.heap.size+1+1:=by
  rw[show ∀ (v:World) (o:Obj),(v.alloc o).heap.size=v.heap.size+1 from λv o=>Array.size_push _,show ∀ (v:World) (o:Obj),(v.alloc o).heap.size=v.heap.size+1 from λv o=>Array.size_push _]
 rw[e] at h3 r3
 exact⟨h3,r3,r2,r1⟩
def FI (R:Nat->Prop) (w0:World) (L:List (Nat×Int)) (g n:Nat) (wx:World) (pa pu:Nat):Prop:=
 ∃ U:Int,Own R w0 wx ((pu,U) :: (pa,1) :: L)/\(n:Int)∣U*g-1/\(U.natAbs:Int)<n
theorem FI.of {g n:Nat} {wx:World} {pa pb pu pv:Nat} {B U V:Int} (ho:Own R w0 wx ((pu,U) :: (pv,V) :: (pa,(1:Int)) :: (pb,B) :: L)) (hg:GcdLaw.G (g:Int) n 1 0 U V) (hn:1<n):FI R w0 L g n wx pa pu:=
 ⟨U,Own.choose (A:=[(pu,U),(pv,V),(pa,(1:Int)),(pb,B)]) (L:=L) ho [0,2] (by decide) (by simp),hg.fin (by omega) rfl⟩
theorem lehmerO (h:Own R w0 w L) (i m j k:Nat) {zd zx zg zn:Nat} {v u:Int} (g n:Nat) (hi:L[i]? = some (zd,v)) (hm:L[m]? = some (zx,u)) (hj:L[j]? = some (zg,(g:Int))) (hk:L[k]? = some (zn,(n:Int)))
 (him:i≠m) (hR:¬R zd) (hR2:¬R zx) (hg:0<g) (hgn:g<n) (hn:n<B64^4) (hc:Int.gcd g n=1) :
 Calls Tryz.prog 173 #[ptr zd,ptr zx,.pointer .none,ptr zg,ptr zn] w (λe w'=>∃ U:Int,e=.returned (ptr zd)/\Own R w0 w' ((L.set m (zx,U)).set i (zd,1))/\(n:Int)∣U*g-1/\(U.natAbs:Int)<n):=by
 have HS:=Lz h
 have HHI:=Lz hi
 have HHM:=Lz hm
 have HHJ:=Lz hj
 have HHK:=Lz hk
 have HIM:=Lz him
 have HHR:=Lz hR
 have HHR2:=Lz hR2
 have HG0:=Lz hg
 have HGN:=Lz hgn
 have HN:=Lz hn
 have HC:=Lz hc
 clear h hi hm hj hk him hR hR2 hg hgn hn hc
 unfold ptr at *
 go_enter Tryz.func173,Tryz.ntmps173
 go_wp2_with fail
 -- A := |a|, B := |b|
 have SG:=Lz ((sz_of_lt (n:=4) (a:=(g:Int)) (by have:=HN.out;have:=HGN.out;omega)).le (by decide:64*4<=640000))
 have SN:=Lz ((sz_of_lt (n:=4) (a:=(n:Int)) (by have:=HN.out;omega)).le (by decide:64*4<=640000))
 obtain⟨hA,hAR⟩:=HS.out.new
 refine(absO hA 0 (j+1) rfl HHJ.out hAR SG.out).mono ?_
 rintro e w1 ⟨rfl,h1⟩
 have H1:=Lz (show Own R w0 w1 ((w.heap.size,(g:Int)) :: L) from h1)
 have RA:=Lz hAR
 clear hA hAR h1
 generalize w.heap.size=pA at *
 go_wp2_with fail
 obtain⟨hB,hBR⟩:=H1.out.new
 refine(absO hB 0 (k+2) rfl HHK.out hBR SN.out).mono ?_
 rintro e w2 ⟨rfl,h2⟩
 have H2:=Lz (show Own R w0 w2 ((w1.heap.size,(n:Int)) :: (pA,(g:Int)) :: L) from h2)
 have RB:=Lz hBR
 clear hB hBR h2
 generalize w1.heap.size=pB at *
 go_wp2_with fail
 obtain⟨hU,hUR⟩:=H2.out.new
 refine(setIntO hU 0 1 rfl hUR (by decide)).mono ?_
 rintro e w3 ⟨rfl,h3⟩
 have RU:=Lz hUR
 obtain⟨h6,r3,r2,r1⟩:=(show Own R w0 w3 ((w2.heap.size,(1:Int)) :: (pB,(n:Int)) :: (pA,(g:Int)) :: L) from h3).newThree
 have H6:=Lz h6
 have RV:=Lz (And.intro r1 (And.intro r2 r3))
 clear hU hUR h3 h6 r1 r2 r3
 obtain⟨p,q,c,d,ha1,hb1,hcmp⟩:=H6.out.cmpq (j:=5) (k:=4) rfl rfl SG.out
 have hs:sgn (g:Int).natAbs (n:Int).natAbs=-1:=sgn_lt (by simpa using HGN.out)
 rw[hs] at hcmp
 have HCMP:=Lz hcmp
 clear hcmp hs
 generalize w2.heap.size=pU at *
 go_wp2_with fail
 generalize ((w3.alloc (.cells #[.bool false,.slice .none 0 0] 172)).alloc (.cells #[.bool false,.slice .none 0 0] 172)).alloc (.cells #[.bool false,.slice .none 0 0] 172)=W at *
 generalize w3.heap.size=pV at *
 go_quiet ((go_at_call 131;exact HCMP.out _))
 go_wp2_with fail
 have HL0:=Lz (show LI R w0 L g n (W.drewN nq) pB pA pV pU (pV+1+1) (pV+1) n g 0 1 from⟨⟨_,_,(H6.out.drew nq).raw⟩,RB.out,RA.out,RV.out.1,RU.out,RV.out.2.2,RV.out.2.1,GcdLaw.G.startSwap (by have:=HG0.out;omega) (by have:=HG0.out;have:=HGN.out;omega) (by have:=HGN.out;omega),HN.out,Nat.le_refl n⟩)
 clear ha1 hb1
 go_loopw [11,12,13,14,17] (λs11 s12 s13 s14 s17 wr=>∃ (pa pb pu pv pr:Nat) (A B:Nat) (U V:Int),s11=(.pointer (some ⟨pa,0,.none⟩))/\s12=(.pointer (some ⟨pb,0,.none⟩))/\s13=(.pointer (some ⟨pu,0,.none⟩))/\s14=(.pointer (some ⟨pv,0,.none⟩))/\s17=(.pointer (some ⟨pr,0,.none⟩))/\RowKit.Hid (LI R w0 L g n wr pa pb pu pv pr (pV+1) A B U V)) (λs11 s12 _ _ _ wr=>absOf wr s11+absOf wr s12)
 case atStart=>exact⟨pB,pA,pV,pU,pV+1+1,n,g,0,1,rfl,rfl,rfl,rfl,rfl,HL0.out⟩
 case round=>
  obtain⟨pa,pb,pu,pv,pr,A,B,U,V,rfl,rfl,rfl,rfl,rfl,HLI⟩:=hrel
  obtain⟨p,c,q,d,cA,cB,hwA,hwB⟩:=HLI.out.cells
  obtain⟨lb,hlb⟩:∃ lb,lb=(dg B).length:=⟨_,rfl⟩
  rw[<-hlb] at cB
  by_cases hB:2<=lb
  . have i1:(1:Int)<lb:=by omega
    have HSIM:=Lz (HLI.out.sim (by rw[<-hlb];exact hB))
    have HB0:=Lz (show B≠0 from by rintro rfl;rw[zyv] at hlb;simp at hlb;omega)
    clear hwA hwB cA hlb hB
    go_wp2_with fail
    refine HSIM.out.mono ?_
    rintro e wq ⟨u0,u1,v0,v1,even,rfl,⟨d2,rfl⟩,b0,b1,b2,b3,hL⟩
    have HL2:=Lz (HLI.out.drew d2)
    have HBS:=Lz (And.intro b0 (And.intro b1 (And.intro b2 (And.intro b3 hL))))
    clear b0 b1 b2 b3 hL cB
    by_cases hv:v0=0
    . have j1:((v0:Int) != 0)=false:=by rw[hv];rfl
      have HE:=Lz (HL2.out.euclid HB0.out)
      clear hv
      go_wp2_with fail
      refine HE.out.mono ?_
      rintro e wq ⟨rfl,h3⟩
      have H3:=Lz h3
      clear h3
      go_wp2_with fail
      go_roundw
      case rel=>exact⟨pb,pr,pv,pu,pa,B,A%B,V,_,rfl,rfl,rfl,rfl,rfl,H3.out⟩
      case measure=>
       have e1:=H3.out.abs
       have e2:=HLI.out.abs
       unfold ptr at e1 e2
       rw[e1.1,e1.2,e2.1,e2.2]
       have:=HLI.out.g.ab
       have:=Nat.mod_lt A (show 0<B by have:=HB0.out;omega)
       omega
    . have j1:((v0:Int) != 0)=true:=by rw[bne_iff_ne];omega
      have HC1:=Lz (HL2.out.updA u0 u1 v0 v1 even HBS.out.1 HBS.out.2.1 HBS.out.2.2.1 HBS.out.2.2.2.1)
      have HLEH:=Lz (HBS.out.2.2.2.2.resolve_left hv)
      clear hv
      go_wp2_with fail
      refine HC1.out.mono ?_
      rintro e wq ⟨rfl,h3⟩
      have HC2:=Lz (HL2.out.updU h3 u0 u1 v0 v1 even HBS.out.1 HBS.out.2.1 HBS.out.2.2.1 HBS.out.2.2.2.1)
      clear h3
      go_wp2_with fail
      refine HC2.out.mono ?_
      rintro e wz ⟨rfl,h4⟩
      obtain⟨A',B',hLeh⟩:=HLEH.out
      obtain⟨A2,B2,U2,V2,h5,hlt⟩:=HL2.out.next hLeh h4
      have H5:=Lz h5
      have HLT:=Lz hlt
      clear h4 hLeh h5 hlt
      go_wp2_with fail
      go_roundw
      case rel=>exact⟨pa,pb,pu,pv,pr,A2,B2,U2,V2,rfl,rfl,rfl,rfl,rfl,H5.out⟩
      case measure=>
       have e1:=H5.out.abs
       have e2:=HLI.out.abs
       unfold ptr at e1 e2
       rw[e1.1,e1.2,e2.1,e2.2]
       exact HLT.out
  . have i1:¬(1:Int)<lb:=by omega
    have HB1:=Lz (show B<B64 from by
     have:=@dg_two B
     omega)
    have hN1:=Lz (show 1<n from by have:=HG0.out;have:=HGN.out;omega)
    obtain⟨la,hla⟩:∃ la,la=(dg A).length:=⟨_,rfl⟩
    rw[<-hla] at cA
    have HLB:=Lz hlb
    have HLAA:=Lz hla
    clear hwA hwB hB hla hlb
    go_upto_if 122 with fail
    go_cut [11,13] from 11 (λs11 s13 wx=>∃ pa pu:Nat,s11=(.pointer (some ⟨pa,0,.none⟩))/\s13=(.pointer (some ⟨pu,0,.none⟩))/\RowKit.Hid (FI R w0 L g n wx pa pu))
    case first=>
     have hlb:=HLB.out
     have hla:=HLAA.out
     have HFI0:∀ (wx:World) (pa pb pu pv pr A B:Nat) (U V:Int),LI R w0 L g n wx pa pb pu pv pr (pV+1) A B U V->B=0->FI R w0 L g n wx pa pu:=λwx pa pb pu pv pr A B U V hl hB0=>by
      have hg:=hl.g
      have h0:(B:Int)=0:=by omega
      rw[h0] at hg
      have hA1:(A:Int)=1:=by
       have:=hg.fin_gcd
       rw[HC.out] at this
       exact this
      rw[hA1] at hg
      have ho:=hl.ints
      rw[hA1] at ho
      exact FI.of ho hg hN1.out
     have HFI:=Lz HFI0
     clear HFI0
     by_cases hB0:B=0
     . have i2:¬0<lb:=by rw[hlb,hB0,zyv];simp
       have i2':decide (0<lb)=false:=by simp[i2]
       have HF1:=Lz (HFI.out _ _ _ _ _ _ _ _ _ _ HLI.out hB0)
       clear hB0 hlb hla
       go_wp2_with fail
       go_meet
       case rel=>exact⟨pa,pu,rfl,rfl,HF1.out⟩
     . have i2:0<lb:=by have:=zyw hB0;omega
       have i2':decide (0<lb)=true:=by simp[i2]
       have HBN:=Lz hB0
       clear hB0 hlb hla
       go_upto_if 128 with fail
       go_cut [11,12,13,14,17] from 117 to 142 (λs11 s12 s13 s14 s17 wx=>∃ (pa pb pu pv pr:Nat) (A B:Nat) (U V:Int),s11=(.pointer (some ⟨pa,0,.none⟩))/\s12=(.pointer (some ⟨pb,0,.none⟩))/\s13=(.pointer (some ⟨pu,0,.none⟩))/\s14=(.pointer (some ⟨pv,0,.none⟩))/\s17=(.pointer (some ⟨pr,0,.none⟩))/\RowKit.Hid (LI R w0 L g n wx pa pb pu pv pr (pV+1) A B U V/\A<B64))
       case first=>
        have hla:=HLAA.out
        by_cases h2:2<=la
        . have i3:1<la:=by omega
          have i3':decide (1<la)=true:=by simp[i3]
          have HE:=Lz (HLI.out.euclid HBN.out)
          clear h2 hla
          go_wp2_with fail
          refine HE.out.mono ?_
          rintro e wq ⟨rfl,h3⟩
          have H3:=Lz h3
          clear h3 HE
          go_wp2_with fail
          go_meet
          case rel=>exact⟨pb,pr,pv,pu,pa,B,A%B,V,_,rfl,rfl,rfl,rfl,rfl,H3.out,HB1.out⟩
        . have i3:¬1<la:=by omega
          have i3':decide (1<la)=false:=by simp[i3]
          have HA1:=Lz (show A<B64 from by
           have:=@dg_two A
           omega)
          clear h2 hla
          go_wp2_with fail
          go_meet
          case rel=>exact⟨pa,pb,pu,pv,pr,A,B,U,V,rfl,rfl,rfl,rfl,rfl,HLI.out,HA1.out⟩
       case rest=>
        clear HLI cA cB HBN HB1 i1 i2 HLB HLAA
        obtain⟨pa,pb,pu,pv,pr,A,B,U,V,rfl,rfl,rfl,rfl,rfl,HLA⟩:=hcut
        have HLI:=Lz HLA.out.1
        have HAB:=Lz HLA.out.2
        clear HLA
        have HFI2:=Lz (λh0=>HFI.out _ _ _ _ _ _ _ _ _ _ HLI.out h0)
        clear HFI
        by_cases hB0:B=0
        . obtain⟨p,c,q,d,cA,cB,-,-⟩:=HLI.out.cells
          have HF1:=Lz (HFI2.out hB0)
          rw[hB0,zyv] at cB
          have cB0:wc.cell? ⟨pb,1,.none⟩=some (.slice q 0 d):=cB
          clear cA cB hB0
          go_wp2_with fail
          go_meet
          case rel=>exact⟨pa,pu,rfl,rfl,HF1.out⟩
        . have hA0:A≠0:=by have:=HLI.out.g.a1;omega
          have hBB:B<B64:=by have:=HLI.out.g.ab;have:=HAB.out;omega
          obtain⟨ba,ca,hg1,hca,hg0,hgf,hgw⟩:=HLI.out.ints.word (i:=2) (n:=A) rfl hA0 HAB.out
          obtain⟨bb,cb,hn1,hcb,hn0,hnf,hnw⟩:=HLI.out.ints.word (i:=3) (n:=B) rfl hB0 hBB
          have HBB:=Lz (And.intro hB0 (And.intro hA0 hBB))
          have hcb1:(1:Int)<=(cb:Int):=by omega
          have hca1:(1:Int)<=(ca:Int):=by omega
          clear hnw hgw hgf hnf hB0 hA0 hBB
          go_wp2_with fail
          go_quiet (fail)
          go_wp2_with fail
          go_loopw [23,24,25,26,27,28,29] (λs1 s2 s3 s4 s5 s6 s7 wr=>∃ (a b ua ub va vb:Nat) (e:Bool) (d:Nat),s1=.int .u64 a/\s2=.int .u64 b/\s3=.int .u64 ua/\s4=.int .u64 ub/\s5=.int .u64 va/\s6=.int .u64 vb/\s7=.bool e/\wr=wc.drewN d ∧
           RowKit.Hid (WI g n A B U V a b ua ub va vb e/\ua<B64/\va<B64)) (λ_ s2 _ _ _ _ _ _=>(intOf s2).toNat)
          case atStart=>exact⟨A,B,1,0,0,1,true,_,rfl,rfl,rfl,rfl,rfl,rfl,rfl,rfl,⟨WI.start HLI.out.g,by decide,by decide⟩⟩
          case round=>
           obtain⟨a,b,ua,ub,va,vb,e,d,rfl,rfl,rfl,rfl,rfl,rfl,rfl,rfl,HW⟩:=hrel
           by_cases hb0:b=0
           . subst hb0
             go_wp2_with fail
             obtain⟨hW,hua,hva⟩:=HW.out
             have hgg:=hW.g
             have ha1:(a:Int)=1:=by
              have:=hgg.fin_gcd
              rw[HC.out] at this
              exact this
             obtain⟨U1,hU1⟩:∃ U1,U1=(if e then(ua:Int)*U-va*V else va*V-ua*U):=⟨_,rfl⟩
             rw[<-hU1] at hgg
             obtain⟨hdvd,hlt⟩:=hgg.fin (by have:=hN1.out;omega) ha1
             obtain rfl:a=1:=by omega
             have HDV:=Lz (And.intro hdvd hlt)
             have HU1:=Lz hU1
             obtain⟨-,-,sU,sV⟩:=HLI.out.size
             have SU:=Lz (sz_toR sU)
             have SV:=Lz (sz_toR sV)
             have HUA:=Lz (And.intro hua hva)
             have hO:=(HLI.out.ints.drew d).raw
             have C:=rawMulWO hO 0 0 (!e) ua rfl rfl HLI.out.nu (SU.out.le (by decide)) HUA.out.1
             have HCC:=Lz C
             clear C hdvd hlt hU1 hgg ha1 hW hua hva HW hO sU sV hg1 hn1 hg0 hn0 hca hcb hca1 hcb1
             refine HCC.out.mono ?_
             rintro en w4 ⟨rfl,h4⟩
             have C2:=rawMulWO h4 1 1 e va rfl rfl HLI.out.nv (SV.out.le (by decide)) HUA.out.2
             have HC2:=Lz C2
             clear C2 h4 HCC
             go_wp2_with fail
             refine HC2.out.mono ?_
             rintro en w5 ⟨rfl,h5⟩
             have C3:=rawAddO h5 0 0 1 rfl rfl rfl HLI.out.nu ((sz_mulw SU.out HUA.out.1).le (by decide)) ((sz_mulw SV.out HUA.out.2).le (by decide))
             rw[upd_val,<-HU1.out] at C3
             have HC3:=Lz C3
             clear C3 h5 HC2
             go_wp2_with fail
             refine HC3.out.mono ?_
             rintro en w6 ⟨rfl,h6⟩
             have h7:Own R w0 w6 ((pu,U1) :: (pa,(A:Int)) :: (pb,(B:Int)) :: L):=OwnR.int (OwnR.drop2 h6)
             obtain⟨bn,cn,k1,k2,k3,k4,k5⟩:=h7.word (i:=1) (n:=A) rfl HBB.out.2.1 HAB.out
             have H8:=Lz (k5 HLI.out.na 1 (by decide) (by decide))
             have k2':(1:Int)<=(cn:Int):=by omega
             clear k5 h6 HC3 h7 k2
             go_wp2_with fail
             go_meet
             case rel=>exact⟨pa,pu,rfl,rfl,U1,Own.choose (A:=[(pu,U1),(pa,(1:Int)),(pb,(B:Int))]) (L:=L) H8.out [0,1] (by decide) (by simp),HDV.out⟩
           . have hb2:((b:Int)==0)=false:=by rw[beq_eq_false_iff_ne];omega
             have hb3:((b:Int) != 0)=true:=by rw[bne_iff_ne];omega
             have hb1:(1:Int)<=(b:Int):=by omega
             have ha0:(0:Int)<=(a:Int):=by omega
             have HBQ:=Lz hb0
             clear hb0
             go_wp2_with fail
             go_quiet (fail)
             go_wp2_with fail
             go_roundw
             case rel=>
              obtain⟨hW,hua,hva⟩:=HW.out
              have hN:=hW.next HBQ.out
              obtain⟨t1,t2⟩:=hN.bound
              obtain⟨t3,t4⟩:=hW.bound
              have hAl:=HAB.out
              have hBl:=HBB.out.2.2
              exact⟨b,a%b,ub,ua+a/b*ub,vb,va+a/b*vb,!e,_,rfl,rfl,rfl,congrArg (Value.int .u64) (u64_step (Nat.lt_of_le_of_lt t2 hBl)),rfl,congrArg (Value.int .u64) (u64_step (Nat.lt_of_le_of_lt t1 hAl)),rfl,rfl,⟨hN,Nat.lt_of_le_of_lt t4 hBl,Nat.lt_of_le_of_lt t3 hAl⟩⟩
             case measure=>
              have:a%b<b:=Nat.mod_lt _ (by have:=HBQ.out;omega)
              have e2:(a:Int)%(b:Int)=((a%b:Nat):Int):=rfl
              rw[e2]
              simp[intOf]
              omega
    case rest=>
     obtain⟨pa,pu,rfl,rfl,HF⟩:=hcut
     obtain⟨U,hF,hdvd,hlt⟩:=HF.out
     have HX:=Lz hF
     have HDV:=Lz (And.intro hdvd hlt)
     have HUS:=Lz ((sz_of_lt (n:=4) (a:=U) (by have:=HN.out;omega)).le (by decide:64*4<=640000))
     obtain⟨z1,z2,-⟩:=hF.cells (i:=j+2) HHJ.out
     clear hF hdvd hlt HF z2
     have zd0:decide ((g:Int)<0)=false:=by simp
     rw[zd0] at z1
     go_wp2_with fail
     refine(setO HX.out (m+2) 0 HHM.out rfl HHR2.out HUS.out).mono ?_
     rintro en w8 ⟨rfl,h8⟩
     have H9:=Lz (show Own R w0 w8 ((pu,U) :: (pa,(1:Int)) :: L.set m (zx,U)) from h8)
     clear h8 z1 zd0
     go_wp2_with fail
     have hi':(L.set m (zx,U))[i]? = some (zd,v):=by rw[List.getElem?_set_ne (Ne.symm HIM.out)];exact HHI.out
     refine(setO H9.out (i+2) 1 hi' rfl HHR.out (sz_word (by decide))).mono ?_
     rintro en w9 ⟨rfl,h9⟩
     have HF:=Lz (show Own R w0 w9 ((pu,U) :: (pa,(1:Int)) :: (L.set m (zx,U)).set i (zd,1)) from h9)
     clear h9 hi'
     go_wp2_with fail
     go_ret
     exact⟨U,rfl,HF.out.tail.tail,HDV.out⟩
end
end Go.Proofs.YtohhkjamddojmaaGreatDoor.Big

set_option maxRecDepth 100000
set_option maxHeartbeats 16000000
namespace Go.Proofs.YtohhkjamddojmaaGreatDoor.Big
open Go.RowKit
attribute [local go_sem] ptr
section
variable {R : Nat → Prop} {w0 w : World} {L : List (Nat × Int)}
theorem gcdO (h:Own R w0 w L) (i m j k:Nat) {zd zx zg zn:Nat} {v u:Int} (g n:Nat) (hi:L[i]? = some (zd,v)) (hm:L[m]? = some (zx,u)) (hj:L[j]? = some (zg,(g:Int))) (hk:L[k]? = some (zn,(n:Int)))
 (him:i≠m) (hR:¬R zd) (hR2:¬R zx) (hg:0<g) (hgn:g<n) (hn:n<B64^4) (hc:Int.gcd g n=1) :
 Calls Tryz.prog 152 #[ptr zd,ptr zx,.pointer .none,ptr zg,ptr zn] w (λe w'=>∃ U:Int,e=.returned (ptr zd)/\Own R w0 w' ((L.set m (zx,U)).set i (zd,1))/\(n:Int)∣U*g-1/\(U.natAbs:Int)<n):=by
 obtain⟨-,-,pg,cg,k1⟩:=h.cells hj
 obtain⟨-,-,pn,cn,k2⟩:=h.cells hk
 obtain⟨lg,hlg⟩:∃ l,l=(dg g).length:=⟨_,rfl⟩
 obtain⟨ln,hln⟩:∃ l,l=(dg n).length:=⟨_,rfl⟩
 rw[Int.natAbs_natCast,<-hlg] at k1
 rw[Int.natAbs_natCast,<-hln] at k2
 have b1:((lg:Int)==0)=false:=by rw[beq_eq_false_iff_ne];have:=zyw (show g≠0 by omega);omega
 have b2:((ln:Int)==0)=false:=by rw[beq_eq_false_iff_ne];have:=zyw (show n≠0 by omega);omega
 have c1:¬lg=0:=by have:=zyw (show g≠0 by omega);omega
 have c2:¬ln=0:=by have:=zyw (show n≠0 by omega);omega
 have HC:=Lz (lehmerO h i m j k g n hi hm hj hk him hR hR2 hg hgn hn hc)
 clear h hi hm hj hk him hR hR2 hg hgn hn hc hlg hln
 unfold ptr at *
 go_enter Tryz.func152,Tryz.ntmps152
 go_wp2_with fail
 refine HC.out.mono ?_
 rintro e w1 ⟨U,rfl,h1⟩
 have H1:=Lz h1
 clear h1 k1 k2
 go_wp2_with fail
 go_ret
 exact⟨U,rfl,H1.out⟩
theorem modInverseO (h:Own R w0 w L) (i j k:Nat) {z zg zn:Nat} {v:Int} (g n:Nat) (hi:L[i]? = some (z,v)) (hj:L[j]? = some (zg,(g:Int))) (hk:L[k]? = some (zn,(n:Int)))
 (hR:¬R z) (hg:0<g) (hgn:g<n) (hn:n<B64^4) (hc:Int.gcd g n=1) :
 Calls Tryz.prog 122 #[ptr z,ptr zg,ptr zn] w (λe w'=>∃ t:Nat,e=.returned (ptr z)/\Own R w0 w' (L.set i (z,(t:Int)))/\t<n/\(n:Int)∣t*g-1):=by
 obtain⟨n0,-,-⟩:=h.cells hk
 obtain⟨g0,-,-⟩:=h.cells hj
 have zn0:decide ((n:Int)<0)=false:=by simp
 have zg0:decide ((g:Int)<0)=false:=by simp
 rw[zn0] at n0
 rw[zg0] at g0
 obtain⟨h2,r2,r1⟩:=h.new2
 have HG:=Lz (gcdO h2 1 0 (j+2) (k+2) g n rfl rfl hj hk (by decide) r1 r2 hg hgn hn hc)
 have HHI:=Lz hi
 have HHK:=Lz hk
 have HHR:=Lz hR
 have HN:=Lz hn
 clear h hi hj hk hR hg hgn hn hc h2 r2 r1 zn0 zg0
 unfold ptr at *
 go_enter Tryz.func122,Tryz.ntmps122
 go_wp2_with fail
 refine HG.out.mono ?_
 rintro e w1 ⟨U,rfl,h1,hU⟩
 have H1:=Lz (show Own R w0 w1 ((w.heap.size+1,U) :: (w.heap.size,(1:Int)) :: L) from h1)
 have HU:=Lz hU
 clear h1 hU n0 g0 HG
 generalize w.heap.size=pd at *
 go_wp2_with fail
 refine(intOneO H1.out).mono ?_
 rintro e w2 ⟨po,rfl,h2,-⟩
 have hc:=cmpO h2 2 0 (x:=pd) (y:=po) rfl rfl (sz_word (by decide))
 have e1:cmpI 1 1=0:=rfl
 rw[e1] at hc
 have HC:=Lz hc
 have H2:=Lz h2
 obtain⟨x0,-,-⟩:=h2.cells (i:=1) (z:=pd+1) rfl
 clear hc e1 h2
 go_wp2_with fail
 refine HC.out.mono ?_
 rintro e w3 ⟨rfl,nq,rfl⟩
 have H3:=Lz (H2.out.drew nq)
 have hsz:Sz 630000 U:=by
  have:=HU.out.2
  have hn:=HN.out
  exact(sz_of_lt (n:=4) (a:=U) (by omega)).le (by decide)
 have hszn:Sz 630000 (n:Int):=by
  have hn:=HN.out
  exact(sz_of_lt (n:=4) (a:=(n:Int)) (by omega)).le (by decide)
 have SU:=Lz (hsz.le (by decide:630000<=640000))
 have SN:=Lz (hszn.le (by decide:630000<=640000))
 obtain⟨t,ht,hd,t0,t1⟩:=GcdLaw.inv_range HU.out
 have HD:=Lz hd
 have HT0:=Lz t0
 have HT1:=Lz t1
 clear hsz hszn hd t0 t1
 by_cases hneg:U<0
 . have hd:decide (U<0)=true:=by simp[hneg]
   rw[hd] at x0
   rw[if_pos hneg] at ht
   have HT:=Lz ht
   clear hneg hd ht
   go_wp2_with fail
   refine(addO H3.out (i+3) 1 (k+3) HHI.out rfl HHK.out HHR.out SU.out SN.out).mono ?_
   rintro e w4 ⟨rfl,h4⟩
   have h5:Own R w0 w4 (L.set i (z,U+n)):=Own.tail (Own.tail (Own.tail h4))
   rw[<-HT.out] at h5
   have H5:=Lz h5
   clear h4 h5
   go_wp2_with fail
   go_ret
   have:=HT0.out
   have:=HT1.out
   have e:t=(t.toNat:Int):=by omega
   exact⟨t.toNat,rfl,by rw[<-e];exact H5.out,by omega,by rw[<-e];exact HD.out⟩
 . have hd:decide (U<0)=false:=by simp[hneg]
   rw[hd] at x0
   rw[if_neg hneg] at ht
   have HT:=Lz ht
   clear hneg hd ht
   go_wp2_with fail
   refine(setO H3.out (i+3) 1 HHI.out rfl HHR.out SU.out).mono ?_
   rintro e w4 ⟨rfl,h4⟩
   have h5:Own R w0 w4 (L.set i (z,U)):=Own.tail (Own.tail (Own.tail h4))
   rw[<-HT.out] at h5
   have H5:=Lz h5
   clear h4 h5
   go_wp2_with fail
   go_ret
   have:=HT0.out
   have:=HT1.out
   have e:t=(t.toNat:Int):=by omega
   exact⟨t.toNat,rfl,by rw[<-e];exact H5.out,by omega,by rw[<-e];exact HD.out⟩
end
end Go.Proofs.YtohhkjamddojmaaGreatDoor.Big

set_option maxRecDepth 100000
set_option maxHeartbeats 16000000
namespace Go.Proofs.YtohhkjamddojmaaGreatDoor.Big
open Go.RowKit
attribute [local go_sem] ptr
attribute [local irreducible] Sz
section
variable {R : Nat → Prop} {w0 w w' : World} {L L' : List (Nat × Int)}
def AffB (p X Y Z U V:Int):Prop:=(0<=U/\U<p)/\(0<=V/\V<p)/\∃ t:Int,p∣t*Z-1/\U=X*(t*t)%p/\V=Y*(t*t*t)%p
def DuoB (R:Nat->Prop) (w0:World) (L:List (Nat×Int)) (Q:Int->Int->Prop) (e:Ending) (w':World):Prop:=
 ∃ x3 y3 X3 Y3,e=.returned (.tuple #[ptr x3,ptr y3])/\Own R w0 w' ((y3,Y3) :: (x3,X3) :: L)/\¬R x3/\¬R y3/\Q X3 Y3
theorem bitAffine (h:Own R w0 w L) (c x y z P ix iy iz iP:Nat) (X Y:Int) (Z p:Nat) (hcP:w.cell? ⟨c,1,.none⟩=some (ptr P)) (hRc:R c) (hx:L[ix]? = some (x,X)) (hy:L[iy]? = some (y,Y)) (hz:L[iz]? = some (z,(Z:Int))) (hP:L[iP]? = some (P,(p:Int))) (sX:Sz 260 X) (sY:Sz 260 Y) (pB:p<B64^4) (hZ:0<Z) (hZp:Z<p) (hgc:Int.gcd Z p=1) :
 Calls Tryz.prog 107 #[ptr c,ptr x,ptr y,ptr z] w (DuoB R w0 L (AffB p X Y Z)):=by
 have HSS:=Lz h
 have O0:=Lz h.since
 have HX:=Lz hx
 have HY:=Lz hy
 have HZ:=Lz hz
 have HP:=Lz hP
 have SX:=Lz sX
 have SY:=Lz sY
 have SZ:=Lz (show Sz 256 (Z:Int) from sz_of_lt (n:=4) (by omega))
 have SP:=Lz (show Sz 256 (p:Int) from sz_of_lt (n:=4) (by omega))
 have HD:=Lz (show DivOK ((p:Int)).natAbs from by rw[Int.natAbs_natCast];exact DivOK.four (by omega) pB)
 have HP0:=Lz (show(p:Int)≠0 by omega)
 have HZ0:=Lz hZ
 have HZP:=Lz hZp
 have PB:=Lz pB
 have HGC:=Lz hgc
 have HCMP:=Lz (show cmpI (Z:Int) ((0:Nat):Int)=1 from by unfold cmpI;rw[if_neg (by omega),if_pos (by omega)])
 have K0:=Lz (λ(w':World) (k:Kept R w w')=>(k.cell hRc hcP:w'.cell? ⟨c,1,.none⟩=some (ptr P)))
 have cP:=hcP
 clear h hx hy hz hP sX sY pB hRc hcP hZ hZp hgc
 unfold ptr at *
 go_enter Tryz.func107,Tryz.ntmps107
 go_wp2_with fail
 refine(newIntO O0.out 0 (by decide)).mono ?_
 rintro en wA ⟨zz,rfl,hq,hRn⟩
 have OA:=Lz (show Own R w wA ((zz,((0:Nat):Int)) :: L) from hq)
 have hc:=cmpO OA.out (iz+1) 0 HZ.out rfl (SZ.out.le (by decide))
 rw[HCMP.out] at hc
 have HC:=Lz hc
 clear hq hRn hc
 clear cP
 have cP:=K0.out wA OA.out.kept
 go_wp2_with fail
 refine HC.out.mono ?_
 rintro e wB ⟨rfl,nq,hwB⟩
 have O1:=Lz (show Own R w wB ((zz,((0:Nat):Int)) :: L) from by rw[hwB];exact OA.out.drew nq)
 clear hwB cP HC
 have cP:=K0.out wB O1.out.kept
 have lc:c<wB.heap.size:=World.block_lt_of_cell? wB ⟨c,1,.none⟩ cP
 obtain⟨hN,hR⟩:=O1.out.new
 have HN1:=Lz hN
 have NRzi:=Lz hR
 clear hN hR
 go_wp2_with fail
 refine(modInverseO HN1.out 0 (iz+2) (iP+2) Z p rfl HZ.out HP.out NRzi.out HZ0.out HZP.out PB.out HGC.out).mono ?_
 rintro en w2 ⟨t,rfl,hq,ht,htd⟩
 have O2:=Lz (show Own R w w2 ((wB.heap.size,(t:Int)) :: (zz,((0:Nat):Int)) :: L) from hq)
 have ST:=Lz (show Sz 256 (t:Int) from sz_of_lt (n:=4) (by have:=PB.out;omega))
 have HT:=Lz htd
 clear hq ht htd
 clear cP
 have cP:=K0.out w2 O2.out.kept
 obtain⟨hN,hR⟩:=O2.out.new
 have HN2:=Lz hN
 have NRq:=Lz hR
 clear hN hR
 go_wp2_with fail
 refine(mulO HN2.out 0 1 1 rfl rfl rfl NRq.out (ST.out.le (by decide:256<=704)) (ST.out.le (by decide:256<=2496))).mono ?_
 rintro en w3 ⟨rfl,hq⟩
 obtain⟨v1,hv⟩:∃ v1:Int,v1=(t:Int)*(t:Int):=⟨_,rfl⟩
 have O3:=Lz (show Own R w w3 ((w2.heap.size,v1) :: (wB.heap.size,(t:Int)) :: (zz,((0:Nat):Int)) :: L) from by rw[hv];exact hq)
 have S1:=Lz (show Sz 512 v1 from by rw[hv];exact ST.out.mul ST.out)
 have E1:=Lz hv
 clear hq hv
 clear cP
 have cP:=K0.out w3 O3.out.kept
 obtain⟨hN,hR⟩:=O3.out.new
 have HN3:=Lz hN
 have NRxo:=Lz hR
 clear hN hR
 go_wp2_with fail
 refine(mulO HN3.out 0 (ix+4) 1 rfl HX.out rfl NRxo.out (SX.out.le (by decide:260<=704)) (S1.out.le (by decide:512<=2496))).mono ?_
 rintro en w4 ⟨rfl,hq⟩
 obtain⟨v2,hv⟩:∃ v2:Int,v2=X*v1:=⟨_,rfl⟩
 have O4:=Lz (show Own R w w4 ((w3.heap.size,v2) :: (w2.heap.size,v1) :: (wB.heap.size,(t:Int)) :: (zz,((0:Nat):Int)) :: L) from by rw[hv];exact hq)
 have S2:=Lz (show Sz 772 v2 from by rw[hv];exact SX.out.mul S1.out)
 have E2:=Lz hv
 clear hq hv
 clear cP
 have cP:=K0.out w4 O4.out.kept
 go_wp2_with fail
 refine(modO O4.out 0 0 (iP+4) rfl rfl HP.out (by omega) NRxo.out (S2.out.le (by decide:772<=630000)) (SP.out.le (by decide:256<=630000)) HD.out HP0.out).mono ?_
 rintro en w5 ⟨rfl,hq⟩
 obtain⟨v3,hv⟩:∃ v3:Int,v3=v2%(p:Int):=⟨_,rfl⟩
 have O5:=Lz (show Own R w w5 ((w3.heap.size,v3) :: (w2.heap.size,v1) :: (wB.heap.size,(t:Int)) :: (zz,((0:Nat):Int)) :: L) from by rw[hv];exact hq)
 have S3:=Lz (show Sz 256 v3 from by rw[hv];exact Sz.emod _ HP0.out SP.out)
 have E3:=Lz hv
 clear hq hv
 clear cP
 have cP:=K0.out w5 O5.out.kept
 go_wp2_with fail
 refine(mulO O5.out 1 1 2 rfl rfl rfl NRq.out (S1.out.le (by decide:512<=704)) (ST.out.le (by decide:256<=2496))).mono ?_
 rintro en w6 ⟨rfl,hq⟩
 obtain⟨v4,hv⟩:∃ v4:Int,v4=v1*(t:Int):=⟨_,rfl⟩
 have O6:=Lz (show Own R w w6 ((w3.heap.size,v3) :: (w2.heap.size,v4) :: (wB.heap.size,(t:Int)) :: (zz,((0:Nat):Int)) :: L) from by rw[hv];exact hq)
 have S4:=Lz (show Sz 768 v4 from by rw[hv];exact S1.out.mul ST.out)
 have E4:=Lz hv
 clear hq hv
 clear cP
 have cP:=K0.out w6 O6.out.kept
 obtain⟨hN,hR⟩:=O6.out.new
 have HN6:=Lz hN
 have NRyo:=Lz hR
 clear hN hR
 go_wp2_with fail
 refine(mulO HN6.out 0 (iy+5) 2 rfl HY.out rfl NRyo.out (SY.out.le (by decide:260<=704)) (S4.out.le (by decide:768<=2496))).mono ?_
 rintro en w7 ⟨rfl,hq⟩
 obtain⟨v5,hv⟩:∃ v5:Int,v5=Y*v4:=⟨_,rfl⟩
 have O7:=Lz (show Own R w w7 ((w6.heap.size,v5) :: (w3.heap.size,v3) :: (w2.heap.size,v4) :: (wB.heap.size,(t:Int)) :: (zz,((0:Nat):Int)) :: L) from by rw[hv];exact hq)
 have S5:=Lz (show Sz 1028 v5 from by rw[hv];exact SY.out.mul S4.out)
 have E5:=Lz hv
 clear hq hv
 clear cP
 have cP:=K0.out w7 O7.out.kept
 go_wp2_with fail
 refine(modO O7.out 0 0 (iP+5) rfl rfl HP.out (by omega) NRyo.out (S5.out.le (by decide:1028<=630000)) (SP.out.le (by decide:256<=630000)) HD.out HP0.out).mono ?_
 rintro en w8 ⟨rfl,hq⟩
 obtain⟨v6,hv⟩:∃ v6:Int,v6=v5%(p:Int):=⟨_,rfl⟩
 have O8:=Lz (show Own R w w8 ((w6.heap.size,v6) :: (w3.heap.size,v3) :: (w2.heap.size,v4) :: (wB.heap.size,(t:Int)) :: (zz,((0:Nat):Int)) :: L) from by rw[hv];exact hq)
 have S6:=Lz (show Sz 256 v6 from by rw[hv];exact Sz.emod _ HP0.out SP.out)
 have E6:=Lz hv
 clear hq hv
 clear cP
 have cP:=K0.out w8 O8.out.kept
 go_wp2_with fail
 have hO:Own R w w8 (((w6.heap.size,v6):Nat×Int) :: (w3.heap.size,v3) :: L):=Own.choose (L:=L) (A:=[(w6.heap.size,v6),(w3.heap.size,v3),(w2.heap.size,v4),(wB.heap.size,(t:Int)),(zz,((0:Nat):Int))]) O8.out [0,1] (by decide) (by simp)
 have HO:=Lz hO
 clear hO
 have HU:=Lz (show v3=X*((t:Int)*t)%p by rw[E3.out,E2.out,E1.out])
 have HV:=Lz (show v6=Y*((t:Int)*t*t)%p by rw[E6.out,E5.out,E4.out,E1.out])
 go_ret2
 have hpz:(0:Int)<p:=by have:=HZ0.out;have:=HZP.out;omega
 exact⟨w3.heap.size,w6.heap.size,v3,v6,rfl,HSS.out.after HO.out,NRxo.out,NRyo.out,(by rw[HU.out];exact⟨Int.emod_nonneg _ (by omega),Int.emod_lt_of_pos _ hpz⟩),(by rw[HV.out];exact⟨Int.emod_nonneg _ (by omega),Int.emod_lt_of_pos _ hpz⟩),(t:Int),HT.out,HU.out,HV.out⟩
end
end Go.Proofs.YtohhkjamddojmaaGreatDoor.Big
