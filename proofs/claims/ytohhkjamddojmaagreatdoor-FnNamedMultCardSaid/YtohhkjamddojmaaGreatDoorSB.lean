/- Numbers of bytes, the highest first: setBytes, SetBytes. -/
import Derived.Test.YtohhkjamddojmaaGreatDoorIJ
import Derived.Test.YtohhkjamddojmaaGreatDoorKC
import Derived.Lib.EndianBits
set_option maxRecDepth 100000
set_option maxHeartbeats 16000000
namespace Go.Proofs.YtohhkjamddojmaaGreatDoor.Big
open Go.RowKit
attribute [local go_sem] ptr
theorem beU32 (g o n c b0 b1 b2 b3:Nat) (w:World) (hn:4<=n) (h0:b0<256) (h1:b1<256) (h2:b2<256) (h3:b3<256)
 (c0:w.cell? ⟨g,o,.none⟩=some (.int .u8 b0)) (c1:w.cell? ⟨g,o+1,.none⟩=some (.int .u8 b1)) (c2:w.cell? ⟨g,o+2,.none⟩=some (.int .u8 b2)) (c3:w.cell? ⟨g,o+3,.none⟩=some (.int .u8 b3)) :
 Calls Tryz.prog 190 #[.slice (some ⟨g,o,.none⟩) n c] w (λe w'=>e=.returned (.int .u32 (((b0*256+b1)*256+b2)*256+b3:Nat))/\∃ m,w'=w.drewN m):=by
 have q0:0<n:=by omega
 have q1:(1:Int)<(n:Int):=by omega
 have q2:(2:Int)<(n:Int):=by omega
 have q3:(3:Int)<(n:Int):=by omega
 have hv:((((b0*256+b1)*256+b2)*256+b3:Nat):Int)=(b3:Int)+(b2:Int)*256+(b1:Int)*65536+(b0:Int)*16777216:=by omega
 have HV:=Lz hv
 clear hv
 go_enter Tryz.func190,Tryz.ntmps190
 go_wp2_with fail
 go_quiet (fail)
 go_wp2_with fail
 go_ret
 refine⟨?_,_,rfl⟩
 rw[HV.out]
 simp(disch:=omega) only[u32_or8,u32_or16,u32_or24]
 rfl
theorem beU64 (g o n c b0 b1 b2 b3 b4 b5 b6 b7:Nat) (w:World) (hn:8<=n) (hc:n<=c) (h0:b0<256) (h1:b1<256) (h2:b2<256) (h3:b3<256) (h4:b4<256) (h5:b5<256) (h6:b6<256) (h7:b7<256)
 (c0:w.cell? ⟨g,o,.none⟩=some (.int .u8 b0)) (c1:w.cell? ⟨g,o+1,.none⟩=some (.int .u8 b1)) (c2:w.cell? ⟨g,o+2,.none⟩=some (.int .u8 b2)) (c3:w.cell? ⟨g,o+3,.none⟩=some (.int .u8 b3))
 (c4:w.cell? ⟨g,o+4,.none⟩=some (.int .u8 b4)) (c5:w.cell? ⟨g,o+5,.none⟩=some (.int .u8 b5)) (c6:w.cell? ⟨g,o+6,.none⟩=some (.int .u8 b6)) (c7:w.cell? ⟨g,o+7,.none⟩=some (.int .u8 b7)) :
 Calls Tryz.prog 189 #[.slice (some ⟨g,o,.none⟩) n c] w (λe w'=>e=.returned (.int .u64 (bev [b0,b1,b2,b3,b4,b5,b6,b7]))/\∃ m,w'=w.drewN m):=by
 have q0:0<n:=by omega
 have qc:¬c=4:=by omega
 have q4:(4:Int)<=(n:Int):=by omega
 have q7:(7:Int)<(n:Int):=by omega
 have HA:=Lz (λk=>(beU32 g o n c b0 b1 b2 b3 (w.drewN k) (by omega) h0 h1 h2 h3 c0 c1 c2 c3).mono (λe w' ⟨h,m,hw⟩=>(⟨h,k+m,by rw[hw,drewN_drewN]⟩:_/\∃ m,w'=w.drewN m)))
 have HB:=Lz (λc' k=>(beU32 g (o+4) (n-4) c' b4 b5 b6 b7 (w.drewN k) (by omega) h4 h5 h6 h7 c4 c5 c6 c7).mono (λe w' ⟨h,m,hw⟩=>(⟨h,k+m,by rw[hw,drewN_drewN]⟩:_/\∃ m,w'=w.drewN m)))
 obtain⟨A,hA⟩:∃ A,A=((b0*256+b1)*256+b2)*256+b3:=⟨_,rfl⟩
 obtain⟨B,hB⟩:∃ B,B=((b4*256+b5)*256+b6)*256+b7:=⟨_,rfl⟩
 rw[<-hA] at HA
 rw[<-hB] at HB
 have hAl:A<4294967296:=by omega
 have hBl:B<4294967296:=by omega
 have HV:=Lz (show bev [b0,b1,b2,b3,b4,b5,b6,b7]=B+A*4294967296 by rw[hA,hB];simp[bev];omega)
 clear hA hB h0 h1 h2 h3 h4 h5 h6 h7 c0 c1 c2 c3 c4 c5 c6
 go_enter Tryz.func189,Tryz.ntmps189
 go_wp2_with fail
 refine wp_region_quiet_lit (by kernel_rfl) (by kernel_rfl) ?_
 iterate 1 (quiet_step (fail))
 quiet_step ((go_at_call 190;exact HA.out _))
 iterate 4 (quiet_step (fail))
 quiet_step ((go_at_call 190;exact HB.out _ _))
 repeat (quiet_step (fail))
 refine wpQuiet_nil ?_
 intro _ hw'
 obtain⟨nq,hw''⟩:=hw'
 subst hw''
 go_wp2_with fail
 go_ret
 refine⟨?_,_,rfl⟩
 rw[HV.out]
 have hw:∀ n:Int,0<=n->n<2^64->IntKind.u64.wrap n=n:=λn h₀ h₁=>wraps_u64 n h₀ h₁
 have e1:IntKind.u64.wrap (A:Int)=A:=hw _ (by omega) (by omega)
 have e2:IntKind.u64.wrap (B:Int)=B:=hw _ (by omega) (by omega)
 have e3:IntKind.u64.wrap ((A:Int)*4294967296)=(A:Int)*4294967296:=hw _ (by omega) (by omega)
 have e4:=bits_join .u64 64 (by decide) hw 32 ((A:Int)*4294967296) B (by omega) (by omega) (by omega) (by omega) (by omega) (by omega)
 simp only[e1,e2,e3,e4]
 rw[show((B+A*4294967296:Nat):Int)=(A:Int)*4294967296+B by omega]
 rfl
theorem beWord (g o n c b0 b1 b2 b3 b4 b5 b6 b7:Nat) (w:World) (hn:8<=n) (hc:n<=c) (h0:b0<256) (h1:b1<256) (h2:b2<256) (h3:b3<256) (h4:b4<256) (h5:b5<256) (h6:b6<256) (h7:b7<256)
 (c0:w.cell? ⟨g,o,.none⟩=some (.int .u8 b0)) (c1:w.cell? ⟨g,o+1,.none⟩=some (.int .u8 b1)) (c2:w.cell? ⟨g,o+2,.none⟩=some (.int .u8 b2)) (c3:w.cell? ⟨g,o+3,.none⟩=some (.int .u8 b3))
 (c4:w.cell? ⟨g,o+4,.none⟩=some (.int .u8 b4)) (c5:w.cell? ⟨g,o+5,.none⟩=some (.int .u8 b5)) (c6:w.cell? ⟨g,o+6,.none⟩=some (.int .u8 b6)) (c7:w.cell? ⟨g,o+7,.none⟩=some (.int .u8 b7)) :
 Calls Tryz.prog 170 #[.slice (some ⟨g,o,.none⟩) n c] w (λe w'=>e=.returned (.int .u64 (bev [b0,b1,b2,b3,b4,b5,b6,b7]))/\∃ m,w'=w.drewN m):=by
 have H:=Lz (beU64 g o n c b0 b1 b2 b3 b4 b5 b6 b7 w hn hc h0 h1 h2 h3 h4 h5 h6 h7 c0 c1 c2 c3 c4 c5 c6 c7)
 clear h0 h1 h2 h3 h4 h5 h6 h7 c0 c1 c2 c3 c4 c5 c6 c7
 generalize bev [b0,b1,b2,b3,b4,b5,b6,b7]=v at *
 go_enter Tryz.func170,Tryz.ntmps170
 go_wp2_with fail
 refine H.out.mono ?_
 rintro e w1 ⟨rfl,m,rfl⟩
 go_wp2_with fail
 go_ret
 exact⟨rfl,m,rfl⟩
theorem bev_take {ks:List Nat} {i:Nat} (h:i<ks.length):bev (ks.take (i+1))=bev (ks.take i)*256+ks.getD i 0:=by
 rw[List.take_add_one,List.getElem?_eq_getElem h,Option.toList_some,bev_snoc,List.getD_eq_getElem?_getD,List.getElem?_eq_getElem h];rfl
theorem bev_take8 {ks:List Nat} {j:Nat} (h:j+8<=ks.length):bev (ks.take (j+8))=bev (ks.take j)*B64+bev [ks.getD j 0,ks.getD (j+1) 0,ks.getD (j+2) 0,ks.getD (j+3) 0,ks.getD (j+4) 0,ks.getD (j+5) 0,ks.getD (j+6) 0,ks.getD (j+7) 0]:=by
 rw[bev_take (i:=j+7) (by omega),bev_take (i:=j+6) (by omega),bev_take (i:=j+5) (by omega),bev_take (i:=j+4) (by omega),bev_take (i:=j+3) (by omega),bev_take (i:=j+2) (by omega),bev_take (i:=j+1) (by omega),bev_take (i:=j) (by omega)]
 simp only[bev,List.foldl_cons,List.foldl_nil,B64]
 omega
theorem take_set_snoc {ds:List Nat} {k v:Nat} (h:k<ds.length):(ds.set k v).take (k+1)=ds.take k ++ [v]:=by
 rw[zwy _ _ (by rw[List.length_set];exact h),List.take_set_of_le (Nat.le_refl _)]
 congr 2
 simp[List.getD_eq_getElem?_getD,h]
theorem bev8_lt {b0 b1 b2 b3 b4 b5 b6 b7:Nat} (h0:b0<256) (h1:b1<256) (h2:b2<256) (h3:b3<256) (h4:b4<256) (h5:b5<256) (h6:b6<256) (h7:b7<256):bev [b0,b1,b2,b3,b4,b5,b6,b7]<B64:=by
 simp only[bev,List.foldl_cons,List.foldl_nil,B64]
 omega
theorem norm_num {ds:List Nat} {k:Nat} (h:k<=ds.length):ds.take (norm (ds.take k)).length=norm (ds.take k):=by
 have h1:=norm_take (ds.take k)
 rw[List.take_take,Nat.min_eq_left] at h1
 . exact h1
 . have:=norm_length (ds.take k)
   rw[List.length_take] at this
   omega
theorem norm_le {ds:List Nat} {k:Nat} (h:k<=ds.length):(norm (ds.take k)).length<=ds.length:=by
 have:=norm_length (ds.take k)
 rw[List.length_take] at this
 omega
theorem grown_fresh {w w1 w2:World} {p:Option Addr} {b:Nat} (h1:w.grownBy w1 .none) (h2:w1.grownBy w2 (some b)) (hf:Fresh w p (some ⟨b,0,.none⟩)):w.grownBy w2 (blk p):=
 grown_or (p':=some ⟨b,0,.none⟩) (zwz h1 _) h2 hf
theorem nat_setBytes (p:Option Addr) (l:Nat) (cs:List Nat) (w:World) (h:Buf w p cs) (kb ko kc:Nat) (ks:List Nat) (hk:∀ i,i<ks.length->w.cell? ⟨kb,ko+i,.none⟩=some (.int .u8 (ks.getD i 0:Nat))) (hks:∀ i,ks.getD i 0<256)
 (hn:ks.length<=700000) (hc:ks.length<=kc) (hne:∀ b,blk p=some b->b≠kb) :
 Calls Tryz.prog 145 #[.slice p l cs.length,.slice (some ⟨kb,ko,.none⟩) ks.length kc] w (NumP p (dg (bev ks)) w):=by
 obtain⟨n,hnl⟩:∃ n,n=ks.length:=⟨_,rfl⟩
 rw[<-hnl] at hk hn hc ⊢
 obtain⟨m,hm,hmd⟩:∃ m:Nat,((n:Int)+8-1)/8=m/\m=(n+7)/8:=⟨(n+7)/8,by omega,rfl⟩
 have HM:=Lz (nat_make p l m cs w h (by omega))
 have HK:=Lz hk
 have HKS:=Lz hks
 have HB:=Lz h
 have HNE:=Lz hne
 have HNL:=Lz hnl
 have HMD:=Lz hmd
 clear h hk hks hne hnl hmd
 go_enter Tryz.func145,Tryz.ntmps145
 go_wp2_with fail
 refine HM.out.mono ?_
 rintro e w1 ⟨p1,cs1,rfl,hb1,hm1,hg1,hor⟩
 have HF:=Lz (MakeP.or hor)
 have HG1:=Lz hg1
 clear hor hg1 HM
 by_cases hn0:n=0
 . subst hn0
   have hm0:m=0:=by have:=HMD.out;omega
   subst hm0
   have HN:=Lz (nat_norm p1 0 cs1 w1 hb1 (by omega))
   have HF2:=Lz (show NumP p (dg (bev ks)) w (.returned (.slice p1 (norm (cs1.take 0)).length cs1.length)) w1 by
    have e:ks = []:=List.length_eq_zero_iff.1 HNL.out.symm
    rw[e]
    show NumP p (dg 0) w _ w1
    rw[zyv]
    exact⟨p1,cs1,rfl,⟨hb1,rfl,Nat.zero_le _⟩,zwz HG1.out _,HF.out⟩)
   clear hb1
   go_wp2_with fail
   refine wp_loop_rounds 1 ?_
   rw[rounds_succ]
   go_wp2_with fail
   refine HN.out.mono ?_
   rintro e w2 ⟨rfl,hw⟩
   obtain rfl:w1=w2:=hw
   go_wp2_with fail
   go_ret
   exact HF2.out
 . have m1:1<=m:=by have:=HMD.out;omega
   obtain⟨b1,rfl,hN1⟩:=hb1.at (by omega)
   have HN1:=Lz hN1
   have HW1:=Lz hb1.2.1
   have hc1:=hb1.2.2
   have HKB:=Lz (show b1≠kb by
    intro e
    rcases HF.out with e2|e2
    . exact HNE.out b1 (by rw[<-e2];rfl) e
    . have h3:=e2 b1 rfl
      have h4:=World.block_lt_of_cell? _ _ (HK.out 0 (by omega))
      simp at h4
      omega)
   clear hN1 hb1 HB
   go_wp2_with fail
   go_loopw [5,6] (λsi sk wr=>∃ (i k:Nat) (ds:List Nat),si=.int .i64 i/\sk=.int .i64 k/\i+8*k=n/\ds.length=cs1.length/\RowKit.Hid (NatB wr b1 ds/\w1.grownBy wr (some b1)/\Words ds/\val (ds.take k)+B64^k*bev (ks.take i)=bev ks)) (λsi _ _=>(intOf si).toNat)
   case atStart=>exact⟨n,0,cs1,rfl,rfl,by omega,rfl,⟨HN1.out,zyz _ _,HW1.out,by rw[HNL.out];simp[val]⟩⟩
   case round=>
    obtain⟨i,k,ds,rfl,rfl,hik,hdl,HR⟩:=hrel
    by_cases h8:8<=i
    . obtain⟨j,rfl⟩:∃ j,i=j+8:=⟨i-8,by omega⟩
      have hkm:k<m:=by have:=HMD.out;omega
      have hj:j+8<=n:=by omega
      have hcell:∀ t,t<8->wr.cell? ⟨kb,ko+j+t,.none⟩=some (.int .u8 (ks.getD (j+t) 0:Nat)):=λt ht=>by
       have h1:=HK.out (j+t) (by omega)
       rw[<-Nat.add_assoc] at h1
       exact HR.out.2.1.cell (HG1.out.cell h1 (by simp)) (by intro e;exact HKB.out (Option.some.inj e).symm)
      have HBW:=Lz (beWord kb (ko+j) 8 (kc-j) _ _ _ _ _ _ _ _ wr (Nat.le_refl _) (by omega) (HKS.out _) (HKS.out _) (HKS.out _) (HKS.out _) (HKS.out _) (HKS.out _) (HKS.out _) (HKS.out _) (hcell 0 (by omega)) (hcell 1 (by omega)) (hcell 2 (by omega)) (hcell 3 (by omega)) (hcell 4 (by omega)) (hcell 5 (by omega)) (hcell 6 (by omega)) (hcell 7 (by omega)))
      obtain⟨v,hv⟩:∃ v,v=bev [ks.getD (j+0) 0,ks.getD (j+1) 0,ks.getD (j+2) 0,ks.getD (j+3) 0,ks.getD (j+4) 0,ks.getD (j+5) 0,ks.getD (j+6) 0,ks.getD (j+7) 0]:=⟨_,rfl⟩
      rw[<-hv] at HBW
      have HV:=Lz (show v<B64/\bev (ks.take (j+8))=bev (ks.take j)*B64+v by
       rw[hv]
       exact⟨bev8_lt (HKS.out _) (HKS.out _) (HKS.out _) (HKS.out _) (HKS.out _) (HKS.out _) (HKS.out _) (HKS.out _),bev_take8 (by rw[<-HNL.out];exact hj)⟩)
      clear hv hcell
      have hki:(k:Int)<m:=by omega
      have hkd:k<ds.length:=by omega
      have HS:=Lz (λ(q:Nat)=>(HR.out.1.drewN q).set k v)
      have hcz:=HR.out.1.cell k hkd
      have hfz:=HR.out.1.free k
      have HX:=Lz (show Words (ds.set k v)/\val ((ds.set k v).take (k+1))+B64^(k+1)*bev (ks.take j)=bev ks by
       obtain⟨-,-,r3,r4⟩:=HR.out
       refine⟨λx hx=>(List.mem_or_eq_of_mem_set hx).elim (r3 x) (λe=>e ▸ HV.out.1),?_⟩
       rw[take_set_snoc hkd,zyk,List.length_take,Nat.min_eq_left (Nat.le_of_lt hkd),Nat.pow_succ,<-r4,HV.out.2,Nat.mul_add,Nat.mul_comm (bev _) B64,<-Nat.mul_assoc,Nat.add_assoc,Nat.add_comm (B64^k*v)])
      go_wp2_with fail
      refine HBW.out.mono ?_
      rintro e w2 ⟨rfl,q,rfl⟩
      go_wp2_with fail
      go_roundw
      case rel=>exact⟨j,k+1,ds.set k v,rfl,by go_num,by omega,by rw[List.length_set];exact hdl,⟨HS.out q,zzx HR.out.2.1 (zzx (zzz _ _ _) (zzw _ _ _ _)),HX.out⟩⟩
      case measure=>simp[intOf];omega
    . have hi8:i<8:=by omega
      have hkd:m<=ds.length:=by omega
      by_cases h0:i=0
      . subst h0
        have hkm:k=m:=by have:=HMD.out;omega
        subst hkm
        have HN:=Lz (nat_norm (some ⟨b1,0,.none⟩) k ds wr ⟨.inr ⟨b1,rfl,HR.out.1⟩,HR.out.2.2.1,by omega⟩ hkd)
        have HF2:=Lz (show NumP p (dg (bev ks)) w (.returned (.slice (some ⟨b1,0,.none⟩) (norm (ds.take k)).length ds.length)) wr by
         obtain⟨r1,r2,r3,r4⟩:=HR.out
         rw[List.take_zero,show bev []=0 from rfl,Nat.mul_zero,Nat.add_zero] at r4
         rw[<-r4,<-norm_dg _ (r3.take k)]
         exact⟨some ⟨b1,0,.none⟩,ds,rfl,⟨⟨.inr ⟨b1,rfl,r1⟩,r3,by omega⟩,norm_num hkd,norm_le hkd⟩,grown_fresh HG1.out r2 HF.out,HF.out⟩)
        rw[hdl] at HN HF2
        go_wp2_with fail
        refine HN.out.mono ?_
        rintro e w2 ⟨rfl,hw⟩
        obtain rfl:wr=w2:=hw
        go_wp2_with fail
        go_ret
        exact HF2.out
      . have hi0:(0:Int)<(i:Int):=by omega
        have hkm:m=k+1:=by have:=HMD.out;omega
        go_wp2_with fail
        go_loop [5,7,8] (λsi sd ss=>∃ (a d s:Nat),si=.int .i64 a/\sd=.int .u64 d/\ss=.int .u64 s/\s+8*a=8*i/\RowKit.Hid (d<2^s/\d+2^s*bev (ks.take a)=bev (ks.take i))) (λsi _ _=>(intOf si).toNat)
        case atStart=>exact⟨i,0,0,rfl,rfl,rfl,by omega,⟨by decide,by omega⟩⟩
        case round=>
         obtain⟨a,d,s,rfl,rfl,rfl,hs,HQ⟩:=hrel
         by_cases ha:0<a
         . obtain⟨c,rfl⟩:∃ c,a=c+1:=⟨a-1,by omega⟩
           have hcell:wr.cell? ⟨kb,ko+c,.none⟩=some (.int .u8 (ks.getD c 0:Nat)):=HR.out.2.1.cell (HG1.out.cell (HK.out c (by omega)) (by simp)) (by intro e;exact HKB.out (Option.some.inj e).symm)
           obtain⟨b,hb⟩:∃ b,b=ks.getD c 0:=⟨_,rfl⟩
           rw[<-hb] at hcell
           have hb8:b<256:=by rw[hb];exact HKS.out c
           have HBE:=Lz hb
           clear hb
           have s48:s<=48:=by omega
           obtain⟨t,ht⟩:∃ t,t=b*2^s:=⟨_,rfl⟩
           have hp48:2^s<=2^48:=Nat.pow_le_pow_right (by decide) s48
           have htl:t<2^56:=by
            rw[ht]
            have:=Nat.mul_le_mul (show b<=255 by omega) hp48
            omega
           have hw:∀ n:Int,0<=n->n<2^64->IntKind.u64.wrap n=n:=λn h₀ h₁=>wraps_u64 n h₀ h₁
           have hti:(t:Int)=(b:Int)*2^s:=by rw[ht];push_cast;rfl
           have hsh:IntKind.u64.wrap ((b:Int)*2^s)=(t:Int):=by rw[<-hti];exact hw _ (by omega) (by omega)
           have hdl2:d<2^s:=HQ.out.1
           have hor:bits .or .u64 (d:Int) (t:Int)=((d+t:Nat):Int):=by
            rw[bits_join_low .u64 64 (by decide) hw s d t (by omega) (by exact_mod_cast hdl2) (by omega) (by omega) (by rw[hti];exact Int.mul_emod_left _ _) (by omega)]
            rfl
           have HX:=Lz (show d+t<2^(s+8)/\d+t+2^(s+8)*bev (ks.take c)=bev (ks.take i) by
            obtain⟨q1,q2⟩:=HQ.out
            rw[bev_take (by rw[<-HNL.out];omega),<-HBE.out] at q2
            rw[ht,Nat.pow_add]
            constructor
            . have:=Nat.mul_le_mul_right (2^s) (show b+1<=256 by omega)
              rw[Nat.add_mul,Nat.one_mul] at this
              rw[show(2:Nat)^8=256 from rfl,Nat.mul_comm _ 256]
              omega
            . rw[Nat.mul_add,Nat.mul_comm (bev _) 256,<-Nat.mul_assoc] at q2
              rw[show(2:Nat)^8=256 from rfl,Nat.mul_comm b]
              omega)
           clear hti ht htl hp48 hw hdl2
           go_wp2_with fail
           go_round
           case rel=>exact⟨c,d+t,s+8,rfl,rfl,by go_num,by omega,HX.out⟩
           case measure=>simp[intOf]
         . obtain rfl:a=0:=by omega
           have hs8:s=8*i:=by omega
           subst hs8
           have hdb:d<B64:=by
            have:=HQ.out.1
            have:(2:Nat)^(8*i)<=2^64:=Nat.pow_le_pow_right (by decide) (by omega)
            have e:B64=2^64:=by decide
            omega
           have hkd2:k<ds.length:=by omega
           have hcz:=HR.out.1.cell k hkd2
           have hfz:=HR.out.1.free k
           have hmk:(m:Int)-1=(k:Int):=by omega
           have hNs:=Lz (HR.out.1.set k d)
           have hWs:Words (ds.set k d):=λx hx=>(List.mem_or_eq_of_mem_set hx).elim (HR.out.2.2.1 x) (λe=>e ▸ hdb)
           have HN:=Lz (nat_norm (some ⟨b1,0,.none⟩) m (ds.set k d) _ ⟨.inr ⟨b1,rfl,hNs.out⟩,hWs,by rw[List.length_set];omega⟩ (by rw[List.length_set];exact hkd))
           have HF2:=Lz (show NumP p (dg (bev ks)) w (.returned (.slice (some ⟨b1,0,.none⟩) (norm ((ds.set k d).take m)).length (ds.set k d).length)) (wr.setCell ⟨b1,k,.none⟩ (wd d)) by
            obtain⟨r1,r2,r3,r4⟩:=HR.out
            obtain⟨q1,q2⟩:=HQ.out
            rw[List.take_zero,show bev []=0 from rfl,Nat.mul_zero,Nat.add_zero] at q2
            have hv:val ((ds.set k d).take m)=bev ks:=by
             rw[hkm,take_set_snoc hkd2,zyk,List.length_take,Nat.min_eq_left (Nat.le_of_lt hkd2),q2]
             exact r4
            rw[<-hv,<-norm_dg _ (hWs.take m)]
            have hl:m<=(ds.set k d).length:=by rw[List.length_set];exact hkd
            exact⟨some ⟨b1,0,.none⟩,_,rfl,⟨⟨.inr ⟨b1,rfl,hNs.out⟩,hWs,by rw[List.length_set];omega⟩,norm_num hl,norm_le hl⟩,grown_fresh HG1.out (zzx r2 (zzw _ _ _ _)) HF.out,HF.out⟩)
           rw[List.length_set,hdl] at HN HF2
           clear hWs hkm
           go_wp2_with fail
           refine HN.out.mono ?_
           rintro e w2 ⟨rfl,rfl⟩
           go_wp2_with fail
           go_ret
           exact HF2.out
theorem Int_SetBytes {R:Nat->Prop} {w:World} {zs:List Nat} {vs:List Int} (h:Ints R w zs vs) (i z kb ko kc:Nat) (ks:List Nat) (hi:zs[i]? = some z) (hR:¬R z) (hRk:R kb)
 (hk:∀ i,i<ks.length->w.cell? ⟨kb,ko+i,.none⟩=some (.int .u8 (ks.getD i 0:Nat))) (hks:∀ i,ks.getD i 0<256) (hn:ks.length<=700000) (hc:ks.length<=kc) :
 Calls Tryz.prog 108 #[ptr z,.slice (some ⟨kb,ko,.none⟩) ks.length kc] w (IntP R zs (vs.set i (bev ks:Int)) z w):=by
 obtain⟨ps,qs,h⟩:=h
 obtain⟨v,p,q,hv,hp,hq,oz⟩:=h.at hi
 have hpz:blk p≠some z:=h.zp i i z p hi hp
 have HOP:=Lz (nat_setBytes p (dg v.natAbs).length q w oz.num.buf kb ko kc ks hk hks hn hc (λb hb e=>h.own i z p hi hp hR b hb (e ▸ hRk)))
 have hz1:=oz.str.cell1
 have HF:=Lz h
 have HSZ:=Lz oz.str
 have HPZ:=Lz hpz
 have HHI:=Lz hi
 have HHP:=Lz hp
 have HHR:=Lz hR
 obtain⟨n,hnn⟩:∃ n,n=bev ks:=⟨_,rfl⟩
 rw[<-hnn] at HOP ⊢
 have HNA:=Lz (show false=decide ((n:Int)<0) by simp)
 clear h hi hR hv hp hq oz hpz hn hc hk hks hRk hnn
 unfold ptr
 go_enter Tryz.func108,Tryz.ntmps108
 go_upto_region 1 with fail
 go_cut [] from 5 (λwx=>zxy w z p (decide (v<0)) n wx)
 case first=>
  go_wp2_with fail
  refine HOP.out.mono ?_
  rintro e w1 ⟨p',q',rfl,hn,hg,hf⟩
  have hsz:=HSZ.out.grow (Grow.of hg) HPZ.out
  have hc1:=hsz.cell1
  have hf1:=hsz.free 1
  have HN:=Lz hn
  have HG:=Lz hg
  have HFr:=Lz hf
  clear hn hg hf hsz
  go_wp2_with fail
  go_meet
  case rel=>exact zxy.of HSZ.out HPZ.out (zyz _ _) HN.out HG.out HFr.out
 case rest=>
  have HA:=Lz hcut
  obtain⟨p',q',h1,h2,h3,h4,h5⟩:=hcut
  have hc0:=h1.cell0
  have hf0:=h1.free 0
  clear h1 h2 h3 h4 h5 hz1
  go_wp2_with fail
  go_ret
  exact⟨rfl,HA.out.finish HF.out HHI.out HHP.out HHR.out (by simp) HNA.out⟩
section
variable {R : Nat → Prop} {w0 w w' : World} {L L' : List (Nat × Int)}
theorem setBytesO (h:Own R w0 w L) (i:Nat) {z:Nat} {v:Int} (kb ko kc:Nat) (ks:List Nat) (hi:L[i]? = some (z,v)) (hR:¬R z) (hRk:R kb)
 (hk:∀ i,i<ks.length->w.cell? ⟨kb,ko+i,.none⟩=some (.int .u8 (ks.getD i 0:Nat))) (hks:∀ i,ks.getD i 0<256) (hn:ks.length<=700000) (hc:ks.length<=kc) :
 Calls Tryz.prog 108 #[ptr z,.slice (some ⟨kb,ko,.none⟩) ks.length kc] w (OpP R w0 z (L.set i (z,(bev ks:Int)))):=
 (Int_SetBytes h.ints i z kb ko kc ks (at1 hi) hR hRk hk hks hn hc).mono λ_ _ hp=>OpP.of h hi hp
end
end Go.Proofs.YtohhkjamddojmaaGreatDoor.Big
