/- 'bitsDiv64', 'bitsDiv'. 'reciprocalWord', 'divWW'. 'divWW'. -/
import Derived.Test.YtohhkjamddojmaaGreatDoorBigQ
import Derived.Deep.CutBlock
set_option maxRecDepth 100000
set_option maxHeartbeats 16000000
namespace Go.Proofs.YtohhkjamddojmaaGreatDoor.Big
open Go.RowKit
theorem DW.done {hi lo y s Y U L Y1 Y0 d1 d0 q1 r1 q0 r0:Nat} (h:DW hi lo y s Y U L Y1 Y0 d1 d0) (h1:q1*Y+r1=U*H32+d1) (h0:q0*Y+r0=r1*H32+d0) (hr:r0<Y) :
 q1*H32+q0=(hi*B64+lo)/y/\r0/2^s=(hi*B64+lo)%y:=by
 have hp:0<2^s:=Nat.pow_pos (by omega)
 have e:(q1*H32+q0)*Y+r0=(hi*B64+lo)*2^s:=by
  rw[h.uv,<-h.l1,<-H32_sq]
  have e1:(q1*Y+r1)*H32=(U*H32+d1)*H32:=by rw[h1]
  rw[Nat.add_mul,Nat.add_mul] at e1
  rw[Nat.add_mul,Nat.mul_assoc q1,Nat.mul_comm H32 Y,<-Nat.mul_assoc q1,<-Nat.mul_assoc U]
  omega
 have hY:0<Y:=by omega
 have hd:(hi*B64+lo)*2^s/Y=q1*H32+q0:=by
  rw[<-e,Nat.add_comm,Nat.add_mul_div_right _ _ hY,Nat.div_eq_of_lt hr,Nat.zero_add]
 have hm:(hi*B64+lo)*2^s%Y=r0:=by
  rw[<-e,Nat.add_comm,Nat.add_mul_mod_self_right,Nat.mod_eq_of_lt hr]
 rw[h.yv,Nat.mul_div_mul_right _ _ hp] at hd
 rw[h.yv,Nat.mul_mod_mul_right] at hm
 refine⟨hd.symm,?_⟩
 rw[<-hm,Nat.mul_div_cancel _ hp]
theorem bitsDiv64_1 (hi lo y:Nat) (hlo:lo<B64) (hy:y<B64) (hhi:hi<y) (hy0:0<hi) (w:World) :
 Calls Tryz.prog 268 #[wd hi,wd lo,wd y] w λe w'=>e=.returned (.tuple #[wd ((hi*B64+lo)/y),wd ((hi*B64+lo)%y)])/\∃ n,w'=w.drewN n:=by
 have hz:((y:Int)==0)=false:=by rw[beq_eq_false_iff_ne];omega
 have hz1:((hi:Int)==0)=false:=by rw[beq_eq_false_iff_ne];omega
 have hle:¬(y:Int)<=(hi:Int):=by omega
 have HY:=Lz hy
 obtain⟨s,hs,hs63,hs1,hs2⟩:=lz_spec hy (by omega)
 obtain⟨Y,U,L,Y1,Y0,d1,d0,D⟩:=DW.make hs63 hlo hhi hs1 hs2
 have hY1:0<Y1:=by have:=D.top;unfold H32 at this;omega
 have hy1z:((Y1:Int)==0)=false:=by rw[beq_eq_false_iff_ne];omega
 obtain⟨G,hG⟩:∃ G,G=U/Y1:=⟨_,rfl⟩
 have hGU:G*Y1<=U:=by rw[hG];exact Nat.div_mul_le_self _ _
 obtain⟨R,hR⟩:∃ R,R=U-G*Y1:=⟨_,rfl⟩
 have hDG:DG U d1 Y1 Y0 G R:=by
  rw[hR,hG]
  exact DG.start D.top D.y0 (by rw[D.y1];exact D.ul) D.l1h
 have hRY:R<Y1:=by
  have:=Nat.mod_lt U hY1
  rw[Nat.mod_eq_sub_div_mul,<-hG,<-hR] at this
  exact this
 have hUB:U<B64:=Nat.lt_trans D.ul D.yb
 have wG:IntKind.u64.wrap ((U:Int)/(Y1:Int))=(G:Int):=by
  rw[<-Int.natCast_ediv,<-hG,zxx,Nat.mod_eq_of_lt]
  rw[hG];exact Nat.lt_of_le_of_lt (Nat.div_le_self _ _) hUB
 have wG2:IntKind.u64.wrap ((G:Int)*(Y1:Int))=(G:Int)*(Y1:Int):=by
  rw[<-Int.natCast_mul,zxx,Nat.mod_eq_of_lt (by omega)]
 have wR:IntKind.u64.wrap ((U:Int)-(G:Int)*(Y1:Int))=(R:Int):=by
  rw[<-Int.natCast_mul,<-Int.ofNat_sub hGU,<-hR,zxx,Nat.mod_eq_of_lt (by omega)]
 have w1:=D.wy
 have w2:=D.wh
 have w3:=D.wl
 have w4:=D.wu
 have w5:=D.iy1
 have w6:=D.iy0
 have w7:=D.id1
 have w8:=D.id0
 have w9:((hi*2^s:Nat):Int)=(hi:Int)*2^s:=by push_cast;rfl
 rw[w9] at w2 w4
 have HS:=Lz hs
 have HDG:=Lz hDG
 have HRY:=Lz hRY
 clear hy hs hs1 hs2 w9 hG hR hDG hRY hGU hUB
 go_enter Tryz.func268,Tryz.ntmps268
 go_wp2_with fail
 refine(Tryz.bits_LeadingZeros64 (y:Int) w (by omega) (by have:=HY.out;unfold B64 at this;omega)).mono ?_
 rintro e w1 ⟨rfl,rfl⟩
 rw[Int.toNat_natCast,HS.out]
 go_upto_block 0 with fail
 go_cut [15,16] from 67 (λq r wx=>q=.int .u64 ((U*H32+d1)/Y:Nat)/\(∃ v,r=v)/\wx=w1)
 case first=>
  go_wp2_with fail
  go_loop [15,16] (λa b=>∃ q r:Nat,a=.int .u64 q/\b=.int .u64 r/\RowKit.Hid (DG U d1 Y1 Y0 q r/\r<H32)) (λa _=>(intOf a).toNat)
  case atStart=>exact⟨G,R,rfl,rfl,HDG.out,by have:=HRY.out;have:=D.y1;have:=D.yb;unfold B64 at this;unfold H32 at *;omega⟩
  case round=>
   obtain⟨q,r,rfl,rfl,HL⟩:=hrel
   have hqs:=HL.out.1.small
   have hy1h:Y1<H32:=by have:=D.y1;have:=D.yb;unfold B64 at this;unfold H32 at *;omega
   have hrl:=HL.out.2
   obtain⟨q',hq'⟩:∃ q',q'=q-1:=⟨_,rfl⟩
   obtain⟨r',hr'⟩:∃ r',r'=r+Y1:=⟨_,rfl⟩
   have wr':IntKind.u64.wrap ((r:Int)+(Y1:Int))=(r':Int):=by
    rw[<-Int.natCast_add,<-hr',zxx,Nat.mod_eq_of_lt];unfold B64 H32 at *;omega
   have wq':0<q->IntKind.u64.wrap ((q:Int)-1)=(q':Int):=λh=>by
    rw[show(q:Int)-1=((q-1:Nat):Int) by omega,<-hq',zxx,Nat.mod_eq_of_lt];unfold B64 H32 at *;omega
   have HQ:=Lz hq'
   by_cases hq:H32<=q
   . have t1:(4294967296:Int)<=(q:Int):=by unfold H32 at hq;omega
     have hn:=HL.out.1.next (by rw[D.y1];exact D.ul) D.l1h (.inl hq)
     rw[<-hq',<-hr'] at hn
     have HN:=Lz hn
     have wq2:=wq' hn.1
     clear hq hn hq' hr' wq' hrl hy1h hqs
     by_cases hb:H32<=r'
     . have hb2:(4294967296:Int)<=(r':Int):=by unfold H32 at hb;omega
       have HF:=Lz (HN.out.2.broke (by have:=HL.out.1.small;have:=HQ.out;omega) (by rw[D.y1];have:=D.ul;omega) D.y0 hb)
       clear hb
       go_wp2_with fail
       go_meet
       case rel=>exact⟨by rw[HF.out,D.y1],⟨_,rfl⟩,rfl⟩
     . have hb2:¬(4294967296:Int)<=(r':Int):=by unfold H32 at hb;omega
       have HB:=Lz (Nat.lt_of_not_le hb)
       clear hb
       go_wp2_with fail
       go_round
       case rel=>exact⟨q',r',rfl,rfl,HN.out.2,HB.out⟩
       case measure=>simp[intOf];have:=HN.out.1;have:=HQ.out;omega
   . have t1:¬(4294967296:Int)<=(q:Int):=by unfold H32 at hq;omega
     obtain⟨A,hA⟩:∃ A,A=q*Y0:=⟨_,rfl⟩
     obtain⟨C,hC⟩:∃ C,C=H32*r+d1:=⟨_,rfl⟩
     have hAB:q*Y0<B64:=by
      have h1:=D.y0
      have:q*Y0<=(H32-1)*(H32-1):=Nat.mul_le_mul (by omega) (by omega)
      unfold B64;unfold H32 at this;omega
     have wA:IntKind.u64.wrap ((q:Int)*(Y0:Int))=(A:Int):=by rw[<-Int.natCast_mul,<-hA,zxx,Nat.mod_eq_of_lt];rw[hA];exact hAB
     have hdh:=D.l1h
     have wB:IntKind.u64.wrap (4294967296*(r:Int))=4294967296*(r:Int):=by
      rw[show 4294967296*(r:Int)=((4294967296*r:Nat):Int) by rw[Int.natCast_mul];rfl,zxx,Nat.mod_eq_of_lt];unfold B64;unfold H32 at hrl;omega
     have wC:IntKind.u64.wrap (4294967296*(r:Int)+(d1:Int))=(C:Int):=by
      rw[show 4294967296*(r:Int)+(d1:Int)=((H32*r+d1:Nat):Int) by rw[Int.natCast_add,Int.natCast_mul];rfl,<-hC,zxx,Nat.mod_eq_of_lt];rw[hC];unfold B64;unfold H32 at *;omega
     by_cases hca:C<A
     . have t2:(C:Int)<(A:Int):=by omega
       have hn:=HL.out.1.next (by rw[D.y1];exact D.ul) D.l1h (.inr (by rw[<-hA,<-hC];exact hca))
       rw[<-hq',<-hr'] at hn
       have HN:=Lz hn
       have wq2:=wq' hn.1
       clear hq hn hq' hr' wq' hrl hA hC hAB hdh hca hy1h hqs
       by_cases hb:H32<=r'
       . have hb2:(4294967296:Int)<=(r':Int):=by unfold H32 at hb;omega
         have HF:=Lz (HN.out.2.broke (by have:=HL.out.1.small;have:=HQ.out;omega) (by rw[D.y1];have:=D.ul;omega) D.y0 hb)
         clear hb
         go_wp2_with fail
         go_meet
         case rel=>exact⟨by rw[HF.out,D.y1],⟨_,rfl⟩,rfl⟩
       . have hb2:¬(4294967296:Int)<=(r':Int):=by unfold H32 at hb;omega
         have HB:=Lz (Nat.lt_of_not_le hb)
         clear hb
         go_wp2_with fail
         go_round
         case rel=>exact⟨q',r',rfl,rfl,HN.out.2,HB.out⟩
         case measure=>simp[intOf];have:=HN.out.1;have:=HQ.out;omega
     . have t2:¬(C:Int)<(A:Int):=by omega
       have HF:=Lz (HL.out.1.done (by rw[D.y1];have:=D.ul;omega) (by rw[<-hA,<-hC];omega))
       clear hq hq' hr' wq' hrl hA hC hAB hdh hca hy1h hqs
       go_wp2_with fail
       go_meet
       case rel=>exact⟨by rw[HF.out,D.y1],⟨_,rfl⟩,rfl⟩
 case rest=>
  obtain⟨rfl,⟨v,rfl⟩,hwc⟩:=hcut
  obtain rfl:w1=wc:=hwc.symm
  have hYp:0<Y:=by have:=D.ul;omega
  obtain⟨q1,hq1⟩:∃ q1,q1=(U*H32+d1)/Y:=⟨_,rfl⟩
  obtain⟨r1,hr1⟩:∃ r1,r1=(U*H32+d1)%Y:=⟨_,rfl⟩
  have hqr:q1*Y+r1=U*H32+d1:=by rw[hq1,hr1,Nat.mul_comm];exact Nat.div_add_mod _ _
  have hr1Y:r1<Y:=by rw[hr1];exact Nat.mod_lt _ hYp
  have hq1h:q1<H32:=by
   have:=DG.lt (y1:=Y1) (y0:=Y0) (by rw[D.y1];exact D.ul) D.l1h
   rw[D.y1,<-hq1] at this
   exact this
  have hYB:=D.yb
  obtain⟨a1,ha1⟩:∃ a1,a1=U*H32%B64:=⟨_,rfl⟩
  obtain⟨a2,ha2⟩:∃ a2,a2=(a1+d1)%B64:=⟨_,rfl⟩
  obtain⟨a3,ha3⟩:∃ a3,a3=q1*Y%B64:=⟨_,rfl⟩
  have k1:IntKind.u64.wrap ((U:Int)*4294967296)=(a1:Int):=by
   rw[show(U:Int)*4294967296=((U*H32:Nat):Int) by rw[Int.natCast_mul];rfl,zxx,<-ha1]
  have k2:IntKind.u64.wrap ((a1:Int)+(d1:Int))=(a2:Int):=by rw[<-Int.natCast_add,zxx,<-ha2]
  have k3:IntKind.u64.wrap ((q1:Int)*(Y:Int))=(a3:Int):=by rw[<-Int.natCast_mul,zxx,<-ha3]
  have k4:IntKind.u64.wrap ((a2:Int)-(a3:Int))=(r1:Int):=by
   rw[IntKind.wrap_u64]
   generalize U*H32=X at *
   generalize q1*Y=Z at *
   unfold B64 at *
   omega
  obtain⟨G2,hG2⟩:∃ G,G=r1/Y1:=⟨_,rfl⟩
  have hGU2:G2*Y1<=r1:=by rw[hG2];exact Nat.div_mul_le_self _ _
  obtain⟨R2,hR2⟩:∃ R,R=r1-G2*Y1:=⟨_,rfl⟩
  have hDG2:DG r1 d0 Y1 Y0 G2 R2:=by
   rw[hR2,hG2]
   exact DG.start D.top D.y0 (by rw[D.y1];exact hr1Y) D.l0
  have hRY2:R2<Y1:=by
   have:=Nat.mod_lt r1 hY1
   rw[Nat.mod_eq_sub_div_mul,<-hG2,<-hR2] at this
   exact this
  have wG':IntKind.u64.wrap ((r1:Int)/(Y1:Int))=(G2:Int):=by
   rw[<-Int.natCast_ediv,<-hG2,zxx,Nat.mod_eq_of_lt]
   rw[hG2];exact Nat.lt_of_le_of_lt (Nat.div_le_self _ _) (by omega)
  have wG2':IntKind.u64.wrap ((G2:Int)*(Y1:Int))=(G2:Int)*(Y1:Int):=by
   rw[<-Int.natCast_mul,zxx,Nat.mod_eq_of_lt (by omega)]
  have wR':IntKind.u64.wrap ((r1:Int)-(G2:Int)*(Y1:Int))=(R2:Int):=by
   rw[<-Int.natCast_mul,<-Int.ofNat_sub hGU2,<-hR2,zxx,Nat.mod_eq_of_lt (by omega)]
  rw[<-hq1]
  have HQR:=Lz hqr
  have HRL:=Lz hr1Y
  have HQH:=Lz hq1h
  have HDG2:=Lz hDG2
  have HRY2:=Lz hRY2
  clear hq1 hr1 hqr hr1Y hq1h hYB ha1 ha2 ha3 hG2 hGU2 hR2 hDG2 hRY2 hYp
  go_upto_block 2 with fail
  go_cut [18,16] from 102 (λq r wx=>q=.int .u64 ((r1*H32+d0)/Y:Nat)/\(∃ v,r=v)/\wx=w1)
  case first=>
   go_wp2_with fail
   go_loop [18,16] (λa b=>∃ q r:Nat,a=.int .u64 q/\b=.int .u64 r/\RowKit.Hid (DG r1 d0 Y1 Y0 q r/\r<H32)) (λa _=>(intOf a).toNat)
   case atStart=>exact⟨G2,R2,rfl,rfl,HDG2.out,by have:=HRY2.out;have:=D.y1;have:=D.yb;unfold B64 at this;unfold H32 at *;omega⟩
   case round=>
    obtain⟨q,r,rfl,rfl,HL⟩:=hrel
    have hqs:=HL.out.1.small
    have hy1h:Y1<H32:=by have:=D.y1;have:=D.yb;unfold B64 at this;unfold H32 at *;omega
    have hrl:=HL.out.2
    obtain⟨q',hq'⟩:∃ q',q'=q-1:=⟨_,rfl⟩
    obtain⟨r',hr'⟩:∃ r',r'=r+Y1:=⟨_,rfl⟩
    have wr':IntKind.u64.wrap ((r:Int)+(Y1:Int))=(r':Int):=by
     rw[<-Int.natCast_add,<-hr',zxx,Nat.mod_eq_of_lt];unfold B64 H32 at *;omega
    have wq':0<q->IntKind.u64.wrap ((q:Int)-1)=(q':Int):=λh=>by
     rw[show(q:Int)-1=((q-1:Nat):Int) by omega,<-hq',zxx,Nat.mod_eq_of_lt];unfold B64 H32 at *;omega
    have HQ:=Lz hq'
    by_cases hq:H32<=q
    . have t1:(4294967296:Int)<=(q:Int):=by unfold H32 at hq;omega
      have hn:=HL.out.1.next (by rw[D.y1];exact HRL.out) D.l0 (.inl hq)
      rw[<-hq',<-hr'] at hn
      have HN:=Lz hn
      have wq2:=wq' hn.1
      clear hq hn hq' hr' wq' hrl hy1h hqs
      by_cases hb:H32<=r'
      . have hb2:(4294967296:Int)<=(r':Int):=by unfold H32 at hb;omega
        have HF:=Lz (HN.out.2.broke (by have:=HL.out.1.small;have:=HQ.out;omega) (by rw[D.y1];have:=D.ul;omega) D.y0 hb)
        clear hb
        go_wp2_with fail
        go_meet
        case rel=>exact⟨by rw[HF.out,D.y1],⟨_,rfl⟩,rfl⟩
      . have hb2:¬(4294967296:Int)<=(r':Int):=by unfold H32 at hb;omega
        have HB:=Lz (Nat.lt_of_not_le hb)
        clear hb
        go_wp2_with fail
        go_round
        case rel=>exact⟨q',r',rfl,rfl,HN.out.2,HB.out⟩
        case measure=>simp[intOf];have:=HN.out.1;have:=HQ.out;omega
    . have t1:¬(4294967296:Int)<=(q:Int):=by unfold H32 at hq;omega
      obtain⟨A,hA⟩:∃ A,A=q*Y0:=⟨_,rfl⟩
      obtain⟨C,hC⟩:∃ C,C=H32*r+d0:=⟨_,rfl⟩
      have hAB:q*Y0<B64:=by
       have h1:=D.y0
       have:q*Y0<=(H32-1)*(H32-1):=Nat.mul_le_mul (by omega) (by omega)
       unfold B64;unfold H32 at this;omega
      have wA:IntKind.u64.wrap ((q:Int)*(Y0:Int))=(A:Int):=by rw[<-Int.natCast_mul,<-hA,zxx,Nat.mod_eq_of_lt];rw[hA];exact hAB
      have hdh:=D.l0
      have wB:IntKind.u64.wrap (4294967296*(r:Int))=4294967296*(r:Int):=by
       rw[show 4294967296*(r:Int)=((4294967296*r:Nat):Int) by rw[Int.natCast_mul];rfl,zxx,Nat.mod_eq_of_lt];unfold B64;unfold H32 at hrl;omega
      have wC:IntKind.u64.wrap (4294967296*(r:Int)+(d0:Int))=(C:Int):=by
       rw[show 4294967296*(r:Int)+(d0:Int)=((H32*r+d0:Nat):Int) by rw[Int.natCast_add,Int.natCast_mul];rfl,<-hC,zxx,Nat.mod_eq_of_lt];rw[hC];unfold B64;unfold H32 at *;omega
      by_cases hca:C<A
      . have t2:(C:Int)<(A:Int):=by omega
        have hn:=HL.out.1.next (by rw[D.y1];exact HRL.out) D.l0 (.inr (by rw[<-hA,<-hC];exact hca))
        rw[<-hq',<-hr'] at hn
        have HN:=Lz hn
        have wq2:=wq' hn.1
        clear hq hn hq' hr' wq' hrl hA hC hAB hdh hca hy1h hqs
        by_cases hb:H32<=r'
        . have hb2:(4294967296:Int)<=(r':Int):=by unfold H32 at hb;omega
          have HF:=Lz (HN.out.2.broke (by have:=HL.out.1.small;have:=HQ.out;omega) (by rw[D.y1];have:=D.ul;omega) D.y0 hb)
          clear hb
          go_wp2_with fail
          go_meet
          case rel=>exact⟨by rw[HF.out,D.y1],⟨_,rfl⟩,rfl⟩
        . have hb2:¬(4294967296:Int)<=(r':Int):=by unfold H32 at hb;omega
          have HB:=Lz (Nat.lt_of_not_le hb)
          clear hb
          go_wp2_with fail
          go_round
          case rel=>exact⟨q',r',rfl,rfl,HN.out.2,HB.out⟩
          case measure=>simp[intOf];have:=HN.out.1;have:=HQ.out;omega
      . have t2:¬(C:Int)<(A:Int):=by omega
        have HF:=Lz (HL.out.1.done (by rw[D.y1];have:=D.ul;omega) (by rw[<-hA,<-hC];omega))
        clear hq hq' hr' wq' hrl hA hC hAB hdh hca hy1h hqs
        go_wp2_with fail
        go_meet
        case rel=>exact⟨by rw[HF.out,D.y1],⟨_,rfl⟩,rfl⟩
  case rest=>
   obtain⟨rfl,⟨v2,rfl⟩,hwc⟩:=hcut
   obtain rfl:w1=wc:=hwc.symm
   obtain⟨q0,hq0⟩:∃ q0,q0=(r1*H32+d0)/Y:=⟨_,rfl⟩
   obtain⟨r0,hr0⟩:∃ r0,r0=(r1*H32+d0)%Y:=⟨_,rfl⟩
   have hqr0:q0*Y+r0=r1*H32+d0:=by rw[hq0,hr0,Nat.mul_comm];exact Nat.div_add_mod _ _
   have hr0Y:r0<Y:=by rw[hr0];exact Nat.mod_lt _ (by have:=D.ul;omega)
   have hq0h:q0<H32:=by
    have:=DG.lt (y1:=Y1) (y0:=Y0) (by rw[D.y1];exact HRL.out) D.l0
    rw[D.y1,<-hq0] at this
    exact this
   have hYB:=D.yb
   obtain⟨eq,er⟩:=D.done HQR.out hqr0 hr0Y
   obtain⟨b1,hb1⟩:∃ b1,b1=q1*H32:=⟨_,rfl⟩
   obtain⟨qq,hqq⟩:∃ qq,qq=q1*H32+q0:=⟨_,rfl⟩
   have hq1B:q1*H32+q0<B64:=by have:=HQH.out;unfold B64;unfold H32 at *;omega
   obtain⟨c1,hc1⟩:∃ c1,c1=r1*H32%B64:=⟨_,rfl⟩
   obtain⟨c2,hc2⟩:∃ c2,c2=(c1+d0)%B64:=⟨_,rfl⟩
   obtain⟨c3,hc3⟩:∃ c3,c3=q0*Y%B64:=⟨_,rfl⟩
   have m1:IntKind.u64.wrap ((q1:Int)*4294967296)=(b1:Int):=by
    rw[show(q1:Int)*4294967296=((q1*H32:Nat):Int) by rw[Int.natCast_mul];rfl,zxx,<-hb1,Nat.mod_eq_of_lt (by omega)]
   have m2:IntKind.u64.wrap ((b1:Int)+(q0:Int))=(qq:Int):=by rw[<-Int.natCast_add,zxx,hb1,<-hqq,Nat.mod_eq_of_lt (by omega)]
   have m3:IntKind.u64.wrap ((r1:Int)*4294967296)=(c1:Int):=by
    rw[show(r1:Int)*4294967296=((r1*H32:Nat):Int) by rw[Int.natCast_mul];rfl,zxx,<-hc1]
   have m4:IntKind.u64.wrap ((c1:Int)+(d0:Int))=(c2:Int):=by rw[<-Int.natCast_add,zxx,<-hc2]
   have m5:IntKind.u64.wrap ((q0:Int)*(Y:Int))=(c3:Int):=by rw[<-Int.natCast_mul,zxx,<-hc3]
   have m6:IntKind.u64.wrap ((c2:Int)-(c3:Int))=(r0:Int):=by
    rw[IntKind.wrap_u64]
    generalize r1*H32=X at *
    generalize q0*Y=Z at *
    unfold B64 at *
    omega
   rw[<-hq0]
   rw[<-hqq] at eq
   have HEQ:=Lz eq
   have HER:=Lz er
   clear hq0 hr0 hqr0 hr0Y hq0h hYB eq er hb1 hqq hq1B hc1 hc2 hc3
   go_wp2_with fail
   go_ret2
   refine⟨?_,0,rfl⟩
   rw[<-HEQ.out,<-HER.out]
   rfl
def DivP (n y:Nat) (w:World) (e:Ending) (w':World):Prop:=e=.returned (.tuple #[wd (n/y),wd (n%y)])/\∃ n,w'=w.drewN n
theorem bitsDiv64 (hi lo y:Nat) (hlo:lo<B64) (hy:y<B64) (hhi:hi<y) (w:World) :
 Calls Tryz.prog 268 #[wd hi,wd lo,wd y] w (DivP (hi*B64+lo) y w):=by
 by_cases h0:hi=0
 . subst h0
   rw[Nat.zero_mul,Nat.zero_add]
   exact bitsDiv64_0 lo y hlo hhi w
 . exact bitsDiv64_1 hi lo y hlo hy hhi (by omega) w
theorem bitsDiv (hi lo y:Nat) (hlo:lo<B64) (hy:y<B64) (hhi:hi<y) (w:World) :
 Calls Tryz.prog 256 #[wd hi,wd lo,wd y] w (DivP (hi*B64+lo) y w):=by
 have H:=Lz (bitsDiv64 hi lo y hlo hy hhi w)
 clear hlo hy hhi
 generalize hi*B64+lo=n at *
 go_enter Tryz.func256,Tryz.ntmps256
 go_wp2_with fail
 refine H.out.mono ?_
 rintro e w1 ⟨rfl,k,rfl⟩
 go_wp2_with fail
 go_ret2
 exact⟨rfl,k,rfl⟩
def lz (y:Nat):Nat:=64-Lib.bitLen y
def nrm (y:Nat):Nat:=y*2^lz y
def recip (y:Nat):Nat:=(B64*B64-1)/nrm y-B64
theorem lz_facts {y:Nat} (hy:y<B64) (h0:y≠0):(64-(Lib.bitLen y:Int))=(lz y:Int)/\lz y<=63/\nrm y<B64/\B64<=2*nrm y:=by
 obtain⟨s,hs,h63,h1,h2⟩:=lz_spec hy h0
 have e:lz y=s:=by unfold lz;omega
 unfold nrm
 rw[e]
 exact⟨hs,h63,h1,h2⟩
theorem nlz (y:Nat) (hy:y<B64) (h0:y≠0) (w:World):Calls Tryz.prog 218 #[wd y] w λe w'=>e=.returned (wd (lz y))/\w'=w:=by
 obtain⟨hs,h63,-,-⟩:=lz_facts hy h0
 have HY:=Lz hy
 have HS:=Lz hs
 clear hy hs h0
 generalize lz y=s at *
 go_enter Tryz.func218,Tryz.ntmps218
 go_wp2_with fail
 refine(Tryz.bits_LeadingZeros (y:Int) w (by omega) (by have:=HY.out;unfold B64 at this;omega)).mono ?_
 rintro e w1 ⟨rfl,rfl⟩
 rw[Int.toNat_natCast,HS.out]
 go_wp2_with fail
 go_ret
 exact⟨rfl,rfl⟩
end Go.Proofs.YtohhkjamddojmaaGreatDoor.Big
namespace Go.Proofs.YtohhkjamddojmaaGreatDoor.Big
open Go.RowKit
theorem recip_eq {Y:Nat} (h1:Y<B64) (h2:B64<=2*Y):((B64-1-Y)*B64+(B64-1))/Y=(B64*B64-1)/Y-B64:=by
 have hY:0<Y:=by unfold B64 at h2;omega
 have e:B64*B64-1=((B64-1-Y)*B64+(B64-1))+B64*Y:=by
  have:(B64-1-Y)*B64+Y*B64=(B64-1)*B64:=by rw[<-Nat.add_mul];congr 1;omega
  have h3:(B64-1)*B64+B64=B64*B64:=by rfl
  rw[Nat.mul_comm B64 Y]
  have hp:=zxw
  omega
 rw[e,Nat.add_mul_div_right _ _ hY,Nat.add_sub_cancel]
theorem recip_lt {y:Nat} (h:B64<=2*nrm y):recip y<B64:=by
 have hY:0<nrm y:=by unfold B64 at h;omega
 have h1:(B64*B64-1)/nrm y<2*B64:=by
  rw[Nat.div_lt_iff_lt_mul hY]
  have h3:B64*B64<=B64*(2*nrm y):=Nat.mul_le_mul_left _ h
  have hp:0<B64*B64:=by decide
  have e:2*B64*nrm y=B64*(2*nrm y):=by rw[Nat.mul_comm 2,Nat.mul_assoc]
  rw[e]
  generalize B64*(2*nrm y)=z at *
  generalize B64*B64=b at *
  omega
 unfold recip
 generalize (B64*B64-1)/nrm y=z at *
 omega
theorem not_word (x:Nat) (h:x<B64):bits .xor .u64 IntKind.u64.max (x:Int)=((B64-1-x:Nat):Int):=by
 show IntKind.u64.wrap ((BitVec.ofInt 64 (18446744073709551615:Int) ^^^ BitVec.ofInt 64 (x:Int)).toNat:Int)=_
 have e:BitVec.ofInt 64 (18446744073709551615:Int)=BitVec.allOnes 64:=by decide
 rw[e,BitVec.allOnes_xor,BitVec.toNat_not,ofInt_u64 x h,zxx,Nat.mod_eq_of_lt (by unfold B64;omega)]
 rfl
theorem reciprocalWord (y:Nat) (hy:y<B64) (h0:y≠0) (w:World):Calls Tryz.prog 257 #[wd y] w λe w'=>e=.returned (wd (recip y))/\∃ n,w'=w.drewN n:=by
 obtain⟨hs,h63,h1,h2⟩:=lz_facts hy h0
 have HN:=Lz (nlz y hy h0 w)
 have hwy:IntKind.u64.wrap ((y:Int)*2^lz y)=(nrm y:Int):=by
  rw[show(y:Int)*2^lz y=((y*2^lz y:Nat):Int) by push_cast;rfl,zxx];exact congrArg _ (Nat.mod_eq_of_lt h1)
 have hD:=bitsDiv (B64-1-nrm y) (B64-1) (nrm y) (by decide) h1 (by omega) w
 unfold DivP at hD
 rw[recip_eq h1 h2] at hD
 change Calls _ _ _ _ (λe w'=>e=.returned (.tuple #[wd (recip y),_])/\_) at hD
 have hnot:=not_word (nrm y) h1
 have HD:=Lz hD
 clear hs hy h0 h1 h2 hD
 generalize recip y=R at *
 generalize (B64-1-nrm y)=N at *
 go_enter Tryz.func257,Tryz.ntmps257
 go_wp2_with fail
 refine HN.out.mono ?_
 rintro e w1 ⟨rfl,hw⟩
 obtain rfl:w=w1:=hw.symm
 go_wp2_with fail
 refine HD.out.mono ?_
 rintro e w1 ⟨rfl,k,rfl⟩
 go_wp2_with fail
 go_ret
 exact⟨rfl,k,rfl⟩
theorem guess {B d v x1 x0 q r:Nat} (hd:d<=B) (h1:v*d<B*B) (h2:B*B<=v*d+d) (hx1:x1<d) (hx0:x0<B) (hq:q*B+r=x1*v+x0) (hr:r<B) :
 q*d<=x1*B+x0/\x1*B+x0<q*d+B+d:=by
 have hB:0<B:=by omega
 have e0:(q*B+r)*d=(x1*v+x0)*d:=by rw[hq]
 have e1:q*B*d+r*d=x1*(v*d)+x0*d:=by rw[Nat.add_mul,Nat.add_mul,Nat.mul_assoc x1] at e0;exact e0
 have e2:q*B*d=q*d*B:=by rw[Nat.mul_assoc,Nat.mul_comm B,<-Nat.mul_assoc]
 have f1:x1*(v*d)<=x1*(B*B):=Nat.mul_le_mul_left _ (Nat.le_of_lt h1)
 have f2:x1*(B*B)<=x1*(v*d)+x1*d:=by rw[<-Nat.mul_add];exact Nat.mul_le_mul_left _ h2
 have g:(x1*B+x0)*B=x1*(B*B)+x0*B:=by rw[Nat.add_mul,Nat.mul_assoc]
 constructor
 . refine Nat.le_of_mul_le_mul_right ?_ hB
   have f3:x0*d<=x0*B:=Nat.mul_le_mul_left _ hd
   rw[g,<-e2]
   omega
 . refine Nat.lt_of_mul_lt_mul_right (a:=B) ?_
   rw[g,Nat.add_mul,Nat.add_mul,<-e2]
   obtain⟨e,rfl⟩:∃ e,B=d+e:=⟨B-d,by omega⟩
   have a1:x0*(d+e)=x0*d+x0*e:=Nat.mul_add _ _ _
   have a2:x0*e+e<=(d+e)*e:=by
    have:(x0+1)*e<=(d+e)*e:=Nat.mul_le_mul_right _ (by omega)
    rwa [Nat.add_mul,Nat.one_mul] at this
   have a3:r*d+d<=(d+e)*d:=by
    have:(r+1)*d<=(d+e)*d:=Nat.mul_le_mul_right _ (by omega)
    rwa [Nat.add_mul,Nat.one_mul] at this
   have a4:x1*d+d<=d*d:=by
    have:(x1+1)*d<=d*d:=Nat.mul_le_mul_right _ (by omega)
    rwa [Nat.add_mul,Nat.one_mul] at this
   have a5:(d+e)*(d+e)=(d+e)*d+(d+e)*e:=Nat.mul_add _ _ _
   have a6:d*(d+e)=(d+e)*d:=Nat.mul_comm _ _
   have a7:d*d<=(d+e)*d:=Nat.mul_le_mul_right _ (by omega)
   omega
theorem DW.fin {hi lo y s Y U L Y1 Y0 d1 d0 q r:Nat} (h:DW hi lo y s Y U L Y1 Y0 d1 d0) (h1:q*Y+r=U*B64+L) (hr:r<Y) :
 q=(hi*B64+lo)/y/\r/2^s=(hi*B64+lo)%y:=by
 have hp:0<2^s:=Nat.pow_pos (by omega)
 have e:q*Y+r=(hi*B64+lo)*2^s:=by rw[h.uv,h1]
 have hY:0<Y:=by omega
 have hd:(hi*B64+lo)*2^s/Y=q:=by
  rw[<-e,Nat.add_comm,Nat.add_mul_div_right _ _ hY,Nat.div_eq_of_lt hr,Nat.zero_add]
 have hm:(hi*B64+lo)*2^s%Y=r:=by
  rw[<-e,Nat.add_comm,Nat.add_mul_mod_self_right,Nat.mod_eq_of_lt hr]
 rw[h.yv,Nat.mul_div_mul_right _ _ hp] at hd
 rw[h.yv,Nat.mul_mod_mul_right] at hm
 exact⟨hd.symm,by rw[<-hm,Nat.mul_div_cancel _ hp]⟩
theorem two_digits {a b c d:Nat} (hb:b<B64) (hd:d<B64) (h:a*B64+b=c*B64+d):a=c/\b=d:=by
 have h1:(a*B64+b)/B64=(c*B64+d)/B64:=by rw[h]
 rw[Nat.add_comm,Nat.add_mul_div_right _ _ zxw,Nat.div_eq_of_lt hb,Nat.add_comm (c*B64),Nat.add_mul_div_right _ _ zxw,Nat.div_eq_of_lt hd] at h1
 have h2:a=c:=by omega
 subst h2
 exact⟨rfl,by omega⟩
theorem DW.zero {hi lo y Y U L Y1 Y0 d1 d0:Nat} (h:DW hi lo y 0 Y U L Y1 Y0 d1 d0) (hlo:lo<B64):U=hi/\L=lo/\Y=y:=by
 have e:=h.uv
 rw[Nat.pow_zero,Nat.mul_one] at e
 obtain⟨h1,h2⟩:=two_digits hlo h.ll e
 exact⟨h1.symm,h2.symm,by rw[h.yv,Nat.pow_zero,Nat.mul_one]⟩
theorem recip_facts {y:Nat} (hy:nrm y<B64) (h2:B64<=2*nrm y):(recip y+B64)*nrm y<B64*B64/\B64*B64<=(recip y+B64)*nrm y+nrm y:=by
 have hY:0<nrm y:=by unfold B64 at h2;omega
 have hv:B64<=(B64*B64-1)/nrm y:=by
  rw[Nat.le_div_iff_mul_le hY]
  have:B64*nrm y<=B64*(B64-1):=Nat.mul_le_mul_left _ (by omega)
  have h3:B64*(B64-1)<=B64*B64-1:=by decide
  omega
 have e:recip y+B64=(B64*B64-1)/nrm y:=by unfold recip;omega
 rw[e]
 have h3:=Nat.div_add_mod (B64*B64-1) (nrm y)
 have h4:=Nat.mod_lt (B64*B64-1) hY
 rw[Nat.mul_comm] at h3
 have hp:0<B64*B64:=by decide
 omega
structure WW (U L Y m Q r0 r1:Nat):Prop where
 eq:Q*Y+(r0+r1*B64)=U*B64+L
 lt:r0+r1*B64<B64+Y
 r0:r0<B64
theorem WW.make {U L Y m l h l2 h2:Nat} (hY:Y<B64) (hU:U<Y) (hL:L<B64) (k1:(m+B64)*Y<B64*B64) (k2:B64*B64<=(m+B64)*Y+Y)
 (e1:l+h*B64=m*U) (hl:l<B64) (e2:l2+h2*B64=Y*addS h U (addC l L 0)) (hl2:l2<B64) (hh2:h2<B64) :
 WW U L Y m (addS h U (addC l L 0)) (subS L l2 0) (subS U h2 (subC L l2 0)):=by
 obtain⟨a1,a2,a3⟩:=add_facts hl hL (by omega:0<=1)
 have hg:=guess (B:=B64) (d:=Y) (v:=m+B64) (x1:=U) (x0:=L) (q:=h+U+addC l L 0) (r:=addS l L 0) (by omega) k1 k2 hU hL (by
  have e3:U*(m+B64)=m*U+U*B64:=by rw[Nat.mul_add,Nat.mul_comm U m]
  rw[e3,<-e1,Nat.add_mul,Nat.add_mul]
  omega) a2
 have hqB:h+U+addC l L 0<B64:=by
  refine Classical.byContradiction λhn=>?_
  have h5:B64*Y<=(h+U+addC l L 0)*Y:=Nat.mul_le_mul_right _ (by omega)
  have h6:(U+1)*B64<=Y*B64:=Nat.mul_le_mul_right _ hU
  rw[Nat.add_mul,Nat.one_mul] at h6
  rw[Nat.mul_comm B64] at h5
  have:=hg.1
  omega
 have eQ:addS h U (addC l L 0)=h+U+addC l L 0:=by unfold addS;exact Nat.mod_eq_of_lt hqB
 rw[eQ] at e2 ⊢
 generalize h+U+addC l L 0=Q at *
 obtain⟨s1,s2,s3⟩:=sub_facts hL hl2 (by omega:0<=1)
 obtain⟨t1,t2,t3⟩:=sub_facts (by omega:U<B64) hh2 s3
 rw[Nat.mul_comm Y] at e2
 generalize subS L l2 0=r0 at *
 generalize subC L l2 0=b at *
 generalize subS U h2 b=r1 at *
 generalize subC U h2 b=b2 at *
 have e4:(r1+h2+b)*B64=(U+b2*B64)*B64:=by rw[t1]
 simp only[Nat.add_mul] at e4
 have hr1:(r1+1)*B64<=B64*B64:=Nat.mul_le_mul_right _ t2
 rw[Nat.add_mul,Nat.one_mul] at hr1
 have hb2:b2=0:=by
  rcases Nat.le_one_iff_eq_zero_or_eq_one.1 t3 with h|h
  . exact h
  . subst h
    rw[Nat.one_mul] at e4
    have:=hg.1
    omega
 subst hb2
 rw[Nat.zero_mul,Nat.zero_mul] at e4
 exact⟨by omega,by have:=hg.2;omega,s2⟩
end Go.Proofs.YtohhkjamddojmaaGreatDoor.Big
namespace Go.Proofs.YtohhkjamddojmaaGreatDoor.Big
open Go.RowKit
theorem divWW (x1 x0 y:Nat) (hx0:x0<B64) (hy:y<B64) (hx1:x1<y) (w:World):Calls Tryz.prog 258 #[wd x1,wd x0,wd y,wd (recip y)] w (DivP (x1*B64+x0) y w):=by
 obtain⟨hs,h63,hn1,hn2⟩:=lz_facts hy (by omega)
 obtain⟨Y,U,L,Y1,Y0,d1,d0,D⟩:=DW.make h63 hx0 hx1 hn1 hn2
 have hYn:Y=nrm y:=D.yv
 obtain⟨k1,k2⟩:=recip_facts hn1 hn2
 have hm:=recip_lt hn2
 rw[<-hYn] at k1 k2
 have HN:=Lz (nlz y hy (by omega) w)
 have HK1:=Lz k1
 have HK2:=Lz k2
 have HM:=Lz hm
 have HX0:=Lz hx0
 have HSUM:=Lz (Eq.refl (x1*B64+x0))
 have w1:=D.wy
 have w2:=D.wh
 have w3:=D.wl
 have w4:=D.wu
 have w9:((x1*2^lz y:Nat):Int)=(x1:Int)*2^lz y:=by push_cast;rfl
 rw[w9] at w2 w4
 clear w9 hYn k1 k2 hm hn1 hn2 hs hx0 hy hx1
 generalize recip y=m at *
 generalize lz y=s at *
 go_enter Tryz.func258,Tryz.ntmps258
 go_wp2_with fail
 refine HN.out.mono ?_
 rintro e w1' ⟨rfl,hw⟩
 obtain rfl:w=w1':=hw.symm
 go_upto_if 26 with fail
 go_cut [0,1,2] from 27 (λa b c wx=>a=.int .u64 (U:Int)/\b=.int .u64 (L:Int)/\c=.int .u64 (Y:Int)/\wx=w)
 case first=>
  by_cases h0:s=0
  . subst h0
    obtain⟨rfl,rfl,rfl⟩:=D.zero HX0.out
    go_wp2_with fail
    go_meet
    case rel=>exact⟨rfl,rfl,rfl,rfl⟩
  . have hz:((s:Int)==0)=false:=by rw[beq_eq_false_iff_ne];omega
    clear h0
    go_wp2_with fail
    go_meet
    case rel=>exact⟨rfl,rfl,rfl,rfl⟩
 case rest=>
  obtain⟨rfl,rfl,rfl,hwc⟩:=hcut
  obtain rfl:w=wc:=hwc.symm
  clear w1 w2 w3 w4
  have hUB:U<B64:=Nat.lt_trans D.ul D.yb
  -- MAIN
  have HUB:=Lz hUB
  have HYB:=Lz D.yb
  have HLB:=Lz D.ll
  clear hUB
  go_wp2_with fail
  refine(bMul m U HM.out HUB.out w).mono ?_
  rintro e wx ⟨h,l,rfl,hw,he1,hl1,hh1⟩
  obtain rfl:w=wx:=hw
  have HE1:=Lz he1
  have HL1:=Lz hl1
  have HH1:=Lz hh1
  clear he1 hl1 hh1
  go_wp2_with fail
  refine(bAddF l L 0 HL1.out HLB.out (by omega) w).mono ?_
  rintro e wx ⟨rfl,hw⟩
  obtain rfl:w=wx:=hw.symm
  have HC1:=Lz (add_facts HL1.out HLB.out (by omega:0<=1)).2.2
  go_wp2_with fail
  refine(bAddF h U (addC l L 0) HH1.out HUB.out HC1.out w).mono ?_
  rintro e wx ⟨rfl,hw⟩
  obtain rfl:w=wx:=hw.symm
  have HQ:=Lz (add_facts HH1.out HUB.out HC1.out).2.1
  obtain⟨Q,hQ⟩:∃ Q,Q=addS h U (addC l L 0):=⟨_,rfl⟩
  rw[<-hQ] at HQ ⊢
  have HQE:=Lz hQ
  clear hQ
  go_wp2_with fail
  refine(bMul Y Q HYB.out HQ.out w).mono ?_
  rintro e wx ⟨h2,l2,rfl,hw,he2,hl2,hh2⟩
  obtain rfl:w=wx:=hw
  have HE2:=Lz he2
  have HL2:=Lz hl2
  have HH2:=Lz hh2
  clear he2 hl2 hh2
  go_wp2_with fail
  refine(bSubF L l2 0 HLB.out HL2.out (by omega) w).mono ?_
  rintro e wx ⟨rfl,hw⟩
  obtain rfl:w=wx:=hw.symm
  have HC2:=Lz (sub_facts HLB.out HL2.out (by omega:0<=1)).2.2
  go_wp2_with fail
  refine(bSubF U h2 (subC L l2 0) HUB.out HH2.out HC2.out w).mono ?_
  rintro e wx ⟨rfl,hw⟩
  obtain rfl:w=wx:=hw.symm
  have hW:=WW.make (m:=m) HYB.out D.ul HLB.out HK1.out HK2.out HE1.out HL1.out (by rw[<-HQE.out];exact HE2.out) HL2.out HH2.out
  rw[<-HQE.out] at hW
  have HR1:=Lz (sub_facts HUB.out HH2.out HC2.out).2.1
  generalize subS L l2 0=r0 at *
  generalize subS U h2 (subC L l2 0)=r1 at *
  have hYB:=HYB.out
  have hUl:=D.ul
  have hYt:B64<=2*Y:=by have:=D.top;have:=D.y1;unfold B64;unfold H32 at *;omega
  have hWe:=hW.eq
  have hWl:=hW.lt
  have hW0:=hW.r0
  have hqt:∀ q r,q*Y+r=U*B64+L->q<B64:=λq r e=>by
   refine Classical.byContradiction λhn=>?_
   have h5:B64*Y<=q*Y:=Nat.mul_le_mul_right _ (by omega)
   have h6:(U+1)*B64<=Y*B64:=Nat.mul_le_mul_right _ hUl
   rw[Nat.add_mul,Nat.one_mul] at h6
   rw[Nat.mul_comm B64] at h5
   have:=HLB.out
   omega
  have mul1:∀ q,(q+1)*Y=q*Y+Y:=λq=>by rw[Nat.add_mul,Nat.one_mul]
  clear hW
  by_cases hr1:r1=0
  . subst hr1
    rw[Nat.zero_mul,Nat.add_zero] at hWe hWl
    by_cases hge:Y<=r0
    . obtain⟨r',hr'⟩:∃ r',r'=r0-Y:=⟨_,rfl⟩
      obtain⟨Q1,hQ1⟩:∃ Q1,Q1=Q+1:=⟨_,rfl⟩
      have eF:Q1*Y+r'=U*B64+L:=by rw[hQ1,mul1];omega
      have g1:(Y:Int)<=(r0:Int):=by omega
      have g2:IntKind.u64.wrap ((r0:Int)-(Y:Int))=(r':Int):=by rw[<-Int.ofNat_sub hge,<-hr',zxx,Nat.mod_eq_of_lt (by omega)]
      have g3:IntKind.u64.wrap ((Q:Int)+1)=(Q1:Int):=by rw[show(Q:Int)+1=((Q+1:Nat):Int) by omega,<-hQ1,zxx,Nat.mod_eq_of_lt (hqt _ _ eF)]
      have HF:=Lz (D.fin eF (by omega))
      clear hr' hQ1 eF
      clear hWe hWl hW0 hqt mul1 hYB hUl hYt hge
      go_wp2_with fail
      go_ret2
      refine⟨?_,0,rfl⟩
      rw[<-HF.out.1,<-HF.out.2]
      rfl
    . have g1:¬(Y:Int)<=(r0:Int):=by omega
      have HF:=Lz (D.fin hWe (by omega))
      clear hWe hWl hW0 hqt mul1 hYB hUl hYt hge
      go_wp2_with fail
      go_ret2
      refine⟨?_,0,rfl⟩
      rw[<-HF.out.1,<-HF.out.2]
      rfl
  . have hr1':r1=1:=by
     refine Classical.byContradiction λhn=>?_
     have:2*B64<=r1*B64:=Nat.mul_le_mul_right _ (by omega)
     omega
    subst hr1'
    rw[Nat.one_mul] at hWe hWl
    obtain⟨r',hr'⟩:∃ r',r'=r0+B64-Y:=⟨_,rfl⟩
    obtain⟨Q1,hQ1⟩:∃ Q1,Q1=Q+1:=⟨_,rfl⟩
    have eF:Q1*Y+r'=U*B64+L:=by rw[hQ1,mul1];omega
    have g2:IntKind.u64.wrap ((r0:Int)-(Y:Int))=(r':Int):=by
     rw[IntKind.wrap_u64];unfold B64 at *;omega
    have g3:IntKind.u64.wrap ((Q:Int)+1)=(Q1:Int):=by rw[show(Q:Int)+1=((Q+1:Nat):Int) by omega,<-hQ1,zxx,Nat.mod_eq_of_lt (hqt _ _ eF)]
    by_cases hge:Y<=r'
    . obtain⟨r'',hr''⟩:∃ r'',r''=r'-Y:=⟨_,rfl⟩
      obtain⟨Q2,hQ2⟩:∃ Q2,Q2=Q1+1:=⟨_,rfl⟩
      have eF2:Q2*Y+r''=U*B64+L:=by rw[hQ2,mul1];omega
      have g1:(Y:Int)<=(r':Int):=by omega
      have g4:IntKind.u64.wrap ((r':Int)-(Y:Int))=(r'':Int):=by rw[<-Int.ofNat_sub hge,<-hr'',zxx,Nat.mod_eq_of_lt (by omega)]
      have g5:IntKind.u64.wrap ((Q1:Int)+1)=(Q2:Int):=by rw[show(Q1:Int)+1=((Q1+1:Nat):Int) by omega,<-hQ2,zxx,Nat.mod_eq_of_lt (hqt _ _ eF2)]
      have HF:=Lz (D.fin eF2 (by omega))
      clear hr'' hQ2 eF2
      clear hr' hQ1 eF
      clear hWe hWl hW0 hqt mul1 hYB hUl hYt hge
      go_wp2_with fail
      go_ret2
      refine⟨?_,0,rfl⟩
      rw[<-HF.out.1,<-HF.out.2]
      rfl
    . have g1:¬(Y:Int)<=(r':Int):=by omega
      have HF:=Lz (D.fin eF (by omega))
      clear hr' hQ1 eF
      clear hWe hWl hW0 hqt mul1 hYB hUl hYt hge
      go_wp2_with fail
      go_ret2
      refine⟨?_,0,rfl⟩
      rw[<-HF.out.1,<-HF.out.2]
      rfl
end Go.Proofs.YtohhkjamddojmaaGreatDoor.Big
