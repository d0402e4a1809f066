/- Rest of the specification's great numbers. -/
import Derived.Test.YtohhkjamddojmaaGreatDoorBJ
import Derived.StillTailTactics
set_option maxRecDepth 100000
set_option maxHeartbeats 16000000
namespace Go.Proofs.YtohhkjamddojmaaGreatDoor.Big
open Go.RowKit
theorem shift_more {T j:Nat} (hT:1<=T) (h:T*2^j<32768):j+1<=15/\T*2^(j+1)<65536:=by
 have e:T*2^(j+1)=T*2^j*2:=by rw[Nat.pow_succ,Nat.mul_assoc]
 refine⟨?_,by omega⟩
 apply Nat.le_of_not_lt
 intro hn
 have h1:=Nat.pow_le_pow_right (show 0<2 by decide) (show 15<=j by omega)
 have h2:=Nat.mul_le_mul_right (2^j) hT
 omega
theorem RowI.blk {w:World} {b o c:Nat} {xs:List Nat} (h:RowI w (some ⟨b,o,.none⟩) c xs) (h0:0<xs.length):b<w.heap.size:=
 World.block_lt_of_cell? w ⟨b,o+0,.none⟩ (h.2.2.2 b o rfl 0 h0)
theorem shr_nat (t s:Nat):(t:Int)/2^s=((t/2^s:Nat):Int):=by
 rw[Int.natCast_ediv,Int.natCast_pow];rfl
theorem rest_digit {a b j:Nat} (hj:j<=15) (ha:a<65536) (hb:b<65536):a*2^j+b/2^(16-j)<65536*65536/\b/2^(16-j)<2^j:=by
 have h1:=sh16_low (x:=b) hj hb
 have h2:2^j<=2^15:=Nat.pow_le_pow_right (by decide) hj
 have h3:=Nat.mul_le_mul (Nat.le_of_lt ha) h2
 refine⟨by omega,h1⟩
theorem mod_join {x a B:Nat} (h:x%B+a<B):(x+a)%B=x%B+a:=by
 have e:=Nat.mod_add_div x B
 rw[show x+a=x%B+a+B*(x/B) by omega,Nat.add_mul_mod_self_left,Nat.mod_eq_of_lt h]
def boN:Value->Nat
 | .bool true=>1
 | _=>0
theorem boN_le (v:Value):boN v<=1:=by unfold boN;split <;> decide
theorem restS (p p2:Option Addr) (c c2 A M:Nat) (w:World) (h:RowI w p c (bd A)) (h2:RowI w p2 c2 (bd M)) (hM:0<M) (hA:(bd A).length<=100000) (hB:(bd M).length<=100000):Calls Tryz.prog 109 #[.slice p (bd A).length c,.slice p2 (bd M).length c2] w (BigP (A%M) w):=by
 obtain⟨i0,hi,hz0,hz1,hz2⟩:=info_parts info3
 obtain⟨X,hX⟩:∃ X,X=bd A:=⟨_,rfl⟩
 have vA:bval X=A:=by rw[hX];exact bval_bd A
 have hwX:Wb X:=by rw[hX];exact bd_words A
 have hne:bd M≠[]:=λe=>by have:=bd_eq_nil.1 e;omega
 have hl0:=List.length_pos_iff.2 hne
 obtain⟨l1,hl1⟩:∃ l1,(bd M).length=l1+1:=⟨(bd M).length-1,by omega⟩
 obtain⟨b2,o2,rfl⟩:=h2.2.2.1 hl0
 have ct:=h2.2.2.2 b2 o2 rfl l1 (by omega)
 obtain⟨T,hT⟩:∃ T,T=(bd M).getD l1 0:=⟨_,rfl⟩
 rw[<-hT] at ct
 have T1:1<=T:=by rw[hT];exact top_pos hl1
 have TB:T<65536:=by rw[hT];exact(bd_words M).getD l1
 rw[<-hX] at h hA ⊢
 obtain⟨n,hn⟩:∃ n,n=X.length:=⟨_,rfl⟩
 obtain⟨m,hm⟩:∃ m,m=(bd M).length:=⟨_,rfl⟩
 have HL:=Lz (show n<=100000/\l1<=100000/\m=l1+1 from by omega)
 have H:=Lz (And.intro h (And.intro h2 (And.intro hwX (And.intro hn (And.intro hm (And.intro vA (And.intro hl1 (And.intro hT hM))))))))
 have HT:=Lz (And.intro T1 TB)
 have SF:=Lz (λ(j:Nat) (hj:j<=15)=>(hm ▸ shiftedS (some ⟨b2,o2,.none⟩) c2 M j w h2 (by omega) hj:Calls Tryz.prog 146 #[.slice (some ⟨b2,o2,.none⟩) m c2,.int .i64 j] w (BigP (M*2^j) w)))
 have W1:=Lz (show wrap64 ((m:Int)-1)=(l1:Int) from wrapN (by omega) (by omega))
 have i2:(l1:Int)<m:=by omega
 rw[<-hn,<-hm]
 clear h h2 vA hwX hne hl0 hl1 hT T1 TB hA hB hn hm hX hM
 go_enter Tryz.func109,Tryz.ntmps109
 go_wp2_with fail
 go_loopw [5] (λs5 wr=>∃ j:Nat,s5=.int .i64 (j:Nat)/\wr=w/\RowKit.Hid (j<=15/\T*2^j<65536)) (λs5 _=>(16-intOf s5).toNat)
 case atStart=>exact⟨0,rfl,rfl,⟨by decide,by have:=HT.out;omega⟩⟩
 case round=>
  obtain⟨j,rfl,hw0,HR⟩:=hrel
  obtain rfl:=hw0.symm
  obtain⟨t,ht⟩:∃ t,t=T*2^j:=⟨_,rfl⟩
  have j0:(0:Int)<=j:=by omega
  have j1:(j:Int)<=15:=by have:=HR.out;omega
  have tB:t<65536:=by rw[ht];exact HR.out.2
  have SHL:=Lz (show wrap64 ((T:Int)*2^j)=(t:Int) from wrapN (by rw[ht,Int.natCast_mul,Int.natCast_pow];rfl) (by omega))
  have HJ:=Lz ht
  clear ht
  have q1:=W1.out
  have q2:=SHL.out
  by_cases hlt:t<32768
  . have i4:(t:Int)<32768:=by omega
    clear hlt
    go_wp2_with fail
    go_roundw
    case rel=>exact⟨j+1,by first|rfl|go_num|exact congrArg (Value.int .i64) (wrapN (by omega) (by omega)),by first|rfl|trivial,shift_more HT.out.1 (by rw[<-HJ.out];omega)⟩
    case measure=>
     simp only[intOf]
     first|omega|(rw[show wrap64 ((j:Int)+1)=((j+1:Nat):Int) from wrapN (by omega) (by omega)];omega)
  . have i4:decide ((t:Int)<32768)=false:=by rw[decide_eq_false_iff_not];omega
    have HB:=Lz hlt
    clear hlt
    go_wp2_with fail
    have HTS:=Lz (show j<=15/\(bd (M*2^j)).length=l1+1 from⟨HR.out.1,by
     have e:=HJ.out
     have e2:=H.out.2.2.2.2.2.2.2.1
     exact(top_shift H.out.2.2.2.2.2.2.1 (by rw[<-e2,<-e];have:=HB.out;omega) (by rw[<-e2,<-e];exact tB) HR.out.1).1⟩)
    have HTT:=Lz (show 32768<=(bd (M*2^j)).getD l1 0 from by
     have e:=HJ.out
     have e2:=H.out.2.2.2.2.2.2.2.1
     exact(top_shift H.out.2.2.2.2.2.2.1 (by rw[<-e2,<-e];have:=HB.out;omega) (by rw[<-e2,<-e];exact tB) HR.out.1).2)
    refine(SF.out j HR.out.1).mono ?_
    rintro e w1 ⟨p3,c3,rfl,r3,g1⟩
    obtain⟨M',hM'⟩:∃ M',M'=M*2^j:=⟨_,rfl⟩
    rw[<-hM'] at r3 HTS HTT ⊢
    obtain⟨k,hk⟩:∃ k,k=(bd M').length:=⟨_,rfl⟩
    have hkl:k=l1+1:=by rw[hk,HTS.out.2]
    obtain⟨b3,o3,rfl⟩:=r3.2.2.1 (by omega)
    obtain⟨N,hN⟩:∃ N,N=k+1:=⟨_,rfl⟩
    have HK:=Lz (show k=(bd M').length/\k=l1+1/\N=k+1/\M'=M*2^j/\b3<w1.heap.size/\0<M' from⟨hk,hkl,hN,hM',r3.blk (by omega),by rw[hM'];exact Nat.mul_pos H.out.2.2.2.2.2.2.2.2 (Nat.pow_pos (by decide))⟩)
    have W2:=Lz (show wrap64 ((k:Int)+1)=(N:Int) from wrapN (by omega) (by have:=HL.out;omega))
    have HG1:=Lz g1
    have R3:=Lz r3
    have hmk:=mkN w1 (N:=N) (by have:=HL.out;omega)
    rw[<-hk]
    clear q1 q2 i4 HB HJ SHL ct r3 g1 hM' hk hkl hN tB SF W1 i2
    have q2:=W2.out
    go_wp2_with fail
    clear hmk q2
    have HD:=Lz (dig_new w1 (List.replicate N 0))
    have HG:=Lz (zzy w1 (.cells (dgs (List.replicate N 0)) 3) .none)
    generalize w1.alloc (.cells (dgs (List.replicate N 0)) 3)=w2 at *
    have HSZ:=Lz (Nat.le_refl w1.heap.size)
    generalize hgs:w1.heap.size=g at *
    try simp only[W2.out]
    go_loopw [8] (λs8 wq=>∃ (I:Nat) (rs:List Nat),s8=.int .i64 ((I:Int)-1)/\DigB wq g rs/\w1.grownBy wq .none/\RowKit.Hid (I<=n+1/\rs.length=N/\Wb rs/\bval rs=RT X j I%M')) (λs8 _=>(intOf s8+1).toNat)
    case atStart=>exact⟨n+1,_,congrArg (Value.int .i64) (by omega),HD.out,HG.out,⟨Nat.le_refl _,List.length_replicate,λx hx=>by rw[List.eq_of_mem_replicate hx];exact B16_pos,by rw[bval_zeros,H.out.2.2.2.1,RT_end,Nat.zero_mod]⟩⟩
    case round=>
     obtain⟨I,rs,rfl,hdb,hg,HR2⟩:=hrel
     rcases I with _|i
     . as_aux_lemma=>
        have e8:((0:Nat):Int)-1=-1:=by omega
        rw[e8]
        have HE:=Lz (show rs.length=N/\Wb rs/\bval rs<M'/\bval rs/2^j=A%M from by
         obtain⟨-,b2,b3,b4⟩:=HR2.out
         have hk:=HK.out
         refine⟨b2,b3,by rw[b4];exact Nat.mod_lt _ hk.2.2.2.2.2,?_⟩
         rw[b4,RT_zero,H.out.2.2.2.2.2.1,hk.2.2.2.1]
         exact rest_fin A M j)
        have HDR:=Lz hdb
        have HGR:=Lz hg
        have hmk:=mkN wr (N:=k) (by have:=HL.out;have:=HK.out;omega)
        have HW:=Lz hdb.lt
        clear hdb hg HR2 HD HG e8
        go_wp2_with fail
        clear hmk
        have HO:=Lz (dig_new wr (List.replicate k 0))
        have HD3:=Lz (HDR.out.kept (zzy wr (.cells (dgs (List.replicate k 0)) 3) .none) (by simp))
        have HG3:=Lz (zzx HGR.out (zzy wr (.cells (dgs (List.replicate k 0)) 3) .none))
        generalize wr.alloc (.cells (dgs (List.replicate k 0)) 3)=w3 at *
        have HSZ2:=Lz (show w1.heap.size<=wr.heap.size from HGR.out.size)
        generalize hgs2:wr.heap.size=g2 at *
        have HNE:=Lz (show g≠g2 by have:=HW.out;omega)
        obtain⟨zs,hzs⟩:∃ zs,zs=List.replicate k 0:=⟨_,rfl⟩
        have hzl:zs.length=k:=by rw[hzs];exact List.length_replicate
        rw[<-hzs] at HO
        have HZ:=Lz hzl
        clear hzs hzl
        go_loopw [110] (λs110 wq=>∃ (i:Nat) (os:List Nat),s110=.int .i64 (i:Nat)/\DigB wq g rs/\DigB wq g2 (os++zs.drop i)/\w1.grownBy wq .none/\RowKit.Hid (i<=k/\os.length=i/\Wb os/\bval os+B16^i*(bval (rs.drop i)/2^j)=A%M)) (λs110 _=>((k:Int)-intOf s110).toNat)
        case atStart=>exact⟨0,[],rfl,HD3.out,HO.out,HG3.out,⟨Nat.zero_le _,rfl,Wb.nil,by simp only[List.drop_zero,Nat.pow_zero,Nat.one_mul,bval_nil,Nat.zero_add];exact HE.out.2.2.2⟩⟩
        case round=>
         obtain⟨i,os,rfl,hdr,hdo,hgq,HR4⟩:=hrel
         have HDR4:=Lz hdr
         have HDO4:=Lz hdo
         have HGQ:=Lz hgq
         have hiB:i<=100001:=by have:=HR4.out.1;have:=HL.out;have:=HK.out;omega
         by_cases hik:i<k
         . have i6:(i:Int)<k:=by omega
           have i7:(i:Int)<N:=by have:=HK.out;omega
           obtain⟨i1,hi1⟩:∃ x,x=i+1:=⟨_,rfl⟩
           have i8:(i1:Int)<N:=by have:=HK.out;omega
           have W7:IntKind.i64.wrap ((i:Int)+1)=(i1:Int):=by rw[IntKind.wrap_i64];omega
           have ca:=hdr.cell i (by rw[HE.out.1];have:=HK.out;omega)
           have cb:=hdr.cell i1 (by rw[HE.out.1];have:=HK.out;omega)
           obtain⟨a,ha⟩:∃ x,x=rs.getD i 0:=⟨_,rfl⟩
           obtain⟨b,hb⟩:∃ x,x=rs.getD i1 0:=⟨_,rfl⟩
           rw[<-ha] at ca
           rw[<-hb] at cb
           have aB:a<65536:=by rw[ha];exact HE.out.2.1.getD i
           have bB:b<65536:=by rw[hb];exact HE.out.2.1.getD i1
           obtain⟨uv,huv⟩:∃ x,x=a+b*65536:=⟨_,rfl⟩
           obtain⟨sh,hsh⟩:∃ x,x=uv/2^j:=⟨_,rfl⟩
           obtain⟨dd,hdd⟩:∃ x,x=sh%65536:=⟨_,rfl⟩
           have q1:bits .or .i64 (a:Int) ((b:Int)*65536)=(uv:Int):=by rw[huv];exact orlo16 aB bB
           have W8:IntKind.i64.wrap ((b:Int)*65536)=(b:Int)*65536:=by rw[IntKind.wrap_i64];omega
           have q2:(uv:Int)/2^j=(sh:Int):=by rw[hsh];exact shr_nat uv j
           have hshB:sh<=uv:=by rw[hsh];exact Nat.div_le_self _ _
           have q3:bits .and .i64 (sh:Int) 65535=(dd:Int):=by rw[hdd];exact and16 sh (by omega)
           have HN:=Lz (show i1<=k/\(os ++ [dd]).length=i1/\Wb (os ++ [dd])/\bval (os ++ [dd])+B16^i1*(bval (rs.drop i1)/2^j)=A%M from by
            subst hi1
            obtain⟨c1,c2,c3,c4⟩:=HR4.out
            refine⟨hik,by rw[List.length_append,c2];rfl,c3.append (Wb.one (by rw[hdd];exact Nat.mod_lt _ (by decide))),?_⟩
            exact back_step HTS.out.1 HE.out.2.1 c2 c4 (by rw[hdd,hsh,huv,ha,hb,Nat.mul_comm B16];rfl))
           have HI1:=Lz hi1
           clear ha hb hi1 huv hsh hdd hshB hdr hdo hgq
           go_upto_region 28 with fail
           go_still_tail 17,(by kernel_rfl)
           change wpList _ _ _ _ _ wr.drew
           have HD5:=Lz (show DigB wr.drew g2 (os++zs.drop i) from HDO4.out.kept (zxj wr .none) (by simp))
           have HR5:=Lz (show DigB wr.drew g rs from HDR4.out.kept (zxj wr .none) (by simp))
           have HG5:=Lz (zzx HGQ.out (zxj wr .none))
           generalize wr.drew=w5 at *
           have f1:=HD5.out.free i
           have f0:=HD5.out.cell i (by rw[List.length_append,HR4.out.2.1,List.length_drop,HZ.out];omega)
           have HF:=Lz (show DigB (w5.setCell ⟨g2,i,.none⟩ (.int .i64 (dd:Nat))) g rs/\DigB (w5.setCell ⟨g2,i,.none⟩ (.int .i64 (dd:Nat))) g2 ((os ++ [dd])++zs.drop i1)/\w1.grownBy (w5.setCell ⟨g2,i,.none⟩ (.int .i64 (dd:Nat))) .none from by
            refine⟨HR5.out.kept (zzw w5 g2 i _) (by simp;exact HNE.out),?_,grown_new HG5.out (zzw w5 g2 i _) (by have:=HSZ2.out;omega)⟩
            have:=HD5.out.set i dd
            rw[HI1.out]
            rw[set_part HR4.out.2.1 (by rw[HZ.out];exact hik)] at this
            exact this)
           clear ca cb
           go_wp2_with fail
           go_roundw
           case rel=>exact⟨i1,os ++ [dd],by first|rfl|go_num|exact congrArg (Value.int .i64) (wrapN (by have:=HI1.out;omega) (by omega)),HF.out.1,HF.out.2.1,HF.out.2.2,HN.out⟩
           case measure=>
            have:=HN.out.1
            have:=HI1.out
            simp only[intOf]
            first|omega|(rw[show wrap64 ((i:Int)+1)=((i+1:Nat):Int) from wrapN (by omega) (by omega)];omega)
         . have i6:¬(i:Int)<k:=by omega
           have hrow:=hdo.row (c:=k) (by rw[List.length_append,HR4.out.2.1,List.length_drop,HZ.out];have:=HR4.out.1;omega) (by have:=HL.out;have:=HK.out;unfold maxLen;omega)
           obtain⟨c1,c2,c3,c4⟩:=HR4.out
           have hik2:i=k:=by omega
           have hzd:zs.drop i = []:=List.drop_of_length_le (by rw[HZ.out];omega)
           rw[hzd,List.append_nil] at hrow
           have hbv:bval os=A%M:=by
            have hk:=HK.out
            have hlt:bval rs<B16^k:=Nat.lt_of_lt_of_le HE.out.2.2.1 (by
             have:=(bd_length (n:=M') (k:=k)).1 (by omega)
             omega)
            obtain⟨z1,-⟩:=top_zero (rs:=rs) (k:=k) (by rw[HE.out.1];exact hk.2.2.1) hlt
            have hd1:bval (rs.drop k)=0:=by
             rw[bval_drop,z1,List.drop_of_length_le (by rw[HE.out.1];omega),bval_nil,Nat.mul_zero]
            rw[hik2,hd1,Nat.zero_div,Nat.mul_zero,Nat.add_zero] at c4
            exact c4
           have hbn:=bnorm_bd os c3
           rw[hbv] at hbn
           have HTr:=Lz (trimS (some ⟨g2,0,.none⟩) k os wr hrow)
           rw[hbn,c2,hik2] at HTr
           have HF:=Lz (show ∀ wx,wx=wr->BigP (A%M) w (.returned (.slice (some ⟨g2,0,.none⟩) (bd (A%M)).length k)) wx from λwx hwx=>by
            subst hwx
            have:=bnorm_take os
            rw[hbn] at this
            refine⟨_,_,rfl,?_,zzx HG1.out HGQ.out⟩
            rw[<-this]
            exact hrow.take _)
           clear c1 c2 c3 c4 hbv hbn hrow hzd hik2 hdr hdo hgq hik
           go_wp2_with fail
           refine HTr.out.mono ?_
           rintro e wz ⟨rfl,hw⟩
           have HEE:=Lz (HF.out _ hw)
           clear hw
           go_wp2_with fail
           go_ret
           exact HEE.out
     . have e8:((i+1:Nat):Int)-1=(i:Int):=by omega
       rw[e8]
       have i5:decide ((i:Int)>=0)=true:=by rw[decide_eq_true_iff];omega
       have i5':(0:Int)<=i:=by omega
       have HD2:=Lz hdb
       have HG2:=Lz hg
       obtain⟨hi',hhi⟩:∃ x,x=X.getD i 0:=⟨_,rfl⟩
       obtain⟨lo,hlo⟩:∃ x,x=if i=0 then 0 else X.getD (i-1) 0:=⟨_,rfl⟩
       have hiB:hi'<65536:=by rw[hhi];exact H.out.2.2.1.getD i
       have loB:lo<65536:=by
        rw[hlo]
        split
        . decide
        . exact H.out.2.2.1.getD _
       have HX:=Lz (And.intro hhi hlo)
       have iB:(i:Int)<=100000:=by have:=HR2.out.1;have:=HL.out.1;omega
       clear hhi hlo hdb hg e8
       go_upto_if 43 with fail
       go_cut [9] from 36 to 105 (λv wx=>v=.int .i64 (hi':Nat)/\wx=wr)
       case first=>
        as_aux_lemma=>
         by_cases hin:i<n
         . have i6:(i:Int)<n:=by omega
           obtain⟨bk,ok,rfl⟩:=H.out.1.2.2.1 (by have:=H.out;omega)
           have ck:=(H.out.1.kept (zzx HG1.out HG2.out)).2.2.2 bk ok rfl i (by have:=H.out;omega)
           rw[<-HX.out.1] at ck
           go_wp2_with fail
           go_meet
           exact⟨rfl,rfl⟩
         . have i6:¬(i:Int)<n:=by omega
           have hz:hi'=0:=by rw[HX.out.1,List.getD,List.getElem?_eq_none (by have:=H.out;omega)];rfl
           go_wp2_with fail
           go_meet
           exact⟨by rw[hz];rfl,rfl⟩
       case rest=>
        as_aux_lemma=>
         obtain⟨rfl,rfl⟩:=hcut
         go_upto_if 49 with fail
         go_cut [10] from 36 to 105 (λv wx=>v=.int .i64 (lo:Nat)/\wx=wc)
         case first=>
          as_aux_lemma=>
           by_cases hin:0<i
           . have i6:(0:Int)<i:=by omega
             have i7:(1:Int)<=i:=by omega
             have hlo:lo=X.getD (i-1) 0:=by rw[HX.out.2,if_neg (by omega)]
             have i8:(i:Int)-1<n:=by have:=HR2.out.1;omega
             obtain⟨bk,ok,rfl⟩:=H.out.1.2.2.1 (by have:=H.out;omega)
             have ck:=(H.out.1.kept (zzx HG1.out HG2.out)).2.2.2 bk ok rfl (i-1) (by have:=H.out;omega)
             rw[<-hlo] at ck
             clear hlo
             go_wp2_with fail
             go_meet
             exact⟨rfl,rfl⟩
           . have i6:¬(0:Int)<i:=by omega
             have hz:lo=0:=by rw[HX.out.2,if_pos (by omega)]
             go_wp2_with fail
             go_meet
             exact⟨by rw[hz];rfl,rfl⟩
         case rest=>
          as_aux_lemma=>
           obtain⟨rfl,rfl⟩:=hcut
           have kN:N=k+1:=HK.out.2.2.1
           subst kN
           obtain⟨w3,hcp,hd3,hg3⟩:=copy_digs (HD2.out.kept (zxj wc .none) (by simp)) (k:=k) HR2.out.2.1 k (k+1)
           have HD3:=Lz hd3
           have HG3:=Lz (grown_new (zzx HG2.out (zxj wc .none)) hg3 (by rw[hgs];exact Nat.le_refl _))
           have i9:(1:Int)<=(k:Int)+1:=by omega
           have i10:(k:Int)<=(k:Int)+1:=by omega
           have i11:¬k=0:=by have:=HK.out;omega
           clear hd3 hg3
           go_upto_region 15 with fail
           go_cut [] from 36 to 105 (λwx=>wx=w3)
           case first=>
            as_aux_lemma=>
             go_region_law (refine step_copy_run rfl (.tmp 56) (.tmp 59) 36 36 rfl _ _ _ _ hcp (by simp[Act.eval,Act.put]) (by simp[Act.eval,Act.put]) ?_)
             all_goals
              go_wp2_with fail
              go_meet
              rfl
           case rest=>
            as_aux_lemma=>
             subst hcut
             clear hcp
             obtain⟨rs3,hrs3⟩:∃ rs3,rs3=rs.getD 0 0 :: rs.take k:=⟨_,rfl⟩
             have hl3:rs3.length=k+1:=by rw[hrs3,List.length_cons,List.length_take,HR2.out.2.1];omega
             have HD4:=Lz (show DigB wc g rs3 from by rw[hrs3];exact HD3.out)
             have q1:=HD4.out.free 0
             have q0:=HD4.out.cell 0 (by omega)
             obtain⟨dd,hdd⟩:∃ d,d=(hi'*2^j+lo/2^(16-j))%65536:=⟨_,rfl⟩
             have hRD:=rest_digit HTS.out.1 hiB loB
             have HDD:=Lz (And.intro hdd (And.intro hrs3 hl3))
             have W6:=Lz (show wrap64 ((hi':Int)*2^j)=(hi':Int)*2^j from by
              have e:(hi':Int)*2^j=((hi'*2^j:Nat):Int):=by rw[Int.natCast_mul,Int.natCast_pow];rfl
              rw[e]
              exact wrapN rfl (Nat.lt_trans (Nat.lt_of_le_of_lt (Nat.le_add_right _ _) hRD.1) (by decide)))
             obtain⟨s',hs'⟩:∃ s',s'=16-j:=⟨_,rfl⟩
             have hjj:=HTS.out.1
             have W7':wrap64 (16-(j:Int))=(s':Int):=wrapN (by omega) (by omega)
             have W7:IntKind.i64.wrap (16-(j:Int))=(s':Int):=by rw[IntKind.wrap_i64];omega
             obtain⟨lq,hlq⟩:∃ q,q=lo/2^s':=⟨_,rfl⟩
             have W8:(lo:Int)/2^s'=(lq:Int):=by rw[hlq];exact shr_nat lo s'
             rw[<-hs',<-hlq] at hRD hdd
             obtain⟨tt,htt⟩:∃ q,q=lq+hi'*2^j:=⟨_,rfl⟩
             have W9:bits .or .i64 ((hi':Int)*2^j) (lq:Int)=(tt:Int):=by rw[htt];exact orhi (by omega) hRD.2 hiB
             have W10:bits .and .i64 (tt:Int) 65535=(dd:Int):=by rw[and16 tt (by omega),hdd,htt,Nat.add_comm]
             have s0:(0:Int)<=s':=by omega
             have s1:(s':Int)<=16:=by omega
             have q6:=W6.out
             clear hs' hlq htt hRD hdd hjj hrs3
             go_upto_region 16 with fail
             go_cut [] from 36 to 105 (λwx=>DigB wx g (rs3.set 0 dd)/\w1.grownBy wx .none)
             case first=>
              as_aux_lemma=>
               go_still_tail 11,(by kernel_rfl)
               change wpList _ _ _ _ _ wc.drew
               have HD5:=Lz (show DigB wc.drew g rs3 from HD4.out.kept (zxj wc .none) (by simp))
               have HG5:=Lz (zzx HG3.out (zxj wc .none))
               generalize wc.drew=w5 at *
               have q1:=HD5.out.free 0
               have q0:=HD5.out.cell 0 (by have:=HDD.out;omega)
               have HF:=Lz (show DigB (w5.setCell ⟨g,0,.none⟩ (.int .i64 (dd:Nat))) g (rs3.set 0 dd)/\w1.grownBy (w5.setCell ⟨g,0,.none⟩ (.int .i64 (dd:Nat))) .none from⟨HD5.out.set 0 dd,grown_new HG5.out (zzw w5 g 0 _) (by rw[hgs];exact Nat.le_refl _)⟩)
               go_wp2_with fail
               go_meet
               exact HF.out
             case rest=>
              as_aux_lemma=>
               obtain⟨hd5,hg5⟩:=hcut
               have HD5:=Lz hd5
               have HG5:=Lz hg5
               obtain⟨T',hT'⟩:∃ T',T'=RT X j i:=⟨_,rfl⟩
               have HM:=Lz (show(rs3.set 0 dd).length=k+1/\Wb (rs3.set 0 dd)/\bval (rs3.set 0 dd)%M'=T'%M' from by
                obtain⟨a1,a2,a3⟩:=HDD.out
                obtain⟨b1,b2,b3,b4⟩:=HR2.out
                obtain⟨e1,e2⟩:=RT_step (a:=X) (n:=j) i HTS.out.1 H.out.2.2.1
                rw[<-HX.out.1,<-HX.out.2] at e1 e2
                have hk:=HK.out
                have hlt:bval rs<B16^k:=Nat.lt_of_lt_of_le (by rw[b4];exact Nat.mod_lt _ hk.2.2.2.2.2) (by
                 have:=(bd_length (n:=M') (k:=k)).1 (by omega)
                 omega)
                obtain⟨z1,z2⟩:=top_zero b2 hlt
                have hs:rs3.set 0 dd=dd :: rs.take k:=by rw[a2];rfl
                have hdv:dd=hi'*2^j%B16+lo/2^(16-j):=by rw[a1];exact mod_join e2
                refine⟨by rw[List.length_set,a3],?_,?_⟩
                . rw[hs]
                  intro x hx
                  rcases List.mem_cons.1 hx with rfl|hx
                  . rw[a1];exact Nat.mod_lt _ (by decide)
                  . exact b3.take _ x hx
                . rw[hs,show bval (dd :: rs.take k)=dd+B16*bval (rs.take k) from rfl,z2,Nat.add_comm,Nat.mul_comm]
                  rw[hT',hdv]
                  exact rest_mod b4 e1)
               generalize rs3.set 0 dd=rs4 at *
               clear hd5 hg5 HD3 HD4 HD2 q0 q1
               go_wp2_with fail
               go_loopw [11] (λs11 wq=>∃ (more:Bool) (os:List Nat),s11=.bool more/\DigB wq g os/\w1.grownBy wq .none/\RowKit.Hid (os.length=k+1/\Wb os/\bval os%M'=T'%M'/\(more=false->bval os<M'))) (λs11 wq=>digN wq g*2+boN s11)
               case atStart=>exact⟨true,rs4,rfl,HD5.out,HG5.out,⟨HM.out.1,HM.out.2.1,HM.out.2.2,by simp⟩⟩
               case round=>
                obtain⟨more,os,rfl,hdb,hg,HR3⟩:=hrel
                have HD6:=Lz hdb
                have HG6:=Lz hg
                clear hdb hg
                cases more
                . have hlt:=HR3.out.2.2.2 rfl
                  have HF:=Lz (show i<=n+1/\os.length=k+1/\Wb os/\bval os=RT X j i%M' from⟨by have:=HR2.out.1;omega,HR3.out.1,HR3.out.2.1,by rw[<-hT',<-HR3.out.2.2.1,Nat.mod_eq_of_lt hlt]⟩)
                  clear hlt
                  go_wp2_with fail
                  go_roundw
                  case rel=>first|exact⟨i,os,by first|rfl|exact congrArg (Value.int .i64) (by unfold wrap64;omega),HD6.out,HG6.out,HF⟩|exact⟨i,by first|rfl|omega,os,HD6.out,HG6.out,HF⟩
                  case measure=>
                   simp only[intOf]
                   first|omega|(unfold wrap64;omega)
                . have rkB:=HR3.out.2.1.getD k
                  have rlB:=HR3.out.2.1.getD (k-1)
                  have mtB:=(bd_words M').getD (k-1)
                  have ck:=HD6.out.cell k (by have:=HR3.out.1;omega)
                  have cl:=HD6.out.cell (k-1) (by have:=HR3.out.1;omega)
                  have cm:=(R3.out.kept HG6.out).2.2.2 b3 o3 rfl (k-1) (by have:=HK.out.1;omega)
                  have hmt:32768<=(bd M').getD (k-1) 0:=by have:=HTT.out;have h2:=HK.out.2.1;rw[h2];exact this
                  obtain⟨rk,hrk⟩:∃ x,x=os.getD k 0:=⟨_,rfl⟩
                  obtain⟨rl,hrl⟩:∃ x,x=os.getD (k-1) 0:=⟨_,rfl⟩
                  obtain⟨mt,hmt'⟩:∃ x,x=(bd M').getD (k-1) 0:=⟨_,rfl⟩
                  rw[<-hrk] at ck rkB
                  rw[<-hrl] at cl rlB
                  rw[<-hmt'] at cm mtB hmt
                  rw[show B16=65536 from rfl] at rkB rlB mtB
                  obtain⟨uv,huv⟩:∃ x,x=rl+rk*65536:=⟨_,rfl⟩
                  obtain⟨q,hq⟩:∃ x,x=uv/(mt+1):=⟨_,rfl⟩
                  have OR:=Lz (orhi16 rlB rkB)
                  rw[<-huv] at OR
                  have huB:uv<65536*65536:=by omega
                  have hqB:q<=131072:=by
                   rw[hq]
                   exact Nat.le_trans (Nat.div_le_div_left (show 32769<=mt+1 by omega) (by decide)) (by omega)
                  have HQ:=Lz (And.intro hq (And.intro huv (And.intro hrk (And.intro hrl (And.intro hmt' hqB)))))
                  have k1:(1:Int)<=k:=by omega
                  have k2:(k:Int)<(k:Int)+1:=by omega
                  have k3:(k:Int)-1<(k:Int)+1:=by omega
                  have k4:(k:Int)-1<k:=by omega
                  have k5:(k:Int)<=100001:=by have:=HL.out;have:=HK.out;omega
                  have Q1:(uv:Int)/((mt:Int)+1)=(q:Int):=by rw[hq,show(mt:Int)+1=((mt+1:Nat):Int) by omega,<-Int.natCast_ediv]
                  have Q2:(uv:Int).tdiv ((mt:Int)+1)=(q:Int):=by rw[Int.tdiv_eq_ediv_of_nonneg (by omega)];exact Q1
                  have q3:=OR.out
                  have q4:((mt:Int)+1==0)=false:=by rw[beq_eq_false_iff_ne];omega
                  clear hq huv hrk hrl hmt'
                  go_upto_region 19 with fail
                  go_quiet (fail)
                  have HD7:=Lz (show DigB (wr.drewN nq) g os from HD6.out.kept (zzz wr nq .none) (by simp))
                  have HG7:=Lz (zzx HG6.out (zzz wr nq .none))
                  generalize wr.drewN nq=w7 at *
                  clear ck cl cm OR Q1 Q2 q3 q4 k1 k2 k3 k4
                  go_upto_region 20 with fail
                  go_cut [99] from 72 to 105 (λv wx=>∃ (bo:Bool) (q':Nat),v=.bool bo/\DigB wx g os/\w1.grownBy wx .none/\RowKit.Hid (q'=(if bo then 1 else q)/\q'<=131072/\q'*M'<=bval os/\(q'=0->bval os<M')))
                  case first=>
                   as_aux_lemma=>
                    by_cases hq0:q=0
                    . have q4:((q:Int)==0)=true:=by rw[hq0];rfl
                      have HQ0:=Lz hq0
                      clear hq0
                      have hrow:=HD7.out.row (c:=k+1) (by have:=HR3.out.1;omega) (by have:=HL.out;have:=HK.out;unfold maxLen;omega)
                      have hbn:=bnorm_bd os HR3.out.2.1
                      have HTr:=trimS (some ⟨g,0,.none⟩) (k+1) os w7 hrow
                      rw[hbn,HR3.out.1] at HTr
                      have hrow2:RowI w7 (some ⟨g,0,.none⟩) (k+1) (bd (bval os)):=by
                       have:=bnorm_take os
                       rw[hbn] at this
                       rw[<-this]
                       exact hrow.take _
                      have HC:=Lz (compareS (some ⟨g,0,.none⟩) (some ⟨b3,o3,.none⟩) (k+1) c3 (bval os) M' w7 hrow2 (R3.out.kept HG7.out))
                      rw[<-HK.out.1] at HC
                      have HTT2:=Lz HTr
                      clear HTr hrow hrow2 hbn
                      go_wp2_with fail
                      refine HTT2.out.mono ?_
                      rintro e wa ⟨rfl,rfl⟩
                      go_wp2_with fail
                      refine HC.out.mono ?_
                      rintro e wa ⟨rfl,d,rfl⟩
                      by_cases hlt:bval os<M'
                      . rw[sgn_lt1 hlt]
                        have HF:=Lz (show q<=131072/\q*M'<=bval os/\(q=0->bval os<M') from by rw[HQ0.out];exact⟨by decide,by omega,λ_=>hlt⟩)
                        clear hlt
                        go_wp2_with fail
                        go_meet
                        exact⟨false,q,rfl,HD7.out.kept (zzz _ d .none) (by simp),zzx HG7.out (zzz _ d .none),rfl,HF.out⟩
                      . have hsg:sgn (bval os) M'=0\/sgn (bval os) M'=1:=by
                         rcases Nat.lt_or_ge M' (bval os) with h|h
                         . exact .inr (sgn_gt1 h)
                         . exact .inl (by rw[show bval os=M' by omega];exact sgn_eq1 _)
                        have HF:=Lz (show 1<=131072/\1*M'<=bval os/\(1=0->bval os<M') from⟨by decide,by omega,by simp⟩)
                        rcases hsg with hsg|hsg
                        all_goals
                         rw[hsg]
                         clear hlt hsg
                         go_wp2_with fail
                         go_meet
                         exact⟨true,1,rfl,HD7.out.kept (zzz _ d .none) (by simp),zzx HG7.out (zzz _ d .none),rfl,HF.out⟩
                    . have q4:((q:Int)==0)=false:=by rw[beq_eq_false_iff_ne];omega
                      have HF:=Lz (show q<=131072/\q*M'<=bval os/\(q=0->bval os<M') from by
                       obtain⟨e1,e2,e3,e4,e5,e6⟩:=HQ.out
                       refine⟨e6,?_,λh=>absurd h hq0⟩
                       have hk:=HK.out
                       obtain⟨k',hk'⟩:∃ k',k=k'+1:=⟨k-1,by omega⟩
                       subst hk'
                       rw[Nat.add_sub_cancel] at e4 e5
                       have:=rest_guess (r:=os) (ms:=bd M') (k:=k') (q:=q) HR3.out.1 hk.1.symm (bd_words M') (by rw[e1,e2,e3,e4,e5,Nat.add_comm];rfl)
                       rwa [bval_bd] at this)
                      clear hq0
                      go_wp2_with fail
                      go_meet
                      exact⟨false,q,rfl,HD7.out,HG7.out,rfl,HF.out⟩
                  case rest=>
                   as_aux_lemma=>
                    obtain⟨bo,q',rfl,hd8,hg8,HR4⟩:=hcut
                    go_upto_if 99 with fail
                    go_cut [12] from 72 to 105 (λv wx=>v=.int .i64 (q':Nat)/\wx=wc)
                    case first=>
                     as_aux_lemma=>
                      have hqq:=HR4.out.1
                      cases bo
                      . go_wp2_with fail
                        go_meet
                        exact⟨by rw[hqq];rfl,rfl⟩
                      . go_wp2_with fail
                        go_meet
                        exact⟨by rw[hqq];rfl,rfl⟩
                    case rest=>
                    obtain⟨rfl,rfl⟩:=hcut
                    have HD8:=Lz hd8
                    have HG8:=Lz hg8
                    have HTK:=Lz (takeS g os (some ⟨b3,o3,.none⟩) c3 M' q' wc hd8 (R3.out.kept hg8) (by rintro b4 o4 e;injection e with e;injection e with e;have:=HK.out;omega) (by have:=HR3.out;have:=HL.out;have:=HK.out;omega) HR3.out.2.1 (by have:=HR3.out;have:=HK.out;omega) HR4.out.2.1 HR4.out.2.2.1)
                    rw[<-HK.out.1,HR3.out.1] at HTK
                    clear hd8 hg8 HD7 HG7
                    go_wp2_with fail
                    refine HTK.out.mono ?_
                    rintro e wb ⟨rfl,hg9,os9,hd9,hl9,hw9,he9⟩
                    have HF:=Lz (show DigB wb g os9/\w1.grownBy wb .none/\os9.length=k+1/\Wb os9/\bval os9%M'=T'%M'/\bval os9+q'*M'=bval os/\(q'=0->bval os9<M') from by
                     refine⟨hd9,grown_new HG8.out hg9 (by rw[hgs];exact Nat.le_refl _),by rw[hl9,HR3.out.1],hw9,?_,he9,λh=>?_⟩
                     . rw[<-HR3.out.2.2.1,<-he9,Nat.add_mul_mod_self_right]
                     . have:=HR4.out.2.2.2 h
                       rw[h] at he9
                       omega)
                    clear hg9 hd9 hl9 hw9 he9 HTK HQ rkB rlB hmt mtB huB hqB k5
                    by_cases hq0:q'=0
                    . have q4:decide ((q':Int)>0)=false:=by rw[decide_eq_false_iff_not];omega
                      have q5:¬(0:Int)<q':=by omega
                      have HQ0:=Lz hq0
                      clear hq0
                      go_wp2_with fail
                      go_roundw
                      case rel=>exact⟨false,os9,by first|rfl|exact congrArg Value.bool (by have:=HQ0.out;simp;omega),HF.out.1,HF.out.2.1,⟨HF.out.2.2.1,HF.out.2.2.2.1,HF.out.2.2.2.2.1,λ_=>HF.out.2.2.2.2.2.2 HQ0.out⟩⟩
                      case measure=>
                       rw[HF.out.1.num,HD6.out.num]
                       have h1:=HF.out.2.2.2.2.2.1
                       have h0:=HQ0.out
                       clear q4 q5
                       subst h0
                       rw[Nat.zero_mul,Nat.add_zero] at h1
                       rw[h1]
                       show bval os*2+0<bval os*2+1
                       omega
                    . have q4:decide ((q':Int)>0)=true:=by rw[decide_eq_true_iff];omega
                      have q5:(0:Int)<q':=by omega
                      have HQ0:=Lz hq0
                      clear hq0
                      go_wp2_with fail
                      go_roundw
                      case rel=>exact⟨true,os9,by first|rfl|exact congrArg Value.bool (by have:=HQ0.out;simp;omega),HF.out.1,HF.out.2.1,⟨HF.out.2.2.1,HF.out.2.2.2.1,HF.out.2.2.2.2.1,by simp⟩⟩
                      case measure=>
                       rw[HF.out.1.num,HD6.out.num]
                       have:=HF.out.2.2.2.2.2.1
                       have h1:=Nat.mul_le_mul (show 1<=q' by have:=HQ0.out;omega) (show 1<=M' from HK.out.2.2.2.2.2)
                       refine Nat.lt_of_le_of_lt (Nat.add_le_add_left (boN_le _) _) ?_
                       show bval os9*2+1<bval os*2+1
                       omega
end Go.Proofs.YtohhkjamddojmaaGreatDoor.Big
