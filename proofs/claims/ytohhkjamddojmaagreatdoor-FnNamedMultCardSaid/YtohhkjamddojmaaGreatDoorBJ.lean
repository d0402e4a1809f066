/- The specification's great numbers, shifted. Rest: what its walk needs. -/
import Derived.Test.YtohhkjamddojmaaGreatDoorBF
import Derived.Lib.EndianBits
import Derived.Test.YtohhkjamddojmaaGreatDoorBA
set_option maxRecDepth 100000
set_option maxHeartbeats 16000000
namespace Go.Proofs.YtohhkjamddojmaaGreatDoor.Big
open Go.RowKit
theorem orlow {s a b:Nat} (hs:s<=15) (ha:a<2^s) (hb:b<65536):bits .or .i64 (a:Int) ((b:Int)*2^s)=((a+b*2^s:Nat):Int):=by
 have h16:2^s<=2^15:=Nat.pow_le_pow_right (by decide) hs
 have hle:b*2^s<=b*2^15:=Nat.mul_le_mul_left _ h16
 have e:(b:Int)*2^s=((b*2^s:Nat):Int):=by rw[Int.natCast_mul,Int.natCast_pow];rfl
 have e2:(2:Int)^s=((2^s:Nat):Int):=by rw[Int.natCast_pow];rfl
 rw[e,bits_join_low .i64 63 (by decide) (λn h0 h1=>by rw[IntKind.wrap_i64];omega) s (a:Int) ((b*2^s:Nat):Int) (by omega) (by rw[e2];omega) (by omega) (by omega) (by rw[e2,<-Int.natCast_emod,Nat.mul_mod_left];rfl) (by omega)]
 omega
theorem shiftedS (p:Option Addr) (c:Nat) (A s:Nat) (w:World) (h:RowI w p c (bd A)) (hA:(bd A).length<=1000000) (hs:s<=15):Calls Tryz.prog 146 #[.slice p (bd A).length c,.int .i64 s] w (BigP (A*2^s) w):=by
 obtain⟨i0,hi,hz0,hz1,hz2⟩:=info_parts info3
 obtain⟨X,hX⟩:∃ X,X=bd A:=⟨_,rfl⟩
 have vA:bval X=A:=by rw[hX];exact bval_bd A
 have hwX:Wb X:=by rw[hX];exact bd_words A
 rw[<-hX] at h hA ⊢
 obtain⟨n,hn⟩:∃ n,n=X.length:=⟨_,rfl⟩
 have H:=Lz (And.intro h (And.intro hA (And.intro vA (And.intro hwX hn))))
 have h0s:(0:Int)<=s:=by omega
 have hs1:(s:Int)<=15:=by omega
 have h16:2^s<=32768:=by rw[show 32768=2^15 from rfl];exact Nat.pow_le_pow_right (by decide) hs
 have HP:=Lz (And.intro hs h16)
 rw[<-hn]
 clear h hA vA hwX hn hX h16
 go_enter Tryz.func146,Tryz.ntmps146
 go_wp2_with fail
 go_loopw [5,6,11] (λv s6 s11 wr=>∃ (i cy:Nat) (ks:List Nat),s6=.int .i64 (cy:Nat)/\s11=.int .i64 (i:Nat)/\wr.ownsRow w.heap.size 3 1 v i (ks.map i64v)/\w.grownBy wr .none/\RowKit.Hid (i<=n/\cy<2^s/\ks.length=i/\Wb ks/\bval ks+B16^i*cy=bval (X.take i)*2^s)) (λ_ _ s11 _=>((n:Int)-intOf s11).toNat)
 case atStart=>exact⟨0,0,[],rfl,rfl,World.ownsRow_nil _ _ _ _,World.grownBy.refl _ _,⟨Nat.zero_le _,Nat.pow_pos (by decide),rfl,Wb.nil,by simp[bval]⟩⟩
 case round=>
  obtain⟨i,cy,ks,rfl,rfl,hown,hg,HR⟩:=hrel
  have HO:=Lz hown
  have HG:=Lz hg
  have hsz:w.heap.size<=wr.heap.size:=hg.size
  have hj6:i+1<=1000001:=by have:=HR.out;have:=H.out;omega
  by_cases hin:i<n
  . have i1:(i:Int)<n:=by omega
    obtain⟨bk,ok,rfl⟩:=H.out.1.2.2.1 (by have:=H.out.2.2.2.2;omega)
    have ck:=(H.out.1.kept hg).2.2.2 bk ok rfl i (by have:=H.out.2.2.2.2;omega)
    obtain⟨ki,hki⟩:∃ x,x=X.getD i 0:=⟨_,rfl⟩
    rw[<-hki] at ck
    have kB:ki<65536:=by rw[hki];exact H.out.2.2.2.1.getD i
    obtain⟨t,ht⟩:∃ t,t=cy+ki*2^s:=⟨_,rfl⟩
    have tB:t<65536*2^s:=by
     have:=HR.out.2.1
     have:ki*2^s<=65535*2^s:=Nat.mul_le_mul_right _ (by omega)
     omega
    have tB2:t<65536*32768:=by have:=HP.out.2;omega
    have OR:=Lz (orlow HP.out.1 HR.out.2.1 kB)
    rw[<-ht] at OR
    obtain⟨dd,hd'⟩:∃ d,d=t%65536:=⟨_,rfl⟩
    obtain⟨cq,hq'⟩:∃ q,q=t/65536:=⟨_,rfl⟩
    have AN:=Lz (and16 t (by omega))
    have SH:=Lz (show(t:Int)/65536=(cq:Int) from by rw[hq'];omega)
    rw[<-hd'] at AN
    have HN:=Lz (show i+1<=n/\cq<2^s/\(ks ++ [dd]).length=i+1/\Wb (ks ++ [dd])/\bval (ks ++ [dd])+B16^(i+1)*cq=bval (X.take (i+1))*2^s from by
     obtain⟨r1,r2,r3,r4,r5⟩:=HR.out
     refine⟨by omega,by rw[hq'];omega,by rw[List.length_append,r3];rfl,r4.append (Wb.one (by rw[hd'];exact Nat.mod_lt _ B16_pos)),?_⟩
     rw[hd',hq']
     exact shl_step r3 r5 (by rw[ht,hki]))
    have SHL:=Lz (show wrap64 ((ki:Int)*2^s)=(ki:Int)*2^s from by
     have e:(ki:Int)*2^s=((ki*2^s:Nat):Int):=by rw[Int.natCast_mul,Int.natCast_pow];rfl
     rw[e]
     exact wrapN rfl (by omega))
    have HJ:=Lz hj6
    have q4:=SHL.out
    have q5:=OR.out
    have q6:=AN.out
    have q7:=SH.out
    clear hki hown hg HR ht hd' hq' hin tB tB2
    have hga:w.grownBy (wr.alloc (.cells #[Value.int .i64 (dd:Nat)] 3)) .none:=zzx HG.out (zzy _ _ _)
    have hoa:=owns_alloc HO.out (.cells #[Value.int .i64 (dd:Nat)] 3)
    have hsrc:∀ j u,([Value.int .i64 (dd:Nat)]:List Value)[j]? = some u->(wr.alloc (.cells #[Value.int .i64 (dd:Nat)] 3)).cell? ((⟨wr.heap.size,0,.none⟩:Addr).add j)=some u:=λj u hu=>by
     match j,hu with
     | 0,hu=>rw[<-hu];exact zwx (k:=0) (heap_alloc_new wr (.cells #[Value.int .i64 (dd:Nat)] 3)) rfl
     | j+1,hu=>simp at hu
    go_wp2_with (at_builtin;refine wpList_append_own _ rfl (.tmp 20) (.tmp 23) 36 rfl w.heap.size 3 i0 (.int .i64 0) 1 8 Tryz.underlying36 hi hz0 hz1 hz2 rfl (by decide) _ i (ks.map i64v) rfl hoa ⟨wr.heap.size,0,.none⟩ 1 1 [Value.int .i64 (dd:Nat)] rfl (by simp) hsrc (by intro u hu;rw[List.mem_singleton.1 hu];rfl) (by unfold maxLen;omega) (by omega) (Nat.le_trans hsz (by show _<=(Array.push _ _).size;rw[Array.size_push];omega)) ?_;intro v' w1 hown' hgrow hnn)
    have HO':=Lz (show w1.ownsRow w.heap.size 3 1 v' (i+1) ((ks ++ [dd]).map i64v) by rw[List.map_append];exact hown')
    have HGR:=Lz (And.intro hga hgrow)
    clear hown' hgrow hnn hga hoa hsrc
    go_wp2_with fail
    go_roundw
    case rel=>
     refine⟨i+1,cq,ks ++ [dd],by first|rfl|exact congrArg (Value.int .i64) SH.out,by first|rfl|go_num|exact congrArg (Value.int .i64) (wrapN (by omega) (by omega)),HO'.out,own_grown HO.out HGR.out.1 HGR.out.2,HN.out⟩
    case measure=>
     have:=HN.out.1
     simp only[intOf]
     first|omega|(rw[show wrap64 ((i:Int)+1)=((i+1:Nat):Int) from wrapN (by omega) (by omega)];omega)
  . have i1:¬(i:Int)<n:=by omega
    obtain⟨r1,r2,r3,r4,r5⟩:=HR.out
    have HSUM:=Lz (show bval (ks ++ [cy])=A*2^s/\Wb (ks ++ [cy])/\(ks ++ [cy]).length=i+1 from by
     refine⟨?_,r4.append (Wb.one (by have:=HP.out.2;unfold B16;omega)),by rw[List.length_append,r3];rfl⟩
     rw[bval_snoc,r3,r5,List.take_of_length_le (by have:=H.out.2.2.2.2;omega),H.out.2.2.1])
    clear r1 r2 r3 r4 r5 hin hown hg HR
    have hga:w.grownBy (wr.alloc (.cells #[Value.int .i64 (cy:Nat)] 3)) .none:=zzx HG.out (zzy _ _ _)
    have hoa:=owns_alloc HO.out (.cells #[Value.int .i64 (cy:Nat)] 3)
    have hsrc:∀ j u,([Value.int .i64 (cy:Nat)]:List Value)[j]? = some u->(wr.alloc (.cells #[Value.int .i64 (cy:Nat)] 3)).cell? ((⟨wr.heap.size,0,.none⟩:Addr).add j)=some u:=λj u hu=>by
     match j,hu with
     | 0,hu=>rw[<-hu];exact zwx (k:=0) (heap_alloc_new wr (.cells #[Value.int .i64 (cy:Nat)] 3)) rfl
     | j+1,hu=>simp at hu
    go_wp2_with (at_builtin;refine wpList_append_own _ rfl (.tmp 28) (.tmp 30) 36 rfl w.heap.size 3 i0 (.int .i64 0) 1 8 Tryz.underlying36 hi hz0 hz1 hz2 rfl (by decide) _ i (ks.map i64v) rfl hoa ⟨wr.heap.size,0,.none⟩ 1 1 [Value.int .i64 (cy:Nat)] rfl (by simp) hsrc (by intro u hu;rw[List.mem_singleton.1 hu];rfl) (by unfold maxLen;omega) (by omega) (Nat.le_trans hsz (by show _<=(Array.push _ _).size;rw[Array.size_push];omega)) ?_;intro v' w1 hown' hgrow hnn)
    have HO':=Lz (show w1.ownsRow w.heap.size 3 1 v' (i+1) ((ks ++ [cy]).map i64v) by rw[List.map_append];exact hown')
    have HGR:=Lz (And.intro hga hgrow)
    clear hown' hgrow hnn hga hoa hsrc
    obtain⟨p',c',hv,hrow⟩:=owned_row HO'.out HSUM.out.2.2.symm
    have HT:=trimS p' c' (ks ++ [cy]) w1 hrow
    rw[bnorm_bd _ HSUM.out.2.1,HSUM.out.1,HSUM.out.2.2] at HT
    rw[HSUM.out.2.2] at hv
    have HTT:=Lz HT
    have HF:=Lz (show ∀ wx,wx=w1->BigP (A*2^s) w (.returned (.slice p' (bd (A*2^s)).length c')) wx from λwx hwx=>by
     subst hwx
     refine⟨p',c',rfl,?_,own_grown HO.out HGR.out.1 HGR.out.2⟩
     have hb:=bnorm_bd _ HSUM.out.2.1
     rw[HSUM.out.1] at hb
     have:=bnorm_take (ks ++ [cy])
     rw[hb] at this
     rw[<-this]
     exact hrow.take _)
    subst hv
    clear HT hrow
    go_wp2_with fail
    refine HTT.out.mono ?_
    rintro e w2 ⟨rfl,hw⟩
    have HE:=Lz (HF.out _ hw)
    clear hw
    go_wp2_with fail
    go_ret
    exact HE.out
end Go.Proofs.YtohhkjamddojmaaGreatDoor.Big

namespace Go.Proofs.YtohhkjamddojmaaGreatDoor.Big
open Go.RowKit
theorem orhi {s a b:Nat} (hs:s<=16) (ha:a<2^s) (hb:b<65536):bits .or .i64 ((b:Int)*2^s) (a:Int)=((a+b*2^s:Nat):Int):=by
 have h16:2^s<=2^16:=Nat.pow_le_pow_right (by decide) hs
 have hle:b*2^s<=b*2^16:=Nat.mul_le_mul_left _ h16
 have e:(b:Int)*2^s=((b*2^s:Nat):Int):=by rw[Int.natCast_mul,Int.natCast_pow];rfl
 have e2:(2:Int)^s=((2^s:Nat):Int):=by rw[Int.natCast_pow];rfl
 rw[e,bits_join .i64 63 (by decide) (λn h0 h1=>by rw[IntKind.wrap_i64];omega) s ((b*2^s:Nat):Int) (a:Int) (by omega) (by rw[e2,<-Int.natCast_emod,Nat.mul_mod_left];rfl) (by omega) (by omega) (by rw[e2];omega) (by omega)]
 omega
theorem orhi16 {a b:Nat} (ha:a<65536) (hb:b<65536):bits .or .i64 ((b:Int)*65536) (a:Int)=((a+b*65536:Nat):Int):=orhi (s:=16) (Nat.le_refl _) ha hb
theorem orlo16 {a b:Nat} (ha:a<65536) (hb:b<65536):bits .or .i64 (a:Int) ((b:Int)*65536)=((a+b*65536:Nat):Int):=by
 have e:(b:Int)*65536=((b*65536:Nat):Int):=by rw[Int.natCast_mul];rfl
 rw[e,bits_join_low .i64 63 (by decide) (λn h0 h1=>by rw[IntKind.wrap_i64];omega) 16 (a:Int) ((b*65536:Nat):Int) (by omega) (by omega) (by omega) (by omega) (by omega) (by omega)]
 omega
theorem top_split {M l1:Nat} (hl:(bd M).length=l1+1):∃ lo,M=lo+B16^l1*(bd M).getD l1 0/\lo<B16^l1:=by
 have e:=zxk (bd M) l1
 rw[List.take_of_length_le (by omega),bval_bd] at e
 have h:=bval_lt ((bd M).take l1) ((bd_words M).take _)
 rw[List.length_take,Nat.min_eq_left (by omega)] at h
 exact⟨_,e,h⟩
theorem top_pos {M l1:Nat} (hl:(bd M).length=l1+1):1<=(bd M).getD l1 0:=by
 obtain⟨lo,e,h⟩:=top_split hl
 have hM:M≠0:=λe0=>by rw[e0,bd_zero] at hl;simp at hl
 have hb:=bd_last hM
 rw[hl,Nat.add_sub_cancel] at hb
 rcases Nat.eq_zero_or_pos ((bd M).getD l1 0) with h0|h0
 . rw[h0] at e;omega
 . exact h0
theorem top_shift {M l1 j:Nat} (hl:(bd M).length=l1+1) (h1:32768<=(bd M).getD l1 0*2^j) (h2:(bd M).getD l1 0*2^j<65536) (hj:j<=15) :
 (bd (M*2^j)).length=l1+1/\32768<=(bd (M*2^j)).getD l1 0:=by
 obtain⟨lo,e,hlo⟩:=top_split hl
 obtain⟨T,hT⟩:∃ T,T=(bd M).getD l1 0:=⟨_,rfl⟩
 rw[<-hT] at e h1 h2
 obtain⟨P,hP⟩:∃ P,P=B16^l1:=⟨_,rfl⟩
 rw[<-hP] at e hlo
 have hp:0<2^j:=Nat.pow_pos (by decide)
 have e2:M*2^j=lo*2^j+P*(T*2^j):=by rw[e,Nat.add_mul,Nat.mul_assoc]
 have e16:2^(16-j)*2^j=65536:=pow16 hj
 have hT1:T<2^(16-j):=by
  apply Nat.lt_of_not_le
  intro hn
  have:=Nat.mul_le_mul_right (2^j) hn
  omega
 have h3:(T+1)*2^j<=65536:=by have:=Nat.mul_le_mul_right (2^j) hT1;rw[e16] at this;exact this
 have h4:lo*2^j<P*2^j:=Nat.mul_lt_mul_of_pos_right hlo hp
 have h5:P*((T+1)*2^j)<=P*65536:=Nat.mul_le_mul_left _ h3
 have h6:P*((T+1)*2^j)=P*(T*2^j)+P*2^j:=by rw[Nat.add_mul,Nat.one_mul,Nat.mul_add]
 have h7:P*32768<=P*(T*2^j):=Nat.mul_le_mul_left _ h1
 have hP0:0<P:=by rw[hP];exact Nat.pow_pos B16_pos
 have hlt:M*2^j<B16^(l1+1):=by
  rw[Nat.pow_succ,<-hP,show B16=65536 from rfl]
  omega
 have len:(bd (M*2^j)).length=l1+1:=by
  have a:=bd_length.2 hlt
  have b:¬(bd (M*2^j)).length<=l1:=λh=>by
   have:=bd_length.1 h
   rw[<-hP] at this
   omega
  omega
 refine⟨len,?_⟩
 obtain⟨lo',e',hlo'⟩:=top_split len
 rw[<-hP] at e' hlo'
 apply Nat.le_of_not_lt
 intro hn
 have:=Nat.mul_le_mul_left P (show(bd (M*2^j)).getD l1 0+1<=32768 by omega)
 rw[Nat.mul_succ] at this
 omega
theorem top_zero {rs:List Nat} {k:Nat} (hl:rs.length=k+1) (h:bval rs<B16^k):rs.getD k 0=0/\bval (rs.take k)=bval rs:=by
 have e:=zxk rs k
 rw[List.take_of_length_le (by omega)] at e
 rcases Nat.eq_zero_or_pos (rs.getD k 0) with h0|h0
 . rw[h0] at e;exact⟨h0,by omega⟩
 . have:=Nat.mul_le_mul_left (B16^k) h0
   omega
theorem copy_digs {w:World} {g k:Nat} {rs:List Nat} (h:DigB w g rs) (hl:rs.length=k+1) (c d:Nat) :
 ∃ w1,(∀ ty,(Builtin.copy_ #[36,36] ty #[.slice (some ⟨g,1,.none⟩) k c,.slice (some ⟨g,0,.none⟩) k d]).run Tryz.prog w=.ok (.int .i64 k) w1)/\DigB w1 g (rs.getD 0 0 :: rs.take k)/\w.grownBy w1 (some g):=by
 have hlen:((rs.take k).map i64v).length=k:=by simp;omega
 refine⟨w.setRow g (dgs (rs.getD 0 0 :: rs.take k)),λty=>?_,?_,grown_setRow _ _ _⟩
 . have:=run_copy_row (P:=Tryz.prog) w 36 36 ty 3 g 1 k c ⟨g,0,.none⟩ k d (dgs rs) 3 ((rs.take k).map i64v) Tryz.underlying36 (by kernel_rfl) h (by rw[hlen];simp) (λj v hj=>?_) (by rw[hlen];simp[dgs];omega) (by intro v hv;obtain⟨x,-,rfl⟩:=List.mem_map.1 hv;rfl)
   . rw[this]
     have e:((dgs rs).toList.take 1++(rs.take k).map i64v++(dgs rs).toList.drop (1+((rs.take k).map i64v).length)).toArray=dgs (rs.getD 0 0 :: rs.take k):=by
      rw[hlen]
      apply Array.toList_inj.1
      match rs,hl with
      | r :: rs,hl=>
       have:rs.length=k:=by simpa using hl
       simp[dgs,List.getD,this]
       omega
     rw[e,hlen]
     rfl
   . have hjl:j<k:=by
      apply Nat.lt_of_not_le
      intro e
      rw[List.getElem?_eq_none (by rw[hlen];exact e)] at hj
      cases hj
     rw[show(⟨g,0,.none⟩:Addr).add j=⟨g,j,.none⟩ from by simp[Addr.add];intro h;omega,h.cell j (by omega)]
     rw[List.getElem?_map,List.getElem?_take_of_lt hjl,List.getElem?_eq_getElem (by omega)] at hj
     rw[<-Option.some.inj hj]
     simp[List.getD,i64v,List.getElem?_eq_getElem (show j<rs.length by omega)]
 . unfold DigB World.setRow
   simp only[Array.getElem?_modify,if_true]
   unfold DigB at h
   rw[h]
   rfl
def celN:Value->Nat
 | .int _ k=>k.toNat
 | _=>0
def digN (w:World) (g:Nat):Nat:=
 match w.heap[g]? with
 | some (.cells cs _ _)=>bval (cs.toList.map celN)
 | _=>0
theorem DigB.num {w:World} {g:Nat} {rs:List Nat} (h:DigB w g rs):digN w g=bval rs:=by
 unfold DigB at h
 unfold digN
 rw[h]
 simp only[dgs]
 congr 1
 rw[List.map_map]
 conv=>rhs;rw[<-List.map_id rs]
 apply List.map_congr_left
 intro x _
 simp[celN,i64v]
end Go.Proofs.YtohhkjamddojmaaGreatDoor.Big
