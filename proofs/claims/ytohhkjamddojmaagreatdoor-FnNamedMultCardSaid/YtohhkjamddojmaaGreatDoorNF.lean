/- Long division: divBasic. -/
import Derived.Test.YtohhkjamddojmaaGreatDoorNB
import Derived.Deep.CutRange
import Derived.StillTailTactics
set_option maxRecDepth 100000
set_option maxHeartbeats 16000000
namespace Go.Proofs.YtohhkjamddojmaaGreatDoor.Big
open Go.RowKit
attribute [local go_sem] ptr
def DivBP (N s bq bu:Nat) (qs us:List Nat) (n m U V:Nat) (w:World) (e:Ending) (w':World):Prop:=
 e=.returned (.tuple #[])/\∃ ks rs,NatB w' bq (spl qs 0 ks)/\ks.length=m/\Words ks/\NatB w' bu (spl us 0 rs)/\rs.length=m+n/\Words rs/\val rs+val ks*V=U/\val rs<V/\Stk N s w'/\Grow w w' (λk=>(k=bq\/k=bu)\/TS N w k)
theorem divBasic (N s bq bu bv n m mn cq cu cv:Nat) (qs us vs:List Nat) (w:World) (hs:StkZ N s w) (hN:N<=w.heap.size) (hq:NatB w bq qs) (hu:NatB w bu us) (hv:NatB w bv vs)
 (hd:bq≠bu/\bq≠bv/\bu≠bv) (hn2:2<=n) (hn4:n<=4) (hm1:1<=m) (hmM:m<=90000) (hmn:mn=m+n) (hql:m<=qs.length) (hul:mn<=us.length) (hvl:n<=vs.length) (hcq:m<=cq) (hcu:mn<=cu) (hcuM:cu<=maxLen) (hcv:n<=cv)
 (hwu:Words us) (hwv:Words vs) (htop:B64<=2*vs.getD (n-1) 0) (hut:us.getD (mn-1) 0<vs.getD (n-1) 0) :
 Calls Tryz.prog 234 #[.slice (some ⟨bq,0,.none⟩) m cq,.pointer (some ⟨s,0,.none⟩),.slice (some ⟨bu,0,.none⟩) mn cu,.slice (some ⟨bv,0,.none⟩) n cv] w (DivBP N s bq bu qs us n m (val (us.take mn)) (val (vs.take n)) w):=by
 have HI:=Lz (And.intro hs (And.intro hN (And.intro hq (And.intro hu (And.intro hv hd)))))
 have HT:=Lz (And.intro hwu (And.intro hwv (And.intro htop hut)))
 clear hs hN hq hu hv hd hwu hwv htop hut
 obtain⟨n1,hn1⟩:∃ n1,n1=n+1:=⟨_,rfl⟩
 obtain⟨nm1,hnm1⟩:∃ k,k=n-1:=⟨_,rfl⟩
 obtain⟨nm2,hnm2⟩:∃ k,k=n-2:=⟨_,rfl⟩
 have W1:=Lz (show wrap64 ((n:Int)+1)=n1 from wrapN (by omega) (by omega))
 have W2:=Lz (show wrap64 ((mn:Int)-(n:Int))=m from wrapN (by omega) (by omega))
 have W3:=Lz (show wrap64 ((n:Int)-1)=nm1 from wrapN (by omega) (by omega))
 have i1:(nm1:Int)<n:=by omega
 have l1:2<=n1:=by omega
 have l2:n1<=5:=by omega
 have l3:nm1<vs.length:=by omega
 have HL:=Lz (And.intro hn2 (And.intro hn4 (And.intro hm1 (And.intro hmM (And.intro hmn (And.intro hql (And.intro hul (And.intro hvl (And.intro hn1 (And.intro hnm1 (And.intro hnm2 (And.intro hcq (And.intro hcu (And.intro hcuM hcv))))))))))))))
 clear hn2 hn4 hm1 hmM hmn hql hul hvl hn1 hnm2 hcq hcu hcuM hcv
 obtain⟨v1,hv1⟩:∃ v1,v1=vs.getD nm1 0:=⟨_,rfl⟩
 obtain⟨v2,hv2⟩:∃ v2,v2=vs.getD nm2 0:=⟨_,rfl⟩
 have v1B:v1<B64:=by rw[hv1];exact HT.out.2.1.getD _
 have v2B:v2<B64:=by rw[hv2];exact HT.out.2.1.getD _
 have v1T:B64<=2*v1:=by rw[hv1,hnm1];exact HT.out.2.2.1
 have v10:v1≠0:=by have:=zxw;omega
 have HSV:=Lz (saveZ HI.out.1)
 have HST:=Lz (natS (n:=n1) HI.out.1 HI.out.2.1 l1 l2)
 have HRC:=Lz (reciprocalWord v1 v1B v10)
 have cv1:=HI.out.2.2.2.2.1.cell nm1 l3
 have HV:=Lz (And.intro hv1 (And.intro hv2 (And.intro v1B (And.intro v2B (And.intro v1T (And.intro v10 l3))))))
 rw[<-hv1] at cv1
 have w1:=W1.out
 have w2:=W2.out
 have w3:=W3.out
 clear hnm1 hv1 hv2 v1B v2B v1T v10 l1 l2 l3 W1 W2 W3
 unfold wd at *
 go_enter_defers Tryz.func234,Tryz.ntmps234
 go_wp2_with fail
 refine HSV.out.mono ?_
 rintro e wa ⟨rfl,rfl⟩
 go_wp2_with fail
 refine HST.out.mono ?_
 rintro e wb ⟨⟨bh,ch,hs0,rfl,h1,h2,h3,h4,h5,h6,h7,h8⟩,h9⟩
 have cv1':=(HI.out.2.2.2.2.1.stk h7).cell nm1 HV.out.2.2.2.2.2.2
 rw[<-HV.out.1] at cv1'
 have HB:=Lz (And.intro h1 (And.intro h2 (And.intro h3 (And.intro h4 (And.intro h5 (And.intro h6 (And.intro h7 (And.intro h8 h9))))))))
 clear h1 h2 h3 h4 h5 h6 h7 h8 h9 cv1 HST HSV
 unfold wd at *
 go_wp2_with fail
 refine(HRC.out wb).mono ?_
 rintro e wc ⟨rfl,nq,rfl⟩
 go_wp2_with fail
 have W0:=Lz (show DBW N s bq bu bv bh qs us vs n (m+1) (us.take mn) [] hs0 w (wb.drewN nq) from by
  obtain⟨h1,h2,h3,h4,h5,h6,h7,h8,h9⟩:=HB.out
  obtain⟨k1,k2,k3,k4,k5,k6⟩:=HI.out
  have hmn:mn<=us.length:=HL.out.2.2.2.2.2.2.1
  have e1:spl us 0 (us.take mn)=us:=by rw[spl0,List.length_take,Nat.min_eq_left hmn,List.take_append_drop]
  have hg:Grow w wb (λk=>(k=bq\/k=bu)\/TS N w k):=h7.weaken (λk _ e=>.inr e)
  have hn:n+1<=hs0.length:=by have:=HL.out.2.2.2.2.2.2.2.2.1;omega
  exact DBW.drew ⟨by rw[spl_nil];exact k3.stk h7,by rw[e1];exact k4.stk h7,k5.stk h7,h3,hn,h8,h9,hg⟩ nq)
 have HD:=Lz (show bh≠bq/\bh≠bu/\bh≠bv/\w.heap.size<=bh from by
  obtain⟨-,-,-,-,-,h6,-,-,-⟩:=HB.out
  obtain⟨-,-,k3,k4,k5,-⟩:=HI.out
  have:=k3.lt;have:=k4.lt;have:=k5.lt
  omega)
 clear cv1' w1 w2 w3
 go_loopw [13,14] (λa13 a14 wr=>∃ (i t:Nat) (x:Int) (rs ks hs':List Nat),a14=.int .i64 x/\a13=.int .u64 (t:Nat)/\RowKit.Hid (DBW N s bq bu bv bh qs us vs n i rs ks hs' w wr/\x=(i:Int)-1/\t=rs.getD (i+n-1) 0/\rs.length=mn/\Words rs/\((i=m+1/\rs=us.take mn/\ks = [])\/DBs (val (us.take mn)) (val (vs.take n)) n m i rs ks))) (λ_ a14 _=>(intOf a14+1).toNat)
 case atStart=>
  refine⟨m+1,0,m,us.take mn,[],hs0,rfl,rfl,⟨W0.out,by omega,?_,?_,HT.out.1.take _,.inl ⟨rfl,rfl,rfl⟩⟩⟩
  . have hmn:mn=m+n:=HL.out.2.2.2.2.1
    rw[List.getD,List.getElem?_take,if_neg (by omega)]
    rfl
  . rw[List.length_take,Nat.min_eq_left HL.out.2.2.2.2.2.2.1]
 case round=>
  obtain⟨i,t,x,rs,ks,hs',rfl,rfl,HR⟩:=hrel
  rcases Nat.eq_zero_or_pos i with hi0|hi0
  . obtain⟨hW,hx,-,hrl,hrw,hor⟩:=HR.out
    have hx1:x=-1:=by omega
    have hdb:DBs (val (us.take mn)) (val (vs.take n)) n m 0 rs ks:=by
     rcases hor with⟨h,-,-⟩|h
     . omega
     . rw[hi0] at h;exact h
    rw[hi0] at hW
    have HW:=Lz hW
    have HDB:=Lz hdb
    have HS:=Lz hW.st
    subst hx1
    clear hi0 hx hrl hrw hor hW hdb HR
    go_wp2_with fail
    refine leaves_cons (f:=207) (args:=#[.pointer (some ⟨s,0,.none⟩),.int .i64 0]) (by simp) (by simp[go_sem]) ?_
    refine(restoreS HS.out .returning).mono ?_
    rintro e9 u9 w9 ⟨rfl,rfl,r1,r2⟩
    refine⟨_,results_none rfl _ _ _,?_⟩
    obtain⟨k1,k2,k3,k4,k5,k6,k7,k8⟩:=HW.out
    refine⟨rfl,ks,rs,k1.stk r2,by have:=HDB.out.lk;omega,HDB.out.wk,k2.stk r2,HDB.out.len,HDB.out.ws,?_,HDB.out.low,r1,?_⟩
    . have:=HDB.out.eq
      rw[Nat.pow_zero,Nat.one_mul] at this
      exact this
    . exact⟨r2.os.trans k8.os,r2.tape.trans k8.tape,r2.output.trans k8.output,Nat.le_trans k8.size r2.size,λk hk hr=>by
       have e:=k8.block k hk hr
       refine(r2.block k (Nat.lt_of_lt_of_le hk k8.size) (λ⟨h1,v,T,h2,h3⟩=>hr (.inr ⟨h1,v,T,?_,h3⟩))).trans e
       rw[<-e];exact h2⟩
  . obtain⟨j,rfl⟩:∃ j,i=j+1:=⟨i-1,by omega⟩
    clear hi0
    obtain⟨hW,hx,ht,hrl,hrw,hor⟩:=HR.out
    obtain rfl:x=(j:Int):=by omega
    have hjm:j<=m:=by
     rcases hor with⟨h,-,-⟩|h
     . omega
     . have:=h.le;omega
    obtain⟨l1,l2,l3,l4,l5,l6,l7,l8,l9,l10,l11,l12,l13,l14,l15⟩:=HL.out
    obtain⟨jn,hjn⟩:∃ k,k=j+n:=⟨_,rfl⟩
    obtain⟨jn1,hjn1⟩:∃ k,k=j+n-1:=⟨_,rfl⟩
    obtain⟨jn2,hjn2⟩:∃ k,k=j+n-2:=⟨_,rfl⟩
    obtain⟨jq,hjq⟩:∃ k,k=j+n1:=⟨_,rfl⟩
    have ht':t=rs.getD jn 0:=by rw[ht,hjn];congr 1;omega
    clear ht hx
    have A1:=Lz (show wrap64 ((j:Int)+(n:Int))=jn from wrapN (by omega) (by omega))
    have A2:=Lz (show wrap64 ((jn:Int)-1)=jn1 from wrapN (by omega) (by omega))
    have A3:=Lz (show wrap64 ((jn:Int)-2)=jn2 from wrapN (by omega) (by omega))
    have A4:=Lz (show wrap64 ((j:Int)+(n1:Int))=jq from wrapN (by omega) (by omega))
    have A5:=Lz (show IntKind.i64.wrap ((j:Int)+(n1:Int))=jq from wrapI (by omega) (by omega))
    have A6:=Lz (show IntKind.i64.wrap ((j:Int)+(n:Int))=jn from wrapI (by omega) (by omega))
    have A7:=Lz (show wrap64 ((n1:Int)-1)=n from wrapN (by omega) (by omega))
    have A8:=Lz (show wrap64 ((n:Int)-2)=nm2 from wrapN (by omega) (by omega))
    have b1:(jn1:Int)<mn:=by omega
    have b2:(jn2:Int)<mn:=by omega
    have b3:(nm2:Int)<n:=by omega
    have b4:jn1<rs.length:=by omega
    have b5:jn2<rs.length:=by omega
    have b6:nm2<vs.length:=by omega
    obtain⟨u1,hu1⟩:∃ u1,u1=rs.getD jn1 0:=⟨_,rfl⟩
    obtain⟨u0,hu0⟩:∃ u0,u0=rs.getD jn2 0:=⟨_,rfl⟩
    have u1B:u1<B64:=by rw[hu1];exact hrw.getD _
    have u0B:u0<B64:=by rw[hu0];exact hrw.getD _
    have tB:t<B64:=by rw[ht'];exact hrw.getD _
    -- the section, where the first round is behind
    have HKD:=Lz (show j<m->DBs (val (us.take mn)) (val (vs.take n)) n m (j+1) rs ks/\∃ S v0 ur,KD S v1 v2 v0 t u1 u0 ur (val (vs.take n)) (val (rs.drop j)) from λhj=>by
     rcases hor with⟨h,-,-⟩|h
     . omega
     . refine⟨h,?_⟩
       obtain⟨n0,rfl⟩:∃ n0,n=n0+2:=⟨n-2,by omega⟩
       have hvl:(vs.take (n0+2)).length=n0+2:=by rw[List.length_take,Nat.min_eq_left l8]
       have g1:(vs.take (n0+2)).getD (n0+1) 0=v1:=by rw[getD_take (by omega),HV.out.1];congr 1;omega
       have g2:(vs.take (n0+2)).getD n0 0=v2:=by rw[getD_take (by omega),HV.out.2.1];congr 1;omega
       have k:=h.kd hvl (HT.out.2.1.take _) rfl (by rw[g1];exact HV.out.2.2.2.2.1)
       rw[g1,g2,show j+(n0+2)=jn by omega,show j+(n0+1)=jn1 by omega,show j+n0=jn2 by omega,<-ht',<-hu1,<-hu0] at k
       exact⟨_,_,_,k⟩)
    have HFI:=Lz (show j=m->t=0/\u1<v1/\rs=us.take mn/\ks = [] from λhj=>by
     rcases hor with⟨h,h1,h2⟩|h
     . refine⟨?_,?_,h1,h2⟩
       . rw[ht',h1,List.getD,List.getElem?_take,if_neg (by omega)];rfl
       . rw[hu1,h1,getD_take (by omega),HV.out.1,show jn1=mn-1 by omega,l10];exact HT.out.2.2.2
     . have:=h.le;omega)
    have HWR:=Lz hW
    have HRL:=Lz (And.intro hrl (And.intro hrw (And.intro hjm (And.intro hjn (And.intro hjn1 (And.intro hjn2 (And.intro hjq (And.intro u1B (And.intro u0B tB)))))))))
    have c1:=hW.u.cell jn1 (by rw[spl0,List.length_append];omega)
    have c0:=hW.u.cell jn2 (by rw[spl0,List.length_append];omega)
    have cv2:=hW.v.cell nm2 b6
    rw[spl0_getD b4,<-hu1] at c1
    rw[spl0_getD b5,<-hu0] at c0
    rw[<-HV.out.2.1] at cv2
    have tv:t<=v1:=by
     rcases Nat.lt_or_ge j m with h|h
     . obtain⟨-,S,v0,ur,k⟩:=HKD.out h
       exact k.u2_le
     . have:=(HFI.out (by omega)).1;omega
    have j0:(0:Int)<=j:=by omega
    clear hW hrl hrw hor hjm l1 l2 l3 l4 l5 l6 l7 l8 l9 l10 l11 l12 l13 l14 l15 hjn hjn1 hjn2 hjq ht' hu1 hu0 u1B u0B tB b4 b5 b6 HR
    unfold wd at *
    go_upto_if 51 with fail
    go_cut [15,16,17,18,19,20] from 45 to 200 (λa15 a16 a17 a18 a19 a20 wx=>∃ qh d:Nat,a15=.int .u64 (qh:Nat)/\wx=wr.drewN d/\RowKit.Hid (qh<B64/\(j=m->qh=0)/\(j<m->val (rs.drop j)<(qh+1)*val (vs.take n)/\(qh-1)*val (vs.take n)<=val (rs.drop j))))
    case first=>
     have a1:=A1.out
     have a2:=A2.out
     have a3:=A3.out
     have a8:=A8.out
     by_cases hv:t=v1
     . have e1:((t:Int) != v1)=false:=by rw[hv];exact bne_self_eq_false _
       have HQ:=Lz (show 18446744073709551615<B64/\(j=m->18446744073709551615=0)/\(j<m->val (rs.drop j)<(18446744073709551615+1)*val (vs.take n)/\(18446744073709551615-1)*val (vs.take n)<=val (rs.drop j)) from
        ⟨by decide,λh=>absurd ((hv.symm.trans (HFI.out h).1)) HV.out.2.2.2.2.2.1,λh=>by
         obtain⟨-,S,v0,ur,k⟩:=HKD.out h
         exact k.most hv⟩)
       clear hv tv
       go_wp2_with fail
       go_meet
       case rel=>exact⟨18446744073709551615,0,rfl,rfl,HQ.out⟩
     . have hlt:t<v1:=by clear a1 a2 a3 a8;omega
       have e1:((t:Int) != v1)=true:=by rw[bne_iff_ne];clear a1 a2 a3 a8;omega
       have HDW:=Lz (divWW t u1 v1 HRL.out.2.2.2.2.2.2.2.1 HV.out.2.2.1 hlt wr)
       obtain⟨q0,hq0⟩:∃ q,q=(t*B64+u1)/v1:=⟨_,rfl⟩
       obtain⟨r0,hr0⟩:∃ r,r=(t*B64+u1)%v1:=⟨_,rfl⟩
       have HG0:=Lz (show(j=m->q0=0)/\(j<m->KG v1 t u1 (val (vs.take n)) (val (rs.drop j)) q0 r0)/\q0<B64/\r0<B64 from
        ⟨λh=>by
         obtain⟨h1,h2,-⟩:=HFI.out h
         rw[hq0,h1,Nat.zero_mul,Nat.zero_add]
         exact Nat.div_eq_of_lt h2,λh=>by
         obtain⟨-,S,v0,ur,k⟩:=HKD.out h
         rw[hq0,hr0]
         exact k.guess hlt,by
         rw[hq0]
         exact dv_lt hlt HRL.out.2.2.2.2.2.2.2.1,by
         rw[hr0]
         exact Nat.lt_trans (Nat.mod_lt _ (by clear a1 a2 a3 a8;omega)) HV.out.2.2.1⟩)
       unfold DivP at HDW
       rw[<-hq0,<-hr0] at HDW
       have HMW:=Lz (λw=>mulWW q0 v2 HG0.out.2.2.1 HV.out.2.2.2.1 w)
       clear hq0 hr0 hlt hv tv
       unfold wd at *
       go_wp2_with fail
       refine HDW.out.mono ?_
       rintro e w2 ⟨rfl,d,rfl⟩
       go_wp2_with fail
       refine(HMW.out _).mono ?_
       rintro e w3 ⟨x1,x2,rfl,rfl,hm,hl,hh⟩
       have HMM:=Lz (And.intro hm (And.intro hl hh))
       clear hm hl hh HDW HMW
       unfold wd at *
       go_wp2_with fail
       simp only[a1,a3]
       go_loopw [15,16,18,19] (λa15 a16 a18 a19 wx=>∃ (qh rh x1 x2 d:Nat),a15=.int .u64 (qh:Nat)/\a16=.int .u64 (rh:Nat)/\a18=.int .u64 (x1:Nat)/\a19=.int .u64 (x2:Nat)/\wx=wr.drewN d/\RowKit.Hid (x2+x1*B64=qh*v2/\x2<B64/\x1<B64/\(j=m->qh=0)/\(j<m->KG v1 t u1 (val (vs.take n)) (val (rs.drop j)) qh rh)/\qh<B64/\rh<B64)) (λa15 _ _ _ _=>(intOf a15).toNat)
       case atStart=>exact⟨q0,r0,x1,x2,d,rfl,rfl,rfl,rfl,rfl,⟨HMM.out.1,HMM.out.2.1,HMM.out.2.2,HG0.out⟩⟩
       case round=>
        clear HMM HG0
        obtain⟨qh,rh,x1,x2,d,rfl,rfl,rfl,rfl,rfl,HR⟩:=hrel
        obtain⟨h1,h2,h3,h4,h5,h6,h7⟩:=HR.out
        have HGT:=Lz (greaterThan x1 x2 rh u0 h2 HRL.out.2.2.2.2.2.2.2.2.1 (wr.drewN d))
        by_cases hc:rh*B64+u0<x1*B64+x2
        . rw[decide_eq_true hc] at HGT
          have hqp:0<qh:=by
           rcases Nat.eq_zero_or_pos qh with h|h
           . rw[h,Nat.zero_mul] at h1;clear a1 a2 a3 a8;omega
           . exact h
          obtain⟨k,hk⟩:∃ k,qh=k+1:=⟨qh-1,by clear a1 a2 a3 a8;omega⟩
          have E1:=Lz (u64_pred hk h6)
          have hjm:j<m:=by
           have:=HRL.out.2.2.1
           rcases Nat.lt_or_ge j m with h|h
           . exact h
           . have:=h4 (by clear a1 a2 a3 a8;omega);clear a1 a2 a3 a8;omega
          have hdn:=mul_down (by rw[<-hk];exact h1) h2 HV.out.2.2.2.1
          obtain⟨-,S,v0,ur,kd⟩:=HKD.out hjm
          have hG:=(h5 hjm).down kd (by rw[<-h1];clear a1 a2 a3 a8;omega)
          rw[hk,Nat.add_sub_cancel] at hG
          have kB:k<B64:=by clear a1 a2 a3 a8;omega
          by_cases ho:rh+v1<B64
          . obtain⟨rh',hrh⟩:∃ r,r=rh+v1:=⟨_,rfl⟩
            have E2:=Lz (u64_plus ho)
            rw[<-hrh] at E2 hG ho
            have e3:¬(rh':Int)<v1:=by clear a1 a2 a3 a8;omega
            by_cases hx:x2<v2
            . obtain⟨d1,d2,d3⟩:=hdn.1 hx
              obtain⟨x1',hx1⟩:∃ y,x1=y+1:=⟨x1-1,by clear a1 a2 a3 a8;omega⟩
              obtain⟨x2',hx2⟩:∃ y,y=x2+B64-v2:=⟨_,rfl⟩
              have E4:=Lz (u64_pred hx1 h3)
              have E5:=Lz (u64_under hx HV.out.2.2.2.1)
              rw[<-hx2] at E5 d2 d3
              rw[hx1,Nat.add_sub_cancel] at d2
              have x1B:x1'<B64:=by clear a1 a2 a3 a8;omega
              have e6:(x2:Int)<v2:=by clear a1 a2 a3 a8;omega
              have HQ:=Lz (show x2'+x1'*B64=k*v2/\x2'<B64/\x1'<B64/\(j=m->k=0)/\(j<m->KG v1 t u1 (val (vs.take n)) (val (rs.drop j)) k rh')/\k<B64/\rh'<B64 from
               ⟨d2,d3,x1B,λh=>by clear a1 a2 a3 a8;omega,λ_=>hG.2,kB,ho⟩)
              have HM:=Lz (show k<qh by clear a1 a2 a3 a8;omega)
              have E1':=E1.out
              have E2':=E2.out
              have E4':=E4.out
              have E5':=E5.out
              clear h1 h2 h3 h4 h5 h6 h7 hc HR hqp hk hjm hdn kd hG kB ho hrh hx d1 d2 d3 hx1 hx2 x1B
              unfold wd at *
              go_wp2_with fail
              refine HGT.out.mono ?_
              rintro e w4 ⟨rfl,rfl⟩
              go_wp2_with fail
              go_roundw
              case rel=>exact⟨k,rh',x1',x2',d,by go_num,by go_num,by go_num,by go_num,rfl,HQ.out⟩
              case measure=>have:=HM.out;simp[intOf];omega
            . obtain⟨d2,d3⟩:=hdn.2 hx
              obtain⟨x2',hx2⟩:∃ y,y=x2-v2:=⟨_,rfl⟩
              have E5:=Lz (u64_minus (by clear a1 a2 a3 a8;omega) h2:IntKind.u64.wrap ((x2:Int)-(v2:Int))=((x2-v2:Nat):Int))
              rw[<-hx2] at E5 d2 d3
              have e6:¬(x2:Int)<v2:=by clear a1 a2 a3 a8;omega
              have HQ:=Lz (show x2'+x1*B64=k*v2/\x2'<B64/\x1<B64/\(j=m->k=0)/\(j<m->KG v1 t u1 (val (vs.take n)) (val (rs.drop j)) k rh')/\k<B64/\rh'<B64 from
               ⟨d2,d3,h3,λh=>by clear a1 a2 a3 a8;omega,λ_=>hG.2,kB,ho⟩)
              have HM:=Lz (show k<qh by clear a1 a2 a3 a8;omega)
              have E1':=E1.out
              have E2':=E2.out
              have E5':=E5.out
              clear h1 h2 h3 h4 h5 h6 h7 hc HR hqp hk hjm hdn kd hG kB ho hrh hx d2 d3 hx2
              unfold wd at *
              go_wp2_with fail
              refine HGT.out.mono ?_
              rintro e w4 ⟨rfl,rfl⟩
              go_wp2_with fail
              go_roundw
              case rel=>exact⟨k,rh',x1,x2',d,by go_num,by go_num,by go_num,by go_num,rfl,HQ.out⟩
              case measure=>have:=HM.out;simp[intOf];omega
          . obtain⟨rh',hrh⟩:∃ r,r=rh+v1-B64:=⟨_,rfl⟩
            have E2:=Lz (u64_over (Nat.le_of_not_lt ho) h7 HV.out.2.2.1)
            rw[<-hrh] at E2
            have e3:(rh':Int)<v1:=by clear a1 a2 a3 a8;omega
            have HQ:=Lz (show k<B64/\(j=m->k=0)/\(j<m->val (rs.drop j)<(k+1)*val (vs.take n)/\(k-1)*val (vs.take n)<=val (rs.drop j)) from
             ⟨kB,λh=>by clear a1 a2 a3 a8;omega,λh=>⟨hG.2.ge,hG.2.over kd (Nat.le_of_not_lt ho)⟩⟩)
            have E1':=E1.out
            have E2':=E2.out
            clear h1 h2 h3 h4 h5 h6 h7 hc HR hqp hk hjm hdn kd hG kB ho hrh
            unfold wd at *
            go_wp2_with fail
            refine HGT.out.mono ?_
            rintro e w4 ⟨rfl,rfl⟩
            go_wp2_with fail
            go_meet
            case rel=>exact⟨k,d,rfl,rfl,HQ.out⟩
        . rw[decide_eq_false hc] at HGT
          have HQ:=Lz (show qh<B64/\(j=m->qh=0)/\(j<m->val (rs.drop j)<(qh+1)*val (vs.take n)/\(qh-1)*val (vs.take n)<=val (rs.drop j)) from
           ⟨h6,h4,λh=>⟨(h5 h).ge,by
            obtain⟨-,S,v0,ur,k⟩:=HKD.out h
            exact(h5 h).near k (by rw[<-h1];clear a1 a2 a3 a8;omega)⟩⟩)
          clear h1 h2 h3 h4 h5 h6 h7 hc HR
          unfold wd at *
          go_wp2_with fail
          refine HGT.out.mono ?_
          rintro e w4 ⟨rfl,rfl⟩
          go_wp2_with fail
          go_meet
          case rel=>exact⟨qh,d,rfl,rfl,HQ.out⟩
    case rest=>
     obtain⟨qh,d,rfl,rfl,HQ⟩:=hcut
     clear c0 c1 cv2
     have HMU:=Lz (mulAddVWW bh 0 n ch bv 0 cv hs' vs qh 0 (wr.drewN d) (HWR.out.drew d).h (HWR.out.drew d).v (by have:=HWR.out.hl;omega) (by have:=HL.out.2.2.2.2.2.2.2.1;omega) HT.out.2.1 HQ.out.1 (by decide) (.inl (λe=>HD.out.2.2.1 e.symm)) (by have:=HL.out.2.1;omega))
     have s1:(n:Int)<=ch:=by have:=HB.out.1;have:=HL.out.2.2.2.2.2.2.2.2.1;omega
     have s2:(n:Int)<n1:=by have:=HL.out.2.2.2.2.2.2.2.2.1;omega
     have s3:(ch:Int)<=9223372036854775807:=by have:=HB.out.2.1;unfold maxLen at this;omega
     unfold wd at *
     go_wp2_with fail
     refine HMU.out.mono ?_
     rintro e w2 ⟨ks1,c,rfl,hN,hkl,hkw,hkv,hcB,hg⟩
     have hl5:(spl hs' 0 ks1).length=hs'.length:=zzk (by have:=HWR.out.hl;omega)
     have cc:=hN.cell n (by have:=HWR.out.hl;omega)
     have cf:=hN.free n
     obtain⟨w3,hw3⟩:∃ w3,w3=w2.setCell ⟨bh,n,.none⟩ (wd c):=⟨_,rfl⟩
     obtain⟨hs2,hhs2⟩:∃ l,l=spl hs' 0 (ks1 ++ [c]):=⟨_,rfl⟩
     have hN3:NatB w3 bh hs2:=by
      rw[hw3,hhs2]
      have:=hN.set n c
      have e:=spl_set (zs:=hs') (ks:=ks1) (o:=0) (v:=c) (by have:=HWR.out.hl;omega)
      rw[Nat.zero_add,hkl] at e
      rwa [e] at this
     have hg3:(wr.drewN d).grownBy w3 (some bh):=by rw[hw3];exact zzx hg (zzw w2 bh n _)
     have hw5:Words hs2:=by rw[hhs2];exact HWR.out.hw.spl (hkw.append (Words.one hcB))
     have hl2:hs2.length=hs'.length:=by rw[hhs2];exact zzk (by rw[List.length_append,hkl];exact by have:=HWR.out.hl;simpa using this)
     have HW3:=Lz ((HWR.out.drew d).putH hN3 hg3 hl2 hw5 HD.out.2.2.2 ⟨HD.out.1,HD.out.2.1,HD.out.2.2.1⟩)
     have hY:hs2.take n1=ks1 ++ [c]:=by
      have e:(ks1 ++ [c]).length=n1:=by rw[List.length_append,hkl,HL.out.2.2.2.2.2.2.2.2.1];rfl
      rw[hhs2,<-e]
      exact spl_zero (by rw[e];have:=HWR.out.hl;have:=HL.out.2.2.2.2.2.2.2.2.1;omega)
     have hYv:val (ks1 ++ [c])=qh*val (vs.take n):=by
      rw[zyk,hkl,hkv,Nat.add_zero,List.drop_zero,Nat.mul_comm]
     have HY:=Lz (And.intro hY (And.intro hYv (And.intro hkl (And.intro hkw (And.intro hcB hl2)))))
     have c3:w3.cell? ⟨bh,n,.none⟩=some (wd c):=by
      have e:=hN3.cell n (by rw[hl2];have:=HWR.out.hl;omega)
      rw[e,hhs2]
      congr 2
      rw[spl0,List.append_assoc,List.getD,List.getElem?_append_right (by omega),hkl,Nat.sub_self]
      rfl
     clear hN hkl hkw hkv hcB hg hl5 hN3 hg3 hw5 hl2 hY hYv HMU hhs2
     unfold wd at *
     go_upto_region 25 with fail
     rw[<-hw3]
     clear hw3 cc cf
     have a4:=A4.out
     have a5:=A5.out
     have a6:=A6.out
     have a7:=A7.out
     by_cases hj:j=m
     . obtain⟨t0,ut,hrs,hks⟩:=HFI.out hj
       obtain rfl:qh=0:=HQ.out.2.1 hj
       have hn1:n1=n+1:=HL.out.2.2.2.2.2.2.2.2.1
       -- the guess is 0: so is its product
       obtain⟨hY,hYv,hkl,hkw,hcB,hl2⟩:=HY.out
       rw[Nat.zero_mul,zyk,hkl] at hYv
       have hk0:val ks1=0:=by clear a4 a5 a6 a7;omega
       have hc0:c=0:=by
        rcases Nat.eq_zero_or_pos c with h|h
        . exact h
        . have:=Nat.mul_pos (Nat.pow_pos (n:=n) zxw) h
          clear a4 a5 a6 a7
          omega
       have hY2:(hs2.drop 0).take n=ks1:=by
        have e:(hs2.take n1).take n=ks1:=by rw[hY,List.take_append_of_le_length (by rw[hkl];exact Nat.le_refl _),List.take_of_length_le (by rw[hkl];exact Nat.le_refl _)]
        rw[List.take_take,Nat.min_eq_left (by rw[hn1];exact Nat.le_succ n)] at e
        rw[List.drop_zero];exact e
       subst hc0
       obtain⟨w4,hw4⟩:∃ V,V=w3.drew:=⟨_,rfl⟩
       have HW4:=Lz (show DBW N s bq bu bv bh qs us vs n (j+1) rs ks hs2 w w4 from by rw[hw4];exact HW3.out.drew 1)
       have hul:(spl us 0 rs).length=us.length:=spl0_len HRL.out.1 HL.out.2.2.2.2.2.2.1
       have HSB:=Lz (subVV bu j n (cu-j) bu j (cu-j) bh 0 ch (spl us 0 rs) (spl us 0 rs) hs2 w4 HW4.out.u HW4.out.u HW4.out.h
        (by rw[hul];have:=HL.out;clear a4 a5 a6 a7;omega) (by rw[hul];have:=HL.out;clear a4 a5 a6 a7;omega) (by have:=HW3.out.hl;clear a4 a5 a6 a7;omega)
        (HT.out.1.spl HRL.out.2.1) HW3.out.hw (.inr (Nat.le_refl _)) (.inl HD.out.2.1) (by have:=HL.out;clear a4 a5 a6 a7;omega))
       have HZ:=Lz (And.intro hj (And.intro t0 (And.intro ut (And.intro hrs (And.intro hks (And.intro hk0 hY2))))))
       have g1:(mn:Int)<jq:=by have:=HL.out;have:=HRL.out.2.2.2.2.2.2.1;clear a4 a5 a6 a7;omega
       have g2:(j:Int)<=jn:=by have:=HRL.out.2.2.2.1;clear a4 a5 a6 a7;omega
       have g3:(jn:Int)<=cu:=by have:=HL.out;have:=HRL.out.2.2.2.1;clear a4 a5 a6 a7;omega
       have g5:jn-j=n:=by have:=HRL.out.2.2.2.1;clear a4 a5 a6 a7;omega
       have g6:j<=jn:=by clear a4 a5 a6 a7;omega
       have g7:jn<=cu:=by clear a4 a5 a6 a7;omega
       have g8:n<=ch:=by clear a4 a5 a6 a7;omega
       have g9:((j:Int)==(m:Int))=true:=by rw[hj];exact beq_self_eq_true _
       clear t0 ut hrs hks hn1 hY hYv hkl hkw hcB hl2 hk0 hY2 hul hj HFI
       unfold wd at *
       go_wp2_with fail
       go_still_tail 15,(by kernel_rfl)
       change wpList _ _ _ _ _ w3.drew
       rw[<-hw4]
       clear hw4 c3
       go_wp2_with fail
       refine HSB.out.mono ?_
       rintro e w5 ⟨ks2,c2,rfl,x1,x2,x3,x4,x5,x6⟩
       clear g1 g2 g3 g5 g6 g7 g8 HSB
       obtain⟨hj,t0,ut,hrs,hks,hk0,hY2⟩:=HZ.out
       have hjb:j+n<=rs.length:=by rw[HRL.out.1];have:=HL.out;clear a4 a5 a6 a7;omega
       rw[hY2,spl0_sec hjb,hk0,Nat.add_zero] at x4
       have hkB:=val_lt _ x3
       rw[x2] at hkB
       obtain⟨hc2,hk2⟩:=sub_none (n:=n) (x:=val ks2) (y:=0) (u:=val ((rs.drop j).take n)) (c:=c2) hkB (Nat.zero_le _) (by rw[Nat.add_zero];exact x4)
       have hks2:ks2=(rs.drop j).take n:=Words.val_inj x3 ((HRL.out.2.1.drop _).take _) (by rw[x2,List.length_take,List.length_drop];clear a4 a5 a6 a7;omega) hk2
       rw[spl_over (by rw[x2];exact hjb),hks2,spl_self hjb] at x1
       have hW5:=HW4.out.putU x1 x6 ⟨λe=>HI.out.2.2.2.2.2.1 e.symm,HI.out.2.2.2.2.2.2.2,λe=>HD.out.2.1 e.symm⟩
       have cu1:=hW5.u.cell jn1 (by rw[spl0_len HRL.out.1 HL.out.2.2.2.2.2.2.1];have:=HL.out;have:=HRL.out.2.2.2.2.1;clear a4 a5 a6 a7;omega)
       obtain⟨t',ht'⟩:∃ t',t'=(spl us 0 rs).getD jn1 0:=⟨_,rfl⟩
       rw[<-ht'] at cu1
       have hg':t'=rs.getD (j+n-1) 0:=by rw[ht',spl0_getD (by rw[HRL.out.1];have:=HL.out;have:=HRL.out.2.2.2.2.1;clear a4 a5 a6 a7;omega),HRL.out.2.2.2.2.1]
       have hlow:val (rs.drop j)<val (vs.take n):=by
        obtain⟨n0,rfl⟩:∃ n0,n=n0+1:=⟨n-1,by have:=HL.out.1;clear a4 a5 a6 a7;omega⟩
        refine val_lt_top (n:=n0) (HRL.out.2.1.drop _) (by rw[List.length_drop,HRL.out.1];have:=HL.out;clear a4 a5 a6 a7;omega) (by rw[List.length_take];exact Nat.min_eq_left HL.out.2.2.2.2.2.2.2.1) ?_
        rw[getD_take (Nat.lt_succ_self n0)]
        have e1:vs.getD n0 0=v1:=by rw[HV.out.1];congr 1;have:=HL.out.2.2.2.2.2.2.2.2.2.1;clear a4 a5 a6 a7;omega
        have e2:(rs.drop j).getD n0 0=rs.getD (mn-1) 0:=by
         rw[List.getD,List.getElem?_drop,List.getD]
         congr 2
         have:=HL.out.2.2.2.2.1
         clear a4 a5 a6 a7
         omega
        rw[e1,e2,hrs,getD_take (by have:=HL.out;clear a4 a5 a6 a7;omega)]
        have:=HT.out.2.2.2
        rw[HV.out.1,HL.out.2.2.2.2.2.2.2.2.2.1]
        exact this
       have HP:=Lz (show DBW N s bq bu bv bh qs us vs n j rs [] hs2 w w5/\DBs (val (us.take mn)) (val (vs.take n)) n m j rs [] from by
        subst hks
        refine⟨⟨by have:=hW5.q;rw[spl_nil] at this ⊢;exact this,hW5.u,hW5.v,hW5.h,hW5.hl,hW5.hw,hW5.st,hW5.g⟩,⟨by rw[HRL.out.1];exact HL.out.2.2.2.2.1,by rw[hj];exact Nat.le_refl _,by rw[hj,Nat.sub_self];rfl,HRL.out.2.1,Words.nil,?_,hlow⟩⟩
        rw[val_nil,Nat.zero_mul,Nat.mul_zero,Nat.add_zero,hrs])
       have hc2I:(((c2:Nat):Int) != 0)=false:=by rw[hc2];rfl
       have HGT:=Lz hg'
       have a1:=A1.out
       have a2:=A2.out
       clear hg' x1 x2 x3 x4 x5 x6 hj t0 ut hrs hks hk0 hY2 hjb hkB hc2 hk2 hks2 hW5 ht' hlow
       unfold wd at *
       go_wp2_with fail
       go_roundw
       case rel=>
        exact⟨j,t',_,rs,[],hs2,rfl,rfl,⟨HP.out.1,by have:=HL.out;have:=HRL.out.2.2.1;clear a1 a2 a4 a5 a6 a7;unfold wrap64;omega,HGT.out,HRL.out.1,HRL.out.2.1,.inr HP.out.2⟩⟩
       case measure=>
        show(wrap64 ((j:Int)-1)+1).toNat<((j:Int)+1).toNat
        have:=HL.out
        have:=HRL.out.2.2.1
        clear a1 a2 a4 a5 a6 a7
        unfold wrap64
        omega
     . have HJ:=Lz (show j<m from by have:=HRL.out.2.2.1;clear a4 a5 a6 a7;omega)
       obtain⟨w4,hw4⟩:∃ V,V=w3.drew:=⟨_,rfl⟩
       have HW4:=Lz (show DBW N s bq bu bv bh qs us vs n (j+1) rs ks hs2 w w4 from by rw[hw4];exact HW3.out.drew 1)
       have HSB:=Lz (subVV bu j n1 (cu-j) bu j (cu-j) bh 0 ch (spl us 0 rs) (spl us 0 rs) hs2 w4 HW4.out.u HW4.out.u HW4.out.h
        (by rw[spl0_len HRL.out.1 HL.out.2.2.2.2.2.2.1];clear a4 a5 a6 a7;have:=HJ.out;have:=HL.out;omega) (by rw[spl0_len HRL.out.1 HL.out.2.2.2.2.2.2.1];clear a4 a5 a6 a7;have:=HJ.out;have:=HL.out;omega) (by clear a4 a5 a6 a7;have:=HW3.out.hl;have:=HL.out;omega)
        (HT.out.1.spl HRL.out.2.1) HW3.out.hw (.inr (Nat.le_refl _)) (.inl HD.out.2.1) (by clear a4 a5 a6 a7;have:=HL.out;omega))
       have g1:¬(mn:Int)<jq:=by clear a4 a5 a6 a7;have:=HJ.out;have:=HL.out;have:=HRL.out.2.2.2.2.2.2.1;omega
       have g2:(j:Int)<=jq:=by clear a4 a5 a6 a7;have:=HRL.out.2.2.2.2.2.2.1;omega
       have g3:(jq:Int)<=cu:=by clear a4 a5 a6 a7;have:=HL.out;omega
       have g4:(n1:Int)<=ch:=by clear a4 a5 a6 a7;have:=HB.out.1;omega
       have g5:jq-j=n1:=by clear a4 a5 a6 a7;have:=HRL.out.2.2.2.2.2.2.1;omega
       have g6:j<=jq:=by clear a4 a5 a6 a7;omega
       have g7:jq<=cu:=by clear a4 a5 a6 a7;omega
       have g8:n1<=ch:=by clear a4 a5 a6 a7;omega
       go_wp2_with fail
       go_still_tail 15,(by kernel_rfl)
       change wpList _ _ _ _ _ w3.drew
       rw[<-hw4]
       clear hw4 c3
       go_wp2_with fail
       refine HSB.out.mono ?_
       rintro e w5 ⟨ks2,c2,rfl,x1,x2,x3,x4,x5,x6⟩
       clear g1 g2 g3 g4 g5 g6 g7 g8 HSB
       -- what the difference is
       rw[spl0_sec (by clear a4 a5 a6 a7;have:=HJ.out;have:=HL.out;have:=HRL.out.1;omega),List.drop_zero,HY.out.1,HY.out.2.1,HL.out.2.2.2.2.2.2.2.2.1] at x4
       rw[spl_over (by rw[x2,HRL.out.1];clear a4 a5 a6 a7;have:=HJ.out;have:=HL.out;omega)] at x1
       have HW5:=Lz (HW4.out.putU x1 x6 ⟨λe=>HI.out.2.2.2.2.2.1 e.symm,HI.out.2.2.2.2.2.2.2,λe=>HD.out.2.1 e.symm⟩)
       have hVl:val (vs.take n)<B64^n:=by
        have:=val_lt _ (HT.out.2.1.take n)
        rwa [List.length_take,Nat.min_eq_left HL.out.2.2.2.2.2.2.2.1] at this
       obtain⟨hdb,S,v0,ur,kd⟩:=HKD.out HJ.out
       obtain⟨q1,q2⟩:=HQ.out.2.2 HJ.out
       have hnd:=near_div kd.v_pos q1 q2
       rw[(hdb.sec hVl).1] at x4
       have hkB:=val_lt _ x3
       rw[x2,HL.out.2.2.2.2.2.2.2.2.1] at hkB
       have HX:=Lz (And.intro x2 (And.intro x3 (And.intro x4 (And.intro x5 (And.intro hkB (And.intro hVl (And.intro hnd (And.intro hdb kd.v_pos))))))))
       clear x1 x2 x3 x4 x5 x6 hVl hdb kd q1 q2 hnd hkB
       have hjne:((j:Int)==(m:Int))=false:=by rw[beq_eq_false_iff_ne];have:=HJ.out;clear a4 a5 a6 a7;omega
       unfold wd at *
       go_upto_if 148 with fail
       go_cut [15,23] from 45 to 200 (λa15 a23 wx=>∃ (q:Nat) (rs2:List Nat),a15=.int .u64 (q:Nat)/\RowKit.Hid (DBW N s bq bu bv bh qs us vs n (j+1) rs2 ks hs2 w wx/\rs2.length=mn/\Words rs2/\q<B64/\DBs (val (us.take mn)) (val (vs.take n)) n m j rs2 (q :: ks)))
       case first=>
        obtain⟨x2,x3,x4,x5,hkB,hVl,hnd,hdb,hv0⟩:=HX.out
        rcases hnd with⟨hle,hd1,hd2⟩|⟨hlt,hq0,hd1,hd2⟩
        . obtain⟨hc0,hk⟩:=sub_none hkB hle x4
          have hst:=hdb.step (q:=qh) hVl (by rw[x2];exact HL.out.2.2.2.2.2.2.2.2.1) x3 HQ.out.1 (by rw[hk];exact Nat.sub_add_cancel hle) (by rw[hk,<-hd2];exact Nat.mod_lt _ hv0)
          have HF:=Lz (show DBW N s bq bu bv bh qs us vs n (j+1) (spl rs j ks2) ks hs2 w w5/\(spl rs j ks2).length=mn/\Words (spl rs j ks2)/\qh<B64/\DBs (val (us.take mn)) (val (vs.take n)) n m j (spl rs j ks2) (qh :: ks) from
           ⟨HW5.out,by rw[hst.len];exact HL.out.2.2.2.2.1.symm,hst.ws,HQ.out.1,hst⟩)
          have hc0I:(((c2:Nat):Int) != 0)=false:=by rw[hc0];rfl
          clear x2 x3 x4 x5 hkB hVl hdb hv0 hle hd1 hd2 hc0 hk hst HX
          go_wp2_with fail
          go_meet
          case rel=>exact⟨qh,_,rfl,HF.out⟩
        . obtain⟨hc1,hk⟩:=sub_one hlt x5 x4
          have hc0I:(((c2:Nat):Int) != 0)=true:=by rw[hc1];rfl
          obtain⟨k,hqk⟩:∃ k,qh=k+1:=⟨qh-1,by clear a4 a5 a6 a7;omega⟩
          have E1:=u64_pred hqk HQ.out.1
          obtain⟨rs',hrs'⟩:∃ r,r=spl rs j ks2:=⟨_,rfl⟩
          have hn1:n1=n+1:=HL.out.2.2.2.2.2.2.2.2.1
          have hjb:j+n<rs.length:=by rw[HRL.out.1];have:=HL.out;have:=HJ.out;clear a4 a5 a6 a7 E1;omega
          have hl':rs'.length=mn:=by rw[hrs',zzk (by rw[x2];clear a4 a5 a6 a7 E1;omega)];exact HRL.out.1
          have hw':Words rs':=by rw[hrs'];exact HRL.out.2.1.spl x3
          have hW5:=HW5.out
          rw[<-hrs'] at hW5
          obtain⟨w6,hw6⟩:∃ V,V=w5.drew:=⟨_,rfl⟩
          have HW6:=Lz (show DBW N s bq bu bv bh qs us vs n (j+1) rs' ks hs2 w w6 from by rw[hw6];exact hW5.drew 1)
          have hul:(spl us 0 rs').length=us.length:=spl0_len hl' HL.out.2.2.2.2.2.2.1
          have HAD:=Lz (addVV bu j n (cu-j) bu j (cu-j) bv 0 cv (spl us 0 rs') (spl us 0 rs') vs w6 HW6.out.u HW6.out.u HW6.out.v
           (by rw[hul];have:=HL.out;have:=HJ.out;clear a4 a5 a6 a7 E1;omega) (by rw[hul];have:=HL.out;have:=HJ.out;clear a4 a5 a6 a7 E1;omega) (by have:=HL.out;clear a4 a5 a6 a7 E1;omega)
           (HT.out.1.spl hw') HT.out.2.1 (.inr (Nat.le_refl _)) (.inl (λe=>HI.out.2.2.2.2.2.2.2 e.symm)) (by have:=HL.out;clear a4 a5 a6 a7 E1;omega))
          have HX2:=Lz (And.intro hlt (And.intro hd2 (And.intro hk (And.intro x2 (And.intro x3 (And.intro hdb (And.intro hv0 (And.intro hVl (And.intro hqk (And.intro hrs' (And.intro hjb (And.intro hl' (And.intro hw' hul)))))))))))))
          have a1:=A1.out
          have b7:(jn:Int)<mn:=by have:=HL.out;have:=HJ.out;have:=HRL.out.2.2.2.1;clear a1 a4 a5 a6 a7 E1;omega
          have g2:(j:Int)<=jn:=by have:=HRL.out.2.2.2.1;clear a1 a4 a5 a6 a7 E1;omega
          have g3:(jn:Int)<=cu:=by have:=HL.out;clear a1 a4 a5 a6 a7 E1;omega
          have g5:jn-j=n:=by have:=HRL.out.2.2.2.1;clear a1 a4 a5 a6 a7 E1;omega
          have g6:j<=jn:=by clear a1 a4 a5 a6 a7 E1;omega
          have g7:jn<=cu:=by clear a1 a4 a5 a6 a7 E1;omega
          clear x2 x3 x4 x5 hkB hVl hdb hv0 hlt hd1 hd2 hc1 hk HX hqk hrs' hn1 hjb hl' hw' hul hW5
          go_wp2_with fail
          go_still_tail 13,(by kernel_rfl)
          change wpList _ _ _ _ _ w5.drew
          rw[<-hw6]
          clear hw6
          go_wp2_with fail
          refine HAD.out.mono ?_
          rintro e w7 ⟨ks3,c3,rfl,y1,y2,y3,y4,y5,y6⟩
          clear g2 g3 g5 g6 g7 HAD
          obtain⟨hlt,hd2,hk,x2,x3,hdb,hv0,hVl,hqk,hrs',hjb,hl',hw',hul⟩:=HX2.out
          have hn1:n1=n+1:=HL.out.2.2.2.2.2.2.2.2.1
          rw[hn1] at x2
          -- the difference's words: n of them, and one more
          obtain⟨ka,hka⟩:∃ ka,ka=ks2.take n:=⟨_,rfl⟩
          obtain⟨y,hy⟩:∃ y,y=ks2.getD n 0:=⟨_,rfl⟩
          have hk2:ks2=ka ++ [y]:=by
           have e:=zwy ks2 n (by rw[x2];exact Nat.lt_succ_self n)
           rw[List.take_of_length_le (by rw[x2];exact Nat.le_refl _)] at e
           rw[hka,hy];exact e
          have hkal:ka.length=n:=by rw[hka,List.length_take,x2];exact Nat.min_eq_left (Nat.le_succ n)
          have hyB:y<B64:=by rw[hy];exact x3.getD _
          have hsec:((spl us 0 rs').drop j).take n=ka:=by
           rw[spl0_sec (by rw[hl',<-HRL.out.1];exact Nat.le_of_lt hjb),hrs',spl_drop (Nat.le_of_lt (Nat.lt_of_le_of_lt (Nat.le_add_right j n) hjb)),List.take_append_of_le_length (by rw[x2];exact Nat.le_succ n)]
           exact hka.symm
          rw[hsec,List.drop_zero] at y4
          rw[hk2,zyk,hkal] at hk
          obtain⟨rr,hrr⟩:∃ r,r=val (rs.drop j)%val (vs.take n):=⟨_,rfl⟩
          have hrlt:rr<val (vs.take n):=by rw[hrr];exact Nat.mod_lt _ hv0
          rw[<-hrr] at hd2
          have hqV:qh*val (vs.take n)=k*val (vs.take n)+val (vs.take n):=by rw[hqk,Nat.add_mul,Nat.one_mul]
          have hq2:k*val (vs.take n)<=val (rs.drop j):=by have:=(HQ.out.2.2 HJ.out).2;rwa [hqk,Nat.add_sub_cancel] at this
          have hz3:=val_lt _ y3
          rw[y2] at hz3
          have hab:=add_back (n:=n) (z:=val ks3) (t:=y) (c:=c3) (r:=rr) hz3 (Nat.lt_trans hrlt hVl) (by rw[Nat.mul_add];clear a1 a4 a5 a6 a7 E1;omega)
          have hlist:spl rs' j ks3=spl rs j (ks3 ++ [y]):=by rw[hrs',hk2];exact spl_part hkal y2 hjb
          rw[spl_over (by rw[y2,hl',<-HRL.out.1];exact Nat.le_of_lt hjb),hlist] at y1
          have hW7:=HW6.out.putU y1 y6 ⟨λe=>HI.out.2.2.2.2.2.1 e.symm,HI.out.2.2.2.2.2.2.2,λe=>HD.out.2.1 e.symm⟩
          have hLl:(spl rs j (ks3 ++ [y])).length=rs.length:=zzk (by rw[List.length_append,y2];exact hjb)
          have hjn:jn=j+n:=HRL.out.2.2.2.1
          have cjn:=y1.cell jn (by rw[spl0_len (hLl.trans HRL.out.1) HL.out.2.2.2.2.2.2.1];have:=HL.out;clear a1 a4 a5 a6 a7 E1;omega)
          rw[spl0_getD (by rw[hLl,hjn];exact hjb)] at cjn
          have hgy:(spl rs j (ks3 ++ [y])).getD jn 0=y:=by
           have e:(spl rs j (ks3 ++ [y])).drop j=(ks3 ++ [y])++rs.drop (j+(ks3 ++ [y]).length):=spl_drop (Nat.le_of_lt (Nat.lt_of_le_of_lt (Nat.le_add_right j n) hjb))
           have e2:(spl rs j (ks3 ++ [y])).getD (j+n) 0=((spl rs j (ks3 ++ [y])).drop j).getD n 0:=by rw[List.getD,List.getD,List.getElem?_drop]
           rw[hjn,e2,e,List.append_assoc,List.getD,List.getElem?_append_right (by rw[y2];exact Nat.le_refl _),y2,Nat.sub_self]
           rfl
          rw[hgy] at cjn
          have fjn:=y1.free jn
          have E2:=u64_over (a:=y) (b:=c3) (by rw[hab.2];exact Nat.le_refl _) hyB (Nat.lt_of_le_of_lt y5 (by decide))
          rw[hab.2,Nat.sub_self] at E2
          have hset:NatB (w7.setCell ⟨bu,jn,.none⟩ (wd 0)) bu (spl us 0 (spl rs j (ks3 ++ [0]))):=by
           have e:=y1.set jn 0
           rw[spl0,List.set_append_left _ _ (by rw[hLl,hjn];exact hjb),hjn,spl_set_at y2 hjb,hLl] at e
           have hL0:(spl rs j (ks3 ++ [0])).length=rs.length:=zzk (by rw[List.length_append,y2];exact hjb)
           rw[spl0,hL0,hjn]
           exact e
          have hW8:=hW7.putU hset (zzw w7 bu jn _) ⟨λe=>HI.out.2.2.2.2.2.1 e.symm,HI.out.2.2.2.2.2.2.2,λe=>HD.out.2.1 e.symm⟩
          have hst:=hdb.step (q:=k) (ss:=ks3 ++ [0]) hVl (by rw[List.length_append,y2];rfl) (y3.append (Words.one (by decide))) (Nat.lt_of_le_of_lt (Nat.le_succ k) (by rw[<-Nat.succ_eq_add_one] at hqk;rw[<-hqk];exact HQ.out.1))
           (by
            rw[zyk,Nat.mul_zero,Nat.add_zero,hab.1]
            clear a1 a4 a5 a6 a7 E1 E2
            omega)
           (by rw[zyk,Nat.mul_zero,Nat.add_zero,hab.1];exact hrlt)
          have HF:=Lz (show DBW N s bq bu bv bh qs us vs n (j+1) (spl rs j (ks3 ++ [0])) ks hs2 w (w7.setCell ⟨bu,jn,.none⟩ (wd 0))/\(spl rs j (ks3 ++ [0])).length=mn/\Words (spl rs j (ks3 ++ [0]))/\k<B64/\DBs (val (us.take mn)) (val (vs.take n)) n m j (spl rs j (ks3 ++ [0])) (k :: ks) from
           ⟨hW8,by rw[hst.len];exact HL.out.2.2.2.2.1.symm,hst.ws,hst.wk _ (List.mem_cons_self ..),hst⟩)
          clear y1 y2 y3 y4 y5 y6 hlt hd2 hk x2 x3 hdb hv0 hVl hqk hrs' hjb hl' hw' hul hn1 hka hy hk2 hkal hyB hsec hrlt hrr hqV hq2 hz3 hab hlist hW7 hLl hjn hgy hset hW8 hst HX2
          unfold wd at *
          go_wp2_with fail
          go_meet
          case rel=>exact⟨k,_,rfl,HF.out⟩
       case rest=>
        obtain⟨q,rs2,rfl,HF⟩:=hcut
        obtain⟨hW,hl2,hw2,hqB,hst⟩:=HF.out
        have cu1:=hW.u.cell jn1 (by rw[spl0,List.length_append];have:=HRL.out.2.2.2.2.1;have:=HL.out;clear a4 a5 a6 a7;omega)
        rw[spl0_getD (by rw[hl2];have:=HRL.out.2.2.2.2.1;have:=HL.out;clear a4 a5 a6 a7;omega)] at cu1
        obtain⟨t',ht'⟩:∃ t',t'=rs2.getD jn1 0:=⟨_,rfl⟩
        rw[<-ht'] at cu1
        have hks:j+1+ks.length<=qs.length:=by have:=hst.lk;rw[List.length_cons] at this;have:=HL.out;have:=HJ.out;clear a4 a5 a6 a7;omega
        have cq1:=hW.q.cell j (by rw[zzk hks];clear a4 a5 a6 a7;omega)
        have cqf:=hW.q.free j
        have hjm2:(j:Int)<m:=by have:=HJ.out;clear a4 a5 a6 a7;omega
        have HP:=Lz (And.intro (hW.putQ (q:=q) hks ⟨HI.out.2.2.2.2.2.1,HI.out.2.2.2.2.2.2.1,λe=>HD.out.1 e.symm⟩) (And.intro hl2 (And.intro hw2 (And.intro hst ht'))))
        have a1:=A1.out
        have a2:=A2.out
        clear hW hl2 hw2 hqB hst ht' hks HF HX
        unfold wd at *
        go_wp2_with fail
        go_roundw
        case rel=>
         obtain⟨p1,p2,p3,p4,p5⟩:=HP.out
         exact⟨j,t',_,rs2,q :: ks,hs2,rfl,rfl,⟨p1,by have:=HL.out;clear a1 a2 a4 a5 a6 a7;unfold wrap64;omega,by rw[p5,HRL.out.2.2.2.2.1],p2,p3,.inr p4⟩⟩
        case measure=>
         show(wrap64 ((j:Int)-1)+1).toNat<((j:Int)+1).toNat
         have:=HL.out
         clear a1 a2 a4 a5 a6 a7
         unfold wrap64
         omega
end Go.Proofs.YtohhkjamddojmaaGreatDoor.Big
