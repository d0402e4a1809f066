/- Quotient and remainder into Ints of whatever old contents. Lehmer's update of two numbers. A step of Euclid's algorithm on Ints: euclidUpdate. What Lehmer's update comes to. Lehmer's algorithm at numbers of several words: what its loop keeps. -/
import Derived.Test.YtohhkjamddojmaaGreatDoorIntH
import Derived.Test.YtohhkjamddojmaaGreatDoorRA
import Derived.Test.YtohhkjamddojmaaGreatDoorNI
import Derived.Test.YtohhkjamddojmaaGreatDoorIJ
import Derived.Test.YtohhkjamddojmaaGreatDoorLA
set_option maxRecDepth 100000
set_option maxHeartbeats 16000000
namespace Go.Proofs.YtohhkjamddojmaaGreatDoor.Big
open Go.RowKit
theorem FamR.writes {R:Nat->Prop} {w w':World} {zs:List Nat} {vs vs':List (Bool×Nat)} {ps ps':List (Option Addr)} {qs qs':List (List Nat)} (h:FamR R w zs vs ps qs) (I:Nat->Prop)
 (l1:vs'.length=zs.length) (l2:ps'.length=zs.length) (l3:qs'.length=zs.length)
 (hsame:∀ i,¬I i->vs'[i]? = vs[i]? ∧ ps'[i]? = ps[i]? ∧ qs'[i]? = qs[i]?)
 (hR:∀ i z,I i->zs[i]? = some z->¬R z)
 (hg:Grow w w' (λk=>∃ i,I i/\(zs[i]? = some k\/∃ p,ps[i]? = some p/\blk p=some k)))
 (hone:∀ (i z:Nat) (v:Bool×Nat) (p:Option Addr) (q:List Nat),I i->zs[i]? = some z->vs'[i]? = some v->ps'[i]? = some p->qs'[i]? = some q->OneR w' z v p q)
 (hfresh:∀ (i:Nat) (p p':Option Addr),I i->ps[i]? = some p->ps'[i]? = some p'->Fresh w p p')
 (hapart:∀ (i j:Nat) (p q:Option Addr) (b:Nat),I i->I j->ps'[i]? = some p->ps'[j]? = some q->blk p=some b->blk q=some b->i=j) :
 FamR R w' zs vs' ps' qs'/\Kept R w w':=by
 have hzlt:∀ j x,zs[j]? = some x->x<w.heap.size:=λj x hj=>by
  obtain⟨_,_,_,_,_,_,o⟩:=h.at hj;exact o.str.lt
 have hplt:∀ (j:Nat) (x:Option Addr) (b:Nat),ps[j]? = some x->blk x=some b->b<w.heap.size:=λj x b hj hb=>by
  have hj2:j<zs.length:=by rw[<-h.lenP];exact(List.getElem?_eq_some_iff.1 hj).1
  obtain⟨_,_,_,_,e,_,o⟩:=h.at (List.getElem?_eq_getElem hj2)
  rw[hj] at e;cases e
  exact o.num.lt b hb
 have hold:∀ (i:Nat) (p':Option Addr),ps'[i]? = some p'->∃ p,ps[i]? = some p:=λi p' hp=>by
  have:i<ps.length:=by rw[h.lenP,<-l2];exact(List.getElem?_eq_some_iff.1 hp).1
  exact⟨_,List.getElem?_eq_getElem this⟩
 -- the new memory of number i is its old memory or newer than w
 have hnew:∀ (i:Nat) (p':Option Addr) (b:Nat),ps'[i]? = some p'->blk p'=some b->(∃ p,ps[i]? = some p/\blk p=some b)\/(I i/\w.heap.size<=b):=λi p' b hp hb=>by
  by_cases hI:I i
  . obtain⟨p,hp0⟩:=hold i p' hp
    rcases hfresh i p p' hI hp0 hp with rfl|hf
    . exact .inl ⟨_,hp0,hb⟩
    . exact .inr ⟨hI,hf b hb⟩
  . rw[(hsame i hI).2.1] at hp
    exact .inl ⟨_,hp,hb⟩
 refine⟨⟨λk hk=>Nat.lt_of_lt_of_le (h.old k hk) hg.size,l1,l2,l3,?_,?_,h.zz,?_,?_⟩,?_⟩
 . intro j x u s t hj hv hs ht
   by_cases hI:I j
   . exact hone j x u s t hI hj hv hs ht
   . obtain⟨e1,e2,e3⟩:=hsame j hI
     rw[e1] at hv;rw[e2] at hs;rw[e3] at ht
     refine(h.one j x u s t hj hv hs ht).grow hg ?_ ?_
     . rintro⟨i,hi,e|⟨p,hp,e⟩⟩
       . exact hI (h.zz j i x hj e ▸ hi)
       . exact h.zp j i x p hj hp e
     . rintro b hb ⟨i,hi,e|⟨p,hp,e⟩⟩
       . exact h.zp i j b s e hs hb
       . exact hI (h.pp j i s p b hs hp hb e ▸ hi)
 . intro j x s hj hs hx b hb
   rcases hnew j s b hs hb with⟨p,hp,e⟩|⟨_,e⟩
   . exact h.own j x p hj hp hx b e
   . intro hr;have:=h.old b hr;omega
 . intro j k s t b hs ht hb hb2
   rcases hnew j s b hs hb with⟨p,hp,e⟩|⟨hI,e⟩
   . rcases hnew k t b ht hb2 with⟨p2,hp2,e2⟩|⟨_,e2⟩
     . exact h.pp j k p p2 b hp hp2 e e2
     . have:=hplt j p b hp e;omega
   . rcases hnew k t b ht hb2 with⟨p2,hp2,e2⟩|⟨hI2,_⟩
     . have:=hplt k p2 b hp2 e2;omega
     . exact hapart j k s t b hI hI2 hs ht hb hb2
 . intro j k x s hj hs hb
   rcases hnew k s x hs hb with⟨p,hp,e⟩|⟨_,e⟩
   . exact h.zp j k x p hj hp e
   . have:=hzlt j x hj;omega
 . refine hg.weaken ?_
   rintro k _ ⟨i,hi,e|⟨p,hp,e⟩⟩
   . exact hR i k hi e
   . have hi2:i<zs.length:=by rw[<-h.lenP];exact(List.getElem?_eq_some_iff.1 hp).1
     have hz:=List.getElem?_eq_getElem hi2
     exact h.own i _ p hz hp (hR i _ hi hz) k e
theorem FamR.write2 {R:Nat->Prop} {w w':World} {zs:List Nat} {vs:List (Bool×Nat)} {ps:List (Option Addr)} {qs:List (List Nat)} (h:FamR R w zs vs ps qs) {i j z r:Nat} {p p2 p' q':Option Addr} {v u:Bool×Nat} {cs' ds':List Nat}
 (hij:i≠j) (hi:zs[i]? = some z) (hj:zs[j]? = some r) (hp:ps[i]? = some p) (hp2:ps[j]? = some p2) (hR:¬R z) (hR2:¬R r)
 (hg:Grow w w' (λk=>(k=z\/k=r)\/(blk p=some k\/blk p2=some k))) (ho:OneR w' z v p' cs') (ho2:OneR w' r u q' ds') (hf:Fresh w p p') (hf2:Fresh w p2 q') (ha:Apart p' q') :
 FamR R w' zs ((vs.set i v).set j u) ((ps.set i p').set j q') ((qs.set i cs').set j ds')/\Kept R w w':=by
 refine h.writes (λk=>k=i\/k=j) (by simp[h.lenV]) (by simp[h.lenP]) (by simp[h.lenQ]) ?_ ?_ ?_ ?_ ?_ ?_
 . intro k hk
   have h1:k≠i:=λe=>hk (.inl e)
   have h2:k≠j:=λe=>hk (.inr e)
   rw[List.getElem?_set_ne (Ne.symm h2),List.getElem?_set_ne (Ne.symm h1),List.getElem?_set_ne (Ne.symm h2),List.getElem?_set_ne (Ne.symm h1),List.getElem?_set_ne (Ne.symm h2),List.getElem?_set_ne (Ne.symm h1)]
   exact⟨rfl,rfl,rfl⟩
 . rintro k x (rfl|rfl) hk
   . rw[hi] at hk;cases hk;exact hR
   . rw[hj] at hk;cases hk;exact hR2
 . refine hg.weaken ?_
   rintro k _ ((rfl|rfl)|(e|e))
   . exact⟨i,.inl rfl,.inl hi⟩
   . exact⟨j,.inr rfl,.inl hj⟩
   . exact⟨i,.inl rfl,.inr ⟨p,hp,e⟩⟩
   . exact⟨j,.inr rfl,.inr ⟨p2,hp2,e⟩⟩
 . rintro k x a s t hk hx hv hs ht
   rcases getElem?_set_cases hv with⟨e,rfl⟩|⟨hne,hv⟩
   . subst e
     rw[hj] at hx;cases hx
     rcases getElem?_set_cases hs with⟨_,rfl⟩|⟨hne,_⟩
     . rcases getElem?_set_cases ht with⟨_,rfl⟩|⟨hne,_⟩
       . exact ho2
       . exact absurd rfl hne
     . exact absurd rfl hne
   . rcases hk with e|e
     . subst e
       rw[hi] at hx;cases hx
       rcases getElem?_set_cases hs with⟨e,_⟩|⟨_,hs⟩
       . exact absurd e hij
       . rcases getElem?_set_cases ht with⟨e,_⟩|⟨_,ht⟩
         . exact absurd e hij
         . rcases getElem?_set_cases hv with⟨_,rfl⟩|⟨hne,_⟩
           . rcases getElem?_set_cases hs with⟨_,rfl⟩|⟨hne,_⟩
             . rcases getElem?_set_cases ht with⟨_,rfl⟩|⟨hne,_⟩
               . exact ho
               . exact absurd rfl hne
             . exact absurd rfl hne
           . exact absurd rfl hne
     . exact absurd e hne
 . rintro k s t hk hs ht
   rcases getElem?_set_cases ht with⟨e,rfl⟩|⟨hne,ht⟩
   . subst e;rw[hp2] at hs;cases hs;exact hf2
   . rcases getElem?_set_cases ht with⟨e,rfl⟩|⟨hne2,ht⟩
     . subst e;rw[hp] at hs;cases hs;exact hf
     . rcases hk with e|e
       . exact absurd e hne2
       . exact absurd e hne
 . rintro k m s t b hk hm hs ht hb hb2
   rcases getElem?_set_cases hs with⟨e1,e2⟩|⟨hne,hs⟩
   . rcases getElem?_set_cases ht with⟨e3,e4⟩|⟨hne2,ht⟩
     . rw[e1,e3]
     . rcases getElem?_set_cases ht with⟨e3,e4⟩|⟨hne3,_⟩
       . subst e2 e4;exact absurd hb (ha b hb2)
       . rcases hm with e|e
         . exact absurd e hne3
         . exact absurd e hne2
   . rcases getElem?_set_cases hs with⟨e1,e2⟩|⟨hne1,_⟩
     . rcases getElem?_set_cases ht with⟨e3,e4⟩|⟨hne2,ht⟩
       . subst e2 e4;exact absurd hb2 (ha b hb)
       . rcases getElem?_set_cases ht with⟨e3,e4⟩|⟨hne3,_⟩
         . rw[e1,e3]
         . rcases hm with e|e
           . exact absurd e hne3
           . exact absurd e hne2
     . rcases hk with e|e
       . exact absurd e hne1
       . exact absurd e hne
theorem AbsDone2.finishR {R:Nat->Prop} {w wx:World} {zs:List Nat} {vs:List (Bool×Nat)} {ps:List (Option Addr)} {qs:List (List Nat)} (h:FamR R w zs vs ps qs) {i j z r:Nat} {p p2:Option Addr} {nz nr b b2:Bool} {q m:Nat} {v u:Bool×Nat}
 (hij:i≠j) (hi:zs[i]? = some z) (hj:zs[j]? = some r) (hp:ps[i]? = some p) (hp2:ps[j]? = some p2) (hR:¬R z) (hR2:¬R r) (ha:AbsDone2 w z r p p2 nz nr q m wx) (hv:v.2=q) (hu:u.2=m) (hb:b=v.1) (hb2:b2=u.1) :
 IntsR R ((wx.setCell ⟨z,0,.none⟩ (.bool b)).setCell ⟨r,0,.none⟩ (.bool b2)) zs ((vs.set i v).set j u)/\Kept R w ((wx.setCell ⟨z,0,.none⟩ (.bool b)).setCell ⟨r,0,.none⟩ (.bool b2)):=by
 have hzr:z≠r:=λe=>hij (h.zz i j z hi (e ▸ hj))
 obtain⟨p',cs',q',ds',h1,h2,h3,h4,h5,h6,h7,h8,⟨e1,e2⟩,⟨e3,e4⟩⟩:=ha
 have g1:Grow wx (wx.setCell ⟨z,0,.none⟩ (.bool b)) (λk=>k=z):=(Grow.of (zzw wx z 0 _)).weaken (λk _ e=>by cases e;rfl)
 have g2:Grow (wx.setCell ⟨z,0,.none⟩ (.bool b)) ((wx.setCell ⟨z,0,.none⟩ (.bool b)).setCell ⟨r,0,.none⟩ (.bool b2)) (λk=>k=r):=(Grow.of (zzw _ r 0 _)).weaken (λk _ e=>by cases e;rfl)
 have gg:=(g1.weaken (λ_ _ e=>.inl e):Grow _ _ (λk=>k=z\/k=r)).trans (g2.weaken (λ_ _ e=>.inr e))
 subst hv hu hb hb2
 have ho:OneR ((wx.setCell ⟨z,0,.none⟩ (.bool (v.1))).setCell ⟨r,0,.none⟩ (.bool (u.1))) z v p' cs':=⟨(h1.set0 _).grow g2 hzr,h3.grow gg (by rintro b hb (e|e);exact e1 (e ▸ hb);exact e2 (e ▸ hb))⟩
 have ho2:OneR ((wx.setCell ⟨z,0,.none⟩ (.bool (v.1))).setCell ⟨r,0,.none⟩ (.bool (u.1))) r u q' ds':=⟨(h2.grow g1 (Ne.symm hzr)).set0 _,h4.grow gg (by rintro b hb (e|e);exact e3 (e ▸ hb);exact e4 (e ▸ hb))⟩
 obtain⟨hF,hK⟩:=h.write2 hij hi hj hp hp2 hR hR2 (h5.trans (gg.weaken (λ_ _ e=>.inl e))) ho ho2 h6 h7 h8
 exact⟨⟨_,_,hF⟩,hK⟩
def QRPR (R:Nat->Prop) (zs:List Nat) (vs:List (Bool×Nat)) (z r:Nat) (w:World) (e:Ending) (w':World):Prop:=e=.returned (.tuple #[ptr z,ptr r])/\IntsR R w' zs vs/\Kept R w w'
theorem quoRemR (R:Nat->Prop) (w:World) (zs:List Nat) (vs:List (Bool×Nat)) (ps:List (Option Addr)) (qs:List (List Nat)) (h:FamR R w zs vs ps qs) (i j k m z x y r:Nat) (a b:Int) (hi:zs[i]? = some z) (hj:zs[j]? = some x) (hk:zs[k]? = some y) (hm:zs[m]? = some r) (him:i≠m) (hR:¬R z) (hR2:¬R r)
 (ha:vs[j]? = some (toR a)) (hb:vs[k]? = some (toR b)) (hla:(dg a.natAbs).length<=80000) (hdiv:DivOK b.natAbs) (htab:Tab w) :
 Calls Tryz.prog 157 #[ptr z,ptr x,ptr y,ptr r] w (QRPR R zs ((vs.set i (toR (a.tdiv b))).set m (toR (a.tmod b))) z r w):=by
 obtain⟨v,p,q,hv,hp,hq,oz⟩:=h.at hi
 obtain⟨u,p2,q2,hu,hp2,hq2,or⟩:=h.at hm
 obtain⟨a',px,dx,ha',hpx,hqx,ox⟩:=h.at hj
 obtain⟨b',py,dy,hb',hpy,hqy,oy⟩:=h.at hk
 obtain rfl:toR a=a':=by rw[ha] at ha';exact Option.some.inj ha'
 obtain rfl:toR b=b':=by rw[hb] at hb';exact Option.some.inj hb'
 have hzr:z≠r:=λe=>him (h.zz i m z hi (e ▸ hm))
 have n1:blk p≠some z:=h.zp i i z p hi hp
 have n2:blk p≠some r:=h.zp m i r p hm hp
 have n3:blk p2≠some z:=h.zp i m z p2 hi hp2
 have n4:blk p2≠some r:=h.zp m m r p2 hm hp2
 have hap:Apart p p2:=λc h1 h2=>him (h.pp i m p p2 c hp hp2 h1 h2)
 have HOP:=Lz λn=>hdiv p p2 px py (dg v.2).length (dg u.2).length a.natAbs q q2 dx dy (w.drewN n) (oz.num.buf.kept (zzz _ _ .none) (λ_ _=>by simp)) (or.num.buf.kept (zzz _ _ .none) (λ_ _=>by simp)) hap (ox.num.kept (zzz _ _ .none) (λ_ _=>by simp)) (oy.num.kept (zzz _ _ .none) (λ_ _=>by simp)) hla (htab.kept (zzz _ _ .none) (λ_ e=>by cases e))
 have hz1:=oz.str.cell1
 have hr1:=or.str.cell1
 have hx1:=ox.str.cell1
 have hy1:=oy.str.cell1
 have HF:=Lz h
 have HSZ:=Lz oz.str
 have HSR:=Lz or.str
 have HZR:=Lz hzr
 have N1:=Lz n1
 have N2:=Lz n2
 have N3:=Lz n3
 have N4:=Lz n4
 have HHI:=Lz hi
 have HHM:=Lz hm
 have HHP:=Lz hp
 have HHP2:=Lz hp2
 have HHR:=Lz hR
 have HHR2:=Lz hR2
 have HIM:=Lz him
 have sgnAt:∀ (o c:Nat) (t:Int),zs[o]? = some c->vs[o]? = some (toR t)->∀ wx,AbsDone2 w z r p p2 (v.1) (u.1) (a.natAbs/b.natAbs) (a.natAbs%b.natAbs) wx->wx.cell? ⟨c,0,.none⟩=some (.bool (decide (t<0))):=by
  rintro o c t hc ht wx ⟨p',cs',q',ds',h1,h2,h3,h4,h5,-⟩
  obtain⟨t',pt,qt,ht',hpt,hqt,ot⟩:=h.at hc
  obtain rfl:toR t=t':=by rw[ht] at ht';exact Option.some.inj ht'
  by_cases hcz:c=z
  . subst hcz
    have e:=ot.str.cell0
    rw[oz.str.cell0] at e
    rw[h1.cell0,Option.some.inj e];rfl
  . by_cases hcr:c=r
    . subst hcr
      have e:=ot.str.cell0
      rw[or.str.cell0] at e
      rw[h2.cell0,Option.some.inj e];rfl
    . refine(ot.str.grow h5 ?_).cell0
      rintro((e|e)|(e|e))
      . exact hcz e
      . exact hcr e
      . exact h.zp o i c p hc hp e
      . exact h.zp o m c p2 hc hp2 e
 have HX0:=Lz (sgnAt j x a hj ha)
 have HY0:=Lz (sgnAt k y b hk hb)
 have HQ:=Lz (Int.natAbs_tdiv a b)
 have HM:=Lz (Int.natAbs_tmod a b)
 have HNQ:=Lz (sign_tdiv a b)
 have HNM:=Lz (sign_tmod a b)
 clear h hi hj hk hm hR hR2 ha ha' hb hb' hv hp hq hu hp2 hq2 hpx hqx hpy hqy oz or ox oy n1 n2 n3 n4 hap hla hdiv htab hzr him sgnAt
 unfold ptr
 go_enter Tryz.func157,Tryz.ntmps157
 go_upto_region 1 with fail
 go_cut [] from 10 (λwx=>AbsDone2 w z r p p2 (v.1) (u.1) (a.natAbs/b.natAbs) (a.natAbs%b.natAbs) wx)
 case first=>
  go_region_with (go_at_call 178;refine(HOP.out _).mono ?_;rintro e w1 ⟨p',cs',q',ds',rfl,hn,hmm,hg,hf,hf2,hap⟩;have hg':=(Grow.none (zzz w _ .none) _).trans hg;have hsz:=HSZ.out.grow hg' (by rintro(e|e);exact N1.out e;exact N3.out e);have hsr:=HSR.out.grow hg' (by rintro(e|e);exact N2.out e;exact N4.out e);have hc1:=hsz.cell1;have hf1:=hsz.free 1;have hc2:∀ s,(w1.setCell ⟨z,1,.none⟩ s).cell? ⟨r,1,.none⟩=some _:=λs=>(hsr.grow ((Grow.of (zzw w1 z 1 s)).weaken (λk _ e=>by cases e;rfl):Grow _ _ (λk=>k=z)) (Ne.symm HZR.out)).cell1;have hf2':=hsr.free 1;have HN:=Lz hn;have HMM:=Lz hmm;have HG:=Lz hg;have HFr:=Lz hf;have HFr2:=Lz hf2;have HAP:=Lz hap;clear hn hmm hg hg' hf hf2 hap hsz hsr)
  all_goals
   go_wp2_with fail
   go_meet
   case rel=>exact AbsDone2.of HZR.out HSZ.out HSR.out N1.out N2.out N3.out N4.out (zzz _ _ _) HN.out HMM.out HG.out HFr.out HFr2.out HAP.out
 case rest=>
  have HA:=Lz hcut
  have hx0:=HX0.out _ hcut
  have hy0:=HY0.out _ hcut
  obtain⟨p',cs',q',ds',h1,h2,h3,h4,h5,h6⟩:=hcut
  have hcz0:=h1.cell0
  have hcz1:=h1.cell1
  have hfz:=h1.free 0
  have hcr0:=h2.cell0
  have hcr1:=h2.cell1
  have hfr:=h2.free 0
  have hzr:=HZR.out
  have hrz:=Ne.symm HZR.out
  clear h1 h2 h3 h4 h5 h6 hz1 hr1 hx1 hy1
  obtain⟨na,hna⟩:∃ na,na=decide (a<0):=⟨_,rfl⟩
  obtain⟨nb,hnb⟩:∃ nb,nb=decide (b<0):=⟨_,rfl⟩
  rw[<-hna] at hx0
  rw[<-hnb] at hy0
  rw[<-hna] at HNQ HNM
  rw[<-hnb] at HNQ
  have E0:=Lz (λh=>zero_sign (Int.natAbs_tdiv a b) h:a.natAbs/b.natAbs=0->false=decide (a.tdiv b<0))
  have E1:=Lz (λh=>zero_sign (Int.natAbs_tmod a b) h:a.natAbs%b.natAbs=0->false=decide (a.tmod b<0))
  clear hna hnb
  by_cases hq0:a.natAbs/b.natAbs=0
  . have EQ:=Lz (E0.out hq0)
    have hl0:(dg (a.natAbs/b.natAbs)).length=0:=by rw[hq0,zyv];rfl
    rw[hl0] at hcz1
    clear hq0 hl0
    by_cases hm0:a.natAbs%b.natAbs=0
    . have EM:=Lz (E1.out hm0)
      have hl0:(dg (a.natAbs%b.natAbs)).length=0:=by rw[hm0,zyv];rfl
      rw[hl0] at hcr1
      clear hm0 hl0
      go_wp2_with fail
      go_region
      all_goals
       go_wp2_with fail
       go_ret2
       exact⟨rfl,(HA.out.drew _).finishR HF.out HIM.out HHI.out HHM.out HHP.out HHP2.out HHR.out HHR2.out HQ.out HM.out EQ.out EM.out⟩
    . have EM:=Lz (HNM.out hm0)
      have hl2:=zyw hm0
      clear hm0
      generalize (dg (a.natAbs%b.natAbs)).length=len at *
      go_wp2_with fail
      go_region
      all_goals
       go_wp2_with fail
       go_ret2
       exact⟨rfl,(HA.out.drew _).finishR HF.out HIM.out HHI.out HHM.out HHP.out HHP2.out HHR.out HHR2.out HQ.out HM.out EQ.out EM.out⟩
  . have EQ:=Lz (HNQ.out hq0)
    have hl1:=zyw hq0
    clear hq0
    generalize (dg (a.natAbs/b.natAbs)).length=len1 at *
    by_cases hm0:a.natAbs%b.natAbs=0
    . have EM:=Lz (E1.out hm0)
      have hl0:(dg (a.natAbs%b.natAbs)).length=0:=by rw[hm0,zyv];rfl
      rw[hl0] at hcr1
      clear hm0 hl0
      go_wp2_with fail
      go_region
      all_goals
       go_wp2_with fail
       go_ret2
       exact⟨rfl,(HA.out.drew _).finishR HF.out HIM.out HHI.out HHM.out HHP.out HHP2.out HHR.out HHR2.out HQ.out HM.out EQ.out EM.out⟩
    . have EM:=Lz (HNM.out hm0)
      have hl2:=zyw hm0
      clear hm0
      generalize (dg (a.natAbs%b.natAbs)).length=len at *
      go_wp2_with fail
      go_region
      all_goals
       go_wp2_with fail
       go_ret2
       exact⟨rfl,(HA.out.drew _).finishR HF.out HIM.out HHI.out HHM.out HHP.out HHP2.out HHR.out HHR2.out HQ.out HM.out EQ.out EM.out⟩
end Go.Proofs.YtohhkjamddojmaaGreatDoor.Big

set_option maxRecDepth 100000
set_option maxHeartbeats 16000000
namespace Go.Proofs.YtohhkjamddojmaaGreatDoor.Big
open Go.RowKit
theorem sz_mulw {a u k:Nat} (h:Sz k (a:Int)) (hu:u<B64):Sz (k+64) ((a*u:Nat):Int):=by
 unfold Sz at *
 rw[Int.natAbs_natCast] at *
 rw[Nat.pow_add]
 exact Nat.mul_lt_mul'' h (by unfold B64 at hu;omega)
attribute [local go_sem] ptr
attribute [local irreducible] Sz
section
variable {R : Nat → Prop} {w0 w : World}
theorem lehmerUpd {L:List (Nat×(Bool×Nat))} (h:OwnR R w0 w L) (iA iB iq ir:Nat) {A B q r:Nat} {a b vq vr:Bool×Nat} (hA:L[iA]? = some (A,a)) (hB:L[iB]? = some (B,b)) (hq:L[iq]? = some (q,vq)) (hr:L[ir]? = some (r,vr))
 (dAB:iA≠iB) (dAq:iA≠iq) (dAr:iA≠ir) (dBq:iB≠iq) (dBr:iB≠ir) (dqr:iq≠ir) (RA:¬R A) (RB:¬R B) (Rq:¬R q) (Rr:¬R r) (u0 u1 v0 v1:Nat) (even:Bool) (b0:u0<B64) (b1:u1<B64) (b2:v0<B64) (b3:v1<B64)
 (sa:Sz 600000 (a.2:Int)) (sb:Sz 600000 (b.2:Int)) :
 Calls Tryz.prog 193 #[ptr A,ptr B,ptr q,ptr r,wd u0,wd u1,wd v0,wd v1,.bool even] w (λe w'=>e=.returned (.tuple #[])/\OwnR R w0 w' ((((L.set iq (q,(b.1 != even,b.2*v0))).set ir (r,(a.1 != even,a.2*u1))).set iA (A,toR (ofR (a.1 != !even,a.2*u0)+ofR (b.1 != even,b.2*v0)))).set iB (B,toR (ofR (b.1 != !even,b.2*v1)+ofR (a.1 != even,a.2*u1))))):=by
 have la:=(List.getElem?_eq_some_iff.1 hA).1
 have lb:=(List.getElem?_eq_some_iff.1 hB).1
 have lq:=(List.getElem?_eq_some_iff.1 hq).1
 have lr:=(List.getElem?_eq_some_iff.1 hr).1
 have k640:∀ {v:Int},Sz 600000 v->Sz 640000 v:=λh=>h.le (by decide)
 have k664:∀ {v:Int},Sz (600000+64) v->Sz 640000 v:=λh=>h.le (by decide)
 have C1:=Lz (rawMulWO h iq iB even v0 hq hB Rq (k640 sb) b2)
 have C2:=Lz (λw1 (h1:OwnR R w0 w1 (L.set iq (q,(b.1 != even,b.2*v0))))=>rawMulWO h1 ir iA even u1 (v:=vr) (a:=a) (by rw[List.getElem?_set_ne dqr];exact hr) (by rw[List.getElem?_set_ne dAq.symm];exact hA) Rr (k640 sa) b1)
 obtain⟨L2,hL2⟩:∃ L2,L2=(L.set iq (q,(b.1 != even,b.2*v0))).set ir (r,(a.1 != even,a.2*u1)):=⟨_,rfl⟩
 have eA2:L2[iA]? = some (A,a):=by rw[hL2,List.getElem?_set_ne dAr.symm,List.getElem?_set_ne dAq.symm];exact hA
 have eB2:L2[iB]? = some (B,b):=by rw[hL2,List.getElem?_set_ne dBr.symm,List.getElem?_set_ne dBq.symm];exact hB
 have eq2:L2[iq]? = some (q,(b.1 != even,b.2*v0)):=by rw[hL2,List.getElem?_set_ne dqr.symm,List.getElem?_set_self lq]
 have er2:L2[ir]? = some (r,(a.1 != even,a.2*u1)):=by rw[hL2,List.getElem?_set_self (by rw[List.length_set];exact lr)]
 have l2A:iA<L2.length:=(List.getElem?_eq_some_iff.1 eA2).1
 have l2B:iB<L2.length:=(List.getElem?_eq_some_iff.1 eB2).1
 have C3:=Lz (λw1 (h1:OwnR R w0 w1 L2)=>rawMulWO h1 iA iA (!even) u0 eA2 eA2 RA (k640 sa) b0)
 have C4:=Lz (λw1 (h1:OwnR R w0 w1 (L2.set iA (A,(a.1 != !even,a.2*u0))))=>rawMulWO h1 iB iB (!even) v1 (v:=b) (a:=b) (by rw[List.getElem?_set_ne dAB];exact eB2) (by rw[List.getElem?_set_ne dAB];exact eB2) RB (k640 sb) b3)
 have C5:=Lz (λw1 (h1:OwnR R w0 w1 ((L2.set iA (A,(a.1 != !even,a.2*u0))).set iB (B,(b.1 != !even,b.2*v1))))=>
  rawAddO h1 iA iA iq (x:=A) (y:=q) (v:=(a.1 != !even,a.2*u0)) (a:=(a.1 != !even,a.2*u0)) (b:=(b.1 != even,b.2*v0)) (by rw[List.getElem?_set_ne dAB.symm,List.getElem?_set_self l2A]) (by rw[List.getElem?_set_ne dAB.symm,List.getElem?_set_self l2A]) (by rw[List.getElem?_set_ne dBq,List.getElem?_set_ne dAq];exact eq2) RA (k664 (sz_mulw sa b0)) (k664 (sz_mulw sb b2)))
 have eL:∀ x' y',(((L2.set iA (A,(a.1 != !even,a.2*u0))).set iB (B,(b.1 != !even,b.2*v1))).set iA x').set iB y'=(L2.set iA x').set iB y':=λx' y'=>by
  rw[List.set_comm _ _ dAB.symm,List.set_set,List.set_set]
 have C6:=Lz (λw1 (h1:OwnR R w0 w1 (((L2.set iA (A,(a.1 != !even,a.2*u0))).set iB (B,(b.1 != !even,b.2*v1))).set iA (A,toR (ofR (a.1 != !even,a.2*u0)+ofR (b.1 != even,b.2*v0)))))=>
  rawAddO h1 iB iB ir (x:=B) (y:=r) (v:=(b.1 != !even,b.2*v1)) (a:=(b.1 != !even,b.2*v1)) (b:=(a.1 != even,a.2*u1)) (by rw[List.getElem?_set_ne dAB,List.getElem?_set_self (by rw[List.length_set];exact l2B)]) (by rw[List.getElem?_set_ne dAB,List.getElem?_set_self (by rw[List.length_set];exact l2B)]) (by rw[List.getElem?_set_ne dAr,List.getElem?_set_ne dBr,List.getElem?_set_ne dAr];exact er2) RB (k664 (sz_mulw sb b3)) (k664 (sz_mulw sa b1)))
 have HEL:=Lz eL
 have HL2:=Lz hL2
 rw[<-hL2]
 rw[<-hL2] at C2
 clear h hA hB hq hr dAB dAq dAr dBq dBr dqr RA RB Rq Rr b0 b1 b2 b3 sa sb la lb lq lr k640 k664 eA2 eB2 eq2 er2 l2A l2B eL hL2
 unfold ptr at *
 go_enter Tryz.func193,Tryz.ntmps193
 go_wp2_with fail
 refine C1.out.mono ?_
 rintro e w1 ⟨rfl,h1⟩
 have K2:=Lz (C2.out _ h1)
 clear h1 C1 C2
 go_wp2_with fail
 refine K2.out.mono ?_
 rintro e w2 ⟨rfl,h2⟩
 have K3:=Lz (C3.out _ h2)
 clear h2 K2 C3
 go_wp2_with fail
 refine K3.out.mono ?_
 rintro e w3 ⟨rfl,h3⟩
 have K4:=Lz (C4.out _ h3)
 clear h3 K3 C4
 go_wp2_with fail
 refine K4.out.mono ?_
 rintro e w4 ⟨rfl,h4⟩
 have K5:=Lz (C5.out _ h4)
 clear h4 K4 C5
 go_wp2_with fail
 refine K5.out.mono ?_
 rintro e w5 ⟨rfl,h5⟩
 have K6:=Lz (C6.out _ h5)
 clear h5 K5 C6
 go_wp2_with fail
 refine K6.out.mono ?_
 rintro e w6 ⟨rfl,h6⟩
 rw[HEL.out] at h6
 have H6:=Lz h6
 clear h6 K6
 go_wp2_with fail
 first|go_end0|refine bodyPost_ret (results_none rfl _ _ _) rfl ?_
 exact⟨rfl,H6.out⟩
end
end Go.Proofs.YtohhkjamddojmaaGreatDoor.Big

set_option maxRecDepth 100000
set_option maxHeartbeats 16000000
namespace Go.Proofs.YtohhkjamddojmaaGreatDoor.Big
open Go.RowKit
attribute [local go_sem] ptr
theorem sz_tdiv {n:Nat} {a b:Int} (h:Sz n a):Sz n (a.tdiv b):=by
 unfold Sz at *
 rw[Int.natAbs_tdiv]
 exact Nat.lt_of_le_of_lt (Nat.div_le_self _ _) h
theorem ofR_mul (U:Int) (n:Bool) (u:Nat):ofR ((toR U).1 != n,(toR U).2*u)=if n then -(U*u) else U*u:=by
 have e:(toR U).2=U.natAbs:=rfl
 have e1:(toR U).1=decide (U<0):=rfl
 rw[e,e1]
 unfold ofR
 by_cases h:U<0
 . have h2:(U.natAbs:Int)=-U:=by omega
   cases n <;> simp[h] <;> rw[h2] <;> simp[Int.neg_mul]
 . have h2:(U.natAbs:Int)=U:=by omega
   cases n <;> simp[h] <;> rw[h2]
attribute [local irreducible] Sz
section
variable {R : Nat → Prop} {w0 w : World}
theorem quoRemRO {L:List (Nat×(Bool×Nat))} (h:OwnR R w0 w L) (i j k m:Nat) {z x y r:Nat} {v u:Bool×Nat} {a b:Int} (hi:L[i]? = some (z,v)) (hj:L[j]? = some (x,toR a)) (hk:L[k]? = some (y,toR b)) (hm:L[m]? = some (r,u)) (him:i≠m) (hR:¬R z) (hR2:¬R r) (sa:Sz 640000 a) (hdiv:DivOK b.natAbs) :
 Calls Tryz.prog 157 #[ptr z,ptr x,ptr y,ptr r] w λe w'=>e=.returned (.tuple #[ptr z,ptr r])/\OwnR R w0 w' ((L.set i (z,toR (a.tdiv b))).set m (r,toR (a.tmod b))):=by
 obtain⟨ps,qs,hf⟩:=h.ints
 refine(quoRemR R w _ _ ps qs hf i j k m z x y r a b (raw1 hi) (raw1 hj) (raw1 hk) (raw1 hm) him hR hR2 (raw2 hj) (raw2 hk) (Nat.le_trans (Sz.words (k:=10000) sa) (by decide)) hdiv h.tab).mono ?_
 rintro e w' ⟨he,hI,hK⟩
 refine⟨he,⟨?_,h.kept.trans hK,h.tab.keptR hK h.low,h.low⟩⟩
 rw[List.map_set,List.map_set,List.map_set,List.map_set,set_same (raw1 hi),set_same (raw1 hm)]
 exact hI
theorem euclidUpd {M:List (Nat×Int)} {q r:Nat} {vq vr:Bool×Nat} (h:OwnR R w0 w ((r,vr) :: (q,vq) :: M.map rawP)) (iA iB iU iV:Nat) {A B Ua Ub:Nat} {a b U V:Int} (hA:M[iA]? = some (A,a)) (hB:M[iB]? = some (B,b)) (hU:M[iU]? = some (Ua,U)) (hV:M[iV]? = some (Ub,V))
 (Rq:¬R q) (Rr:¬R r) (RU:¬R Ua) (sa:Sz 700 a) (sU:Sz 2400 U) (sV:Sz 700 V) (hdiv:DivOK b.natAbs) :
 Calls Tryz.prog 194 #[ptr A,ptr B,ptr Ua,ptr Ub,ptr q,ptr r,.bool true] w (λe w'=>e=.returned (.tuple #[ptr B,ptr r,ptr A,ptr Ub,ptr Ua])/\Own R w0 w' ((r,a.tmod b) :: (q,a.tdiv b*V) :: M.set iU (Ua,U-a.tdiv b*V))):=by
 have mp:∀ {i z:Nat} {v:Int},M[i]? = some (z,v)->((r,vr) :: (q,vq) :: M.map rawP)[i+2]? = some (z,toR v):=λ{i z v} e=>by
  show(M.map rawP)[i]? = _
  rw[List.getElem?_map,e];rfl
 have C1:=Lz (quoRemRO h 1 (iA+2) (iB+2) 0 (v:=vq) (u:=vr) rfl (mp hA) (mp hB) rfl (by decide) Rq Rr (sa.le (by decide)) hdiv)
 have C2:=Lz (λw1 (h1:Own R w0 w1 ((r,a.tmod b) :: (q,a.tdiv b) :: M))=>mulO h1 1 1 (iV+2) (v:=a.tdiv b) (a:=a.tdiv b) (b:=V) rfl rfl (show((r,a.tmod b) :: (q,a.tdiv b) :: M)[iV+2]? = some (Ub,V) from hV) Rq ((sz_tdiv sa).le (by decide)) (sV.le (by decide)))
 have C3:=Lz (λw1 (h1:Own R w0 w1 ((r,a.tmod b) :: (q,a.tdiv b*V) :: M))=>subO h1 (iU+2) (iU+2) 1 (z:=Ua) (x:=Ua) (y:=q) (v:=U) (a:=U) (b:=a.tdiv b*V) (show((r,a.tmod b) :: (q,a.tdiv b*V) :: M)[iU+2]? = some (Ua,U) from hU) (show((r,a.tmod b) :: (q,a.tdiv b*V) :: M)[iU+2]? = some (Ua,U) from hU) rfl RU (sU.le (by decide)) (((sz_tdiv sa).mul sV).le (by decide)))
 clear h hA hB hU hV Rq Rr RU sa sU sV hdiv mp
 unfold ptr at *
 go_enter Tryz.func194,Tryz.ntmps194
 go_wp2_with fail
 refine C1.out.mono ?_
 rintro e w1 ⟨rfl,h1⟩
 have h2:Own R w0 w1 ((r,a.tmod b) :: (q,a.tdiv b) :: M):=OwnR.int h1
 have K2:=Lz (C2.out _ h2)
 clear h1 h2 C1 C2
 go_wp2_with fail
 refine K2.out.mono ?_
 rintro e w2 ⟨rfl,h3⟩
 have K3:=Lz (C3.out _ h3)
 clear h3 K2 C3
 go_wp2_with fail
 refine K3.out.mono ?_
 rintro e w3 ⟨rfl,h4⟩
 have H4:=Lz (show Own R w0 w3 ((r,a.tmod b) :: (q,a.tdiv b*V) :: M.set iU (Ua,U-a.tdiv b*V)) from h4)
 clear h4 K3
 go_wp2_with fail
 simp[bodyPost,results,Tryz.results194,go_sem]
 exact H4.out
end
end Go.Proofs.YtohhkjamddojmaaGreatDoor.Big

namespace Go.Proofs.YtohhkjamddojmaaGreatDoor.Big
theorem upd_val (U V:Int) (u v:Nat) (even:Bool):ofR ((toR U).1 != !even,(toR U).2*u)+ofR ((toR V).1 != even,(toR V).2*v)=if even then(u:Int)*U-v*V else v*V-u*U:=by
 rw[ofR_mul,ofR_mul]
 cases even
 . simp[Int.mul_comm];omega
 . simp[Int.mul_comm];omega
theorem upd_val2 (U V:Int) (u v:Nat) (even:Bool):ofR ((toR V).1 != !even,(toR V).2*v)+ofR ((toR U).1 != even,(toR U).2*u)=if even then(v:Int)*V-u*U else u*U-v*V:=by
 rw[ofR_mul,ofR_mul]
 cases even
 . simp[Int.mul_comm];omega
 . simp[Int.mul_comm];omega
end Go.Proofs.YtohhkjamddojmaaGreatDoor.Big

namespace Go.Proofs.YtohhkjamddojmaaGreatDoor.Big
open Go.RowKit
attribute [local go_sem] ptr
def cellN:Option Value->Nat
 | some (.int _ k)=>k.toNat
 | _=>0
def absOf (w:World) (v:Value):Nat:=
 match v with
 | .pointer (some a)=>match w.cell? ⟨a.block,1,.none⟩ with
  | some (.slice (some b) n _)=>val ((List.range n).map λi=>cellN (w.cell? ⟨b.block,i,.none⟩))
  | _=>0
 | _=>0
theorem range_map_getD (l:List Nat):(List.range l.length).map (λi=>l.getD i 0)=l:=by
 apply List.ext_getElem
 . simp
 . intro i h1 h2
   simp[List.getD,h2]
theorem cells_abs {w:World} {z a c:Nat} {p:Option Addr} (h1:w.cell? ⟨z,1,.none⟩=some (.slice p (dg a).length c)) (h2:0<(dg a).length->∃ b,p=some ⟨b,0,.none⟩/\∀ i,i<(dg a).length->w.cell? ⟨b,i,.none⟩=some (wd ((dg a).getD i 0))):absOf w (ptr z)=a:=by
 have e:absOf w (ptr z)=match w.cell? ⟨z,1,.none⟩ with
  | some (.slice (some b) n _)=>val ((List.range n).map λi=>cellN (w.cell? ⟨b.block,i,.none⟩))
  | _=>0:=rfl
 rw[e,h1]
 rcases Nat.eq_zero_or_pos (dg a).length with h0|h0
 . have ha:a=0:=dg_eq_nil.1 (List.eq_nil_of_length_eq_zero h0)
   subst ha
   cases p with
   | none=>rfl
   | some b=>rw[h0];rfl
 . obtain⟨b,rfl,hb⟩:=h2 h0
   show val ((List.range (dg a).length).map λi=>cellN (w.cell? ⟨b,i,.none⟩))=a
   have:((List.range (dg a).length).map λi=>cellN (w.cell? ⟨b,i,.none⟩))=(List.range (dg a).length).map (λi=>(dg a).getD i 0):=by
    apply List.map_congr_left
    intro i hi
    rw[hb i (List.mem_range.1 hi)]
    show((((dg a).getD i 0:Nat):Int)).toNat=_
    omega
   rw[this,range_map_getD,val_dg]
section
variable {R : Nat → Prop} {w0 w : World}
theorem OwnR.at {L:List (Nat×(Bool×Nat))} (h:OwnR R w0 w L) {i z:Nat} {s:Bool} {a:Nat} (hi:L[i]? = some (z,(s,a))) :
 ∃ p c,w.cell? ⟨z,0,.none⟩=some (.bool s)/\w.cell? ⟨z,1,.none⟩=some (.slice p (dg a).length c)/\(0<(dg a).length->∃ b,p=some ⟨b,0,.none⟩/\∀ i,i<(dg a).length->w.cell? ⟨b,i,.none⟩=some (wd ((dg a).getD i 0))):=by
 obtain⟨ps,qs,hf⟩:=h.ints
 obtain⟨a',px,dx,ha',hpx,hqx,ox⟩:=hf.at (raw1 hi)
 obtain rfl:(s,a)=a':=by rw[raw2 hi] at ha';exact Option.some.inj ha'
 refine⟨px,_,ox.str.cell0,ox.str.cell1,λh0=>?_⟩
 obtain⟨b,hb,_,hc⟩:=ox.num.cell h0
 exact⟨b,hb,hc⟩
theorem IntsR.tail {zs:List Nat} {vs:List (Bool×Nat)} {z:Nat} {v:Bool×Nat} (h:IntsR R w (z :: zs) (v :: vs)):IntsR R w zs vs:=by
 obtain⟨ps,qs,h⟩:=h
 refine⟨ps.tail,qs.tail,⟨h.old,by have:=h.lenV;simpa using this,by have:=h.lenP;rw[List.length_tail,this];rfl,by have:=h.lenQ;rw[List.length_tail,this];rfl,?_,?_,?_,?_,?_⟩⟩
 . intro i z' v' p q h1 h2 h3 h4
   rw[List.getElem?_tail] at h3 h4
   exact h.one (i+1) z' v' p q h1 h2 h3 h4
 . intro i z' p h1 h2
   rw[List.getElem?_tail] at h2
   exact h.own (i+1) z' p h1 h2
 . intro i j z' h1 h2
   have:=h.zz (i+1) (j+1) z' h1 h2
   omega
 . intro i j p q b h1 h2 h3 h4
   rw[List.getElem?_tail] at h1 h2
   have:=h.pp (i+1) (j+1) p q b h1 h2 h3 h4
   omega
 . intro i j z' p h1 h2
   rw[List.getElem?_tail] at h2
   exact h.zp (i+1) (j+1) z' p h1 h2
theorem FamR.sel {zs zs':List Nat} {vs vs':List (Bool×Nat)} {ps ps':List (Option Addr)} {qs qs':List (List Nat)} (h:FamR R w zs vs ps qs) (f:Nat->Nat)
 (l1:vs'.length=zs'.length) (l2:ps'.length=zs'.length) (l3:qs'.length=zs'.length) (inj:∀ i j,i<zs'.length->j<zs'.length->f i=f j->i=j)
 (e0:∀ i,i<zs'.length->zs'[i]? = zs[f i]?) (e1:∀ i,i<zs'.length->vs'[i]? = vs[f i]?) (e2:∀ i,i<zs'.length->ps'[i]? = ps[f i]?) (e3:∀ i,i<zs'.length->qs'[i]? = qs[f i]?) :
 FamR R w zs' vs' ps' qs':=by
 have lz:∀ {i z},zs'[i]? = some z->i<zs'.length:=λh=>(List.getElem?_eq_some_iff.1 h).1
 have lp:∀ {i p},ps'[i]? = some p->i<zs'.length:=λh=>l2 ▸ (List.getElem?_eq_some_iff.1 h).1
 refine⟨h.old,l1,l2,l3,?_,?_,?_,?_,?_⟩
 . intro i z v p q h1 h2 h3 h4
   have hl:=lz h1
   exact h.one (f i) z v p q (e0 i hl ▸ h1) (e1 i hl ▸ h2) (e2 i hl ▸ h3) (e3 i hl ▸ h4)
 . intro i z p h1 h2
   have hl:=lz h1
   exact h.own (f i) z p (e0 i hl ▸ h1) (e2 i hl ▸ h2)
 . intro i j z h1 h2
   exact inj i j (lz h1) (lz h2) (h.zz (f i) (f j) z (e0 i (lz h1) ▸ h1) (e0 j (lz h2) ▸ h2))
 . intro i j p q b h1 h2 hb hb2
   exact inj i j (lp h1) (lp h2) (h.pp (f i) (f j) p q b (e2 i (lp h1) ▸ h1) (e2 j (lp h2) ▸ h2) hb hb2)
 . intro i j z p h1 h2
   exact h.zp (f i) (f j) z p (e0 i (lz h1) ▸ h1) (e2 j (lp h2) ▸ h2)
theorem drop_two {α : Type} (x y:α) (l:List α) (i:Nat):(x :: l)[i]? = (x :: y :: l)[if i=0 then 0 else i+1]?:=by
 cases i with
 | zero=>rfl
 | succ i=>rfl
theorem IntsR.drop2 {zs:List Nat} {vs:List (Bool×Nat)} {z y:Nat} {v u:Bool×Nat} (h:IntsR R w (z :: y :: zs) (v :: u :: vs)):IntsR R w (z :: zs) (v :: vs):=by
 obtain⟨ps,qs,h⟩:=h
 have lv:=h.lenV;have lp:=h.lenP;have lq:=h.lenQ
 match ps,qs,h,lp,lq with
 | p :: p2 :: ps,q :: q2 :: qs,h,lp,lq=>
  refine⟨p :: ps,q :: qs,h.sel (λi=>if i=0 then 0 else i+1) ?_ ?_ ?_ ?_ (λi _=>drop_two _ _ _ i) (λi _=>drop_two _ _ _ i) (λi _=>drop_two _ _ _ i) (λi _=>drop_two _ _ _ i)⟩
  . simpa using lv
  . simpa using lp
  . simpa using lq
  . intro i j _ _ e
    show i=j;revert e;show(if i=0 then 0 else i+1)=(if j=0 then 0 else j+1)->i=j;intro e
    split at e <;> split at e <;> omega
theorem OwnR.drop2 {L:List (Nat×(Bool×Nat))} {p q:Nat×(Bool×Nat)} (h:OwnR R w0 w (p :: q :: L)):OwnR R w0 w (p :: L):=⟨h.ints.drop2,h.kept,h.tab,h.low⟩
theorem OwnR.tail {L:List (Nat×(Bool×Nat))} {p:Nat×(Bool×Nat)} (h:OwnR R w0 w (p :: L)):OwnR R w0 w L:=⟨h.ints.tail,h.kept,h.tab,h.low⟩
theorem IntsR.drewN {zs:List Nat} {vs:List (Bool×Nat)} (h:IntsR R w zs vs) (n:Nat):IntsR R (w.drewN n) zs vs:=by
 obtain⟨ps,qs,h⟩:=h
 exact⟨ps,qs,⟨h.old,h.lenV,h.lenP,h.lenQ,λi z v p q h1 h2 h3 h4=>(h.one i z v p q h1 h2 h3 h4).grow (Grow.none (zzz w n .none) (λ_=>False)) id (λ_ _=>id),h.own,h.zz,h.pp,h.zp⟩⟩
theorem OwnR.drew {L:List (Nat×(Bool×Nat))} (h:OwnR R w0 w L) (n:Nat):OwnR R w0 (w.drewN n) L:=
 ⟨h.ints.drewN n,h.kept.trans (Kept.drew R w n),h.tab.keptR (Kept.drew R w n) h.low,h.low⟩
theorem dg_two {n:Nat}:2<=(dg n).length↔B64<=n:=by
 have:=@dg_length n 1
 rw[Nat.pow_one] at this
 omega
structure LI (R:Nat->Prop) (w0:World) (L:List (Nat×Int)) (g n:Nat) (wr:World) (pa pb pu pv pr pq:Nat) (A B:Nat) (U V:Int):Prop where
 own:∃ vr vq,OwnR R w0 wr ((pr,vr) :: (pq,vq) :: List.map rawP ((pu,U) :: (pv,V) :: (pa,(A:Int)) :: (pb,(B:Int)) :: L))
 na:¬R pa
 nb:¬R pb
 nu:¬R pu
 nv:¬R pv
 nr:¬R pr
 nq:¬R pq
 g:GcdLaw.G (g:Int) n A B U V
 hn:n<B64^4
 hA:A<=n
theorem sz_of_lt {n:Nat} {a:Int} (h:a.natAbs<B64^n):Sz (64*n) a:=by
 unfold Sz B64 at *
 rw[Nat.pow_mul]
 exact h
variable {L : List (Nat × Int)} {g n : Nat} {wr : World} {pa pb pu pv pr pq A B : Nat} {U V : Int}
theorem LI.size (h:LI R w0 L g n wr pa pb pu pv pr pq A B U V):Sz 256 (A:Int)/\Sz 256 (B:Int)/\Sz 256 U/\Sz 256 V:=by
 have hn:=h.hn
 have hA:=h.hA
 have hB:=h.g.ab
 have hu:=h.g.ub
 have ha:=h.g.a1
 have hv:(V.natAbs:Int)<=n:=by
  have e:=h.g.bd
  have k1:(V.natAbs:Int)*1<=(V.natAbs:Int)*A:=Int.mul_le_mul_of_nonneg_left (by omega) (by omega)
  have k2:0<=(U.natAbs:Int)*B:=Int.mul_nonneg (by omega) h.g.b0
  omega
 exact⟨sz_of_lt (n:=4) (by omega),sz_of_lt (n:=4) (by omega),sz_of_lt (n:=4) (by omega),sz_of_lt (n:=4) (by omega)⟩
theorem LI.updA (h:LI R w0 L g n wr pa pb pu pv pr pq A B U V) (u0 u1 v0 v1:Nat) (even:Bool) (b0:u0<B64) (b1:u1<B64) (b2:v0<B64) (b3:v1<B64) :
 Calls Tryz.prog 193 #[ptr pa,ptr pb,ptr pq,ptr pr,wd u0,wd u1,wd v0,wd v1,.bool even] wr (λe w'=>e=.returned (.tuple #[])/\∃ vr vq,OwnR R w0 w' ((pr,vr) :: (pq,vq) :: List.map rawP ((pu,U) :: (pv,V) :: (pa,if even then(u0:Int)*A-v0*B else v0*B-u0*A) :: (pb,if even then(v1:Int)*B-u1*A else u1*A-v1*B) :: L))):=by
 obtain⟨vr,vq,ho⟩:=h.own
 obtain⟨sA,sB,-,-⟩:=h.size
 refine(lehmerUpd ho 4 5 1 0 (a:=toR A) (b:=toR B) rfl rfl rfl rfl (by decide) (by decide) (by decide) (by decide) (by decide) (by decide) h.na h.nb h.nq h.nr u0 u1 v0 v1 even b0 b1 b2 b3 (sA.le (by decide)) (sB.le (by decide))).mono ?_
 rintro e w' ⟨he,h2⟩
 rw[upd_val,upd_val2] at h2
 exact⟨he,_,_,h2⟩
theorem LI.updU (h:LI R w0 L g n wr pa pb pu pv pr pq A B U V) {w1:World} {a b:Int} (h1:∃ vr vq,OwnR R w0 w1 ((pr,vr) :: (pq,vq) :: List.map rawP ((pu,U) :: (pv,V) :: (pa,a) :: (pb,b) :: L))) (u0 u1 v0 v1:Nat) (even:Bool) (b0:u0<B64) (b1:u1<B64) (b2:v0<B64) (b3:v1<B64) :
 Calls Tryz.prog 193 #[ptr pu,ptr pv,ptr pq,ptr pr,wd u0,wd u1,wd v0,wd v1,.bool even] w1 (λe w'=>e=.returned (.tuple #[])/\∃ vr vq,OwnR R w0 w' ((pr,vr) :: (pq,vq) :: List.map rawP ((pu,if even then(u0:Int)*U-v0*V else v0*V-u0*U) :: (pv,if even then(v1:Int)*V-u1*U else u1*U-v1*V) :: (pa,a) :: (pb,b) :: L))):=by
 obtain⟨vr,vq,ho⟩:=h1
 obtain⟨-,-,sU,sV⟩:=h.size
 have sU':Sz 256 ((toR U).2:Int):=by unfold Sz at *;show((U.natAbs:Int)).natAbs<_;rw[Int.natAbs_natCast];exact sU
 have sV':Sz 256 ((toR V).2:Int):=by unfold Sz at *;show((V.natAbs:Int)).natAbs<_;rw[Int.natAbs_natCast];exact sV
 refine(lehmerUpd ho 2 3 1 0 (a:=toR U) (b:=toR V) rfl rfl rfl rfl (by decide) (by decide) (by decide) (by decide) (by decide) (by decide) h.nu h.nv h.nq h.nr u0 u1 v0 v1 even b0 b1 b2 b3 (sU'.le (by decide)) (sV'.le (by decide))).mono ?_
 rintro e w' ⟨he,h2⟩
 rw[upd_val,upd_val2] at h2
 exact⟨he,_,_,h2⟩
theorem LI.next (h:LI R w0 L g n wr pa pb pu pv pr pq A B U V) {w1:World} {u0 u1 v0 v1:Nat} {even:Bool} {A' B':Int} (l:GcdLaw.Leh A B u0 u1 v0 v1 A' B' even)
 (h1:∃ vr vq,OwnR R w0 w1 ((pr,vr) :: (pq,vq) :: List.map rawP ((pu,if even then(u0:Int)*U-v0*V else v0*V-u0*U) :: (pv,if even then(v1:Int)*V-u1*U else u1*U-v1*V) :: (pa,if even then(u0:Int)*A-v0*B else v0*B-u0*A) :: (pb,if even then(v1:Int)*B-u1*A else u1*A-v1*B) :: L))) :
 ∃ (A2 B2:Nat) (U2 V2:Int),LI R w0 L g n w1 pa pb pu pv pr pq A2 B2 U2 V2/\A2+B2<A+B:=by
 obtain⟨hg,hlt⟩:=h.g.lehmer l
 have eA:=l.eA
 have eB:=l.eB
 rw[<-eA,<-eB] at h1
 have hA1:=hg.a1
 have hB0:=hg.b0
 have hle:A'<=A:=by
  obtain⟨e,-⟩:=l.back
  have k1:=l.v10
  have k2:=l.v00
  have a1:1*A'<=(v1:Int)*A':=Int.mul_le_mul_of_nonneg_right (by omega) (by omega)
  have a2:0<=(v0:Int)*B':=Int.mul_nonneg (by omega) hB0
  omega
 obtain⟨A2,rfl⟩:∃ a:Nat,A'=a:=⟨A'.toNat,by omega⟩
 obtain⟨B2,rfl⟩:∃ a:Nat,B'=a:=⟨B'.toNat,by omega⟩
 exact⟨A2,B2,_,_,⟨h1,h.na,h.nb,h.nu,h.nv,h.nr,h.nq,hg,h.hn,by have:=h.hA;omega⟩,by omega⟩
theorem LI.euclid (h:LI R w0 L g n wr pa pb pu pv pr pq A B U V) (hb:B≠0) :
 Calls Tryz.prog 194 #[ptr pa,ptr pb,ptr pu,ptr pv,ptr pq,ptr pr,.bool true] wr (λe w'=>e=.returned (.tuple #[ptr pb,ptr pr,ptr pa,ptr pv,ptr pu])/\LI R w0 L g n w' pb pr pv pu pa pq B (A%B) V (U-(A:Int)/B*V)):=by
 obtain⟨vr,vq,ho⟩:=h.own
 obtain⟨sA,sB,sU,sV⟩:=h.size
 have hBn:B<B64^4:=by have:=h.hn;have:=h.hA;have:=h.g.ab;omega
 refine(euclidUpd (M:=(pu,U) :: (pv,V) :: (pa,(A:Int)) :: (pb,(B:Int)) :: L) ho 2 3 0 1 rfl rfl rfl rfl h.nq h.nr h.nu (sA.le (by decide)) (sU.le (by decide)) (sV.le (by decide)) (by rw[Int.natAbs_natCast];exact DivOK.four hb hBn)).mono ?_
 rintro e w' ⟨he,h2⟩
 have t1:(A:Int).tmod B=((A%B:Nat):Int):=by rw[Int.tmod_eq_emod_of_nonneg (by omega)];rfl
 have t2:(A:Int).tdiv B=(A:Int)/B:=Int.tdiv_eq_ediv_of_nonneg (by omega)
 rw[t1,t2] at h2
 refine⟨he,⟨⟨toR A,toR ((A:Int)/B*V),?_⟩,h.nb,h.nr,h.nv,h.nu,h.na,h.nq,?_,h.hn,?_⟩⟩
 . exact(Own.choose (A:=[(pr,((A%B:Nat):Int)),(pq,(A:Int)/B*V),(pu,U-(A:Int)/B*V),(pv,V),(pa,(A:Int)),(pb,(B:Int))]) (L:=L) h2 [4,1,3,2,5,0] (by decide) (by simp)).raw
 . exact h.g.euclid (by omega)
 . have:=h.g.ab;have:=h.hA;omega
theorem LI.drew (h:LI R w0 L g n wr pa pb pu pv pr pq A B U V) (d:Nat):LI R w0 L g n (wr.drewN d) pa pb pu pv pr pq A B U V:=by
 obtain⟨vr,vq,ho⟩:=h.own
 exact⟨⟨vr,vq,ho.drew d⟩,h.na,h.nb,h.nu,h.nv,h.nr,h.nq,h.g,h.hn,h.hA⟩
theorem LI.ints (h:LI R w0 L g n wr pa pb pu pv pr pq A B U V):Own R w0 wr ((pu,U) :: (pv,V) :: (pa,(A:Int)) :: (pb,(B:Int)) :: L):=by
 obtain⟨vr,vq,ho⟩:=h.own
 exact OwnR.int ho.tail.tail
theorem LI.abs (h:LI R w0 L g n wr pa pb pu pv pr pq A B U V):absOf wr (ptr pa)=A/\absOf wr (ptr pb)=B:=by
 obtain⟨vr,vq,ho⟩:=h.own
 obtain⟨p,c,-,h1,h2⟩:=ho.at (i:=4) (z:=pa) (s:=(toR A).1) (a:=(toR A).2) rfl
 obtain⟨q,d,-,k1,k2⟩:=ho.at (i:=5) (z:=pb) (s:=(toR B).1) (a:=(toR B).2) rfl
 have e1:(toR (A:Int)).2=A:=Int.natAbs_natCast A
 have e2:(toR (B:Int)).2=B:=Int.natAbs_natCast B
 rw[e1] at h1 h2
 rw[e2] at k1 k2
 exact⟨cells_abs h1 h2,cells_abs k1 k2⟩
theorem LI.cells (h:LI R w0 L g n wr pa pb pu pv pr pq A B U V):∃ p c q d,wr.cell? ⟨pa,1,.none⟩=some (.slice p (dg A).length c)/\wr.cell? ⟨pb,1,.none⟩=some (.slice q (dg B).length d) ∧
 (0<(dg A).length->∃ b,p=some ⟨b,0,.none⟩/\∀ i,i<(dg A).length->wr.cell? ⟨b,i,.none⟩=some (wd ((dg A).getD i 0)))/\(0<(dg B).length->∃ b,q=some ⟨b,0,.none⟩/\∀ i,i<(dg B).length->wr.cell? ⟨b,i,.none⟩=some (wd ((dg B).getD i 0))):=by
 obtain⟨vr,vq,ho⟩:=h.own
 obtain⟨p,c,-,h1,h2⟩:=ho.at (i:=4) (z:=pa) (s:=(toR A).1) (a:=(toR A).2) rfl
 obtain⟨q,d,-,k1,k2⟩:=ho.at (i:=5) (z:=pb) (s:=(toR B).1) (a:=(toR B).2) rfl
 have e1:(toR (A:Int)).2=A:=Int.natAbs_natCast A
 have e2:(toR (B:Int)).2=B:=Int.natAbs_natCast B
 rw[e1] at h1 h2
 rw[e2] at k1 k2
 exact⟨p,c,q,d,h1,k1,h2,k2⟩
theorem LI.sim (h:LI R w0 L g n wr pa pb pu pv pr pq A B U V) (hB:2<=(dg B).length):Calls Tryz.prog 192 #[ptr pa,ptr pb] wr (SimP A B wr):=by
 obtain⟨p,c,q,d,h1,h2,h3,h4⟩:=h.cells
 have hAB:(dg B).length<=(dg A).length:=by
  rcases Nat.lt_or_ge (dg A).length (dg B).length with hl|hl
  . have:=dg_lt hl;have:=h.g.ab;omega
  . exact hl
 have hA4:(dg A).length<=4:=dg_length.2 (by have:=h.hn;have:=h.hA;omega)
 obtain⟨b,rfl,hb⟩:=h3 (by omega)
 obtain⟨b',rfl,hb'⟩:=h4 (by omega)
 obtain⟨n0,hn0⟩:∃ n0,(dg A).length=n0+2:=⟨(dg A).length-2,by omega⟩
 rw[hn0] at h1 hb
 exact lehmerSim pa pb b b' n0 (dg B).length c d A B wr (by have:=h.g.ab;omega) hn0 rfl hB (by omega) h1 h2 hb hb'
structure WI (g n:Int) (A0 B0:Nat) (U0 V0:Int) (a b ua ub va vb:Nat) (e:Bool):Prop where
 tot:vb*a+va*b=A0
 tot2:ub*a+ua*b=B0
 g:GcdLaw.G g n a b (if e then(ua:Int)*U0-va*V0 else va*V0-ua*U0) (if e then(vb:Int)*V0-ub*U0 else ub*U0-vb*V0)
theorem WI.start {g n:Int} {A0 B0:Nat} {U0 V0:Int} (h:GcdLaw.G g n A0 B0 U0 V0):WI g n A0 B0 U0 V0 A0 B0 1 0 0 1 true:=
 ⟨by omega,by omega,by simpa using h⟩
theorem WI.next {g n:Int} {A0 B0:Nat} {U0 V0:Int} {a b ua ub va vb:Nat} {e:Bool} (h:WI g n A0 B0 U0 V0 a b ua ub va vb e) (hb:b≠0):WI g n A0 B0 U0 V0 b (a%b) ub (ua+a/b*ub) vb (va+a/b*vb) (!e):=by
 have hs:=h.g.euclid (by omega)
 have e1:(a:Int)/(b:Int)=((a/b:Nat):Int):=rfl
 have e2:(a:Int)%(b:Int)=((a%b:Nat):Int):=rfl
 have hm:=Nat.div_add_mod a b
 rw[e1,e2] at hs
 have t1:=h.tot
 have t2:=h.tot2
 generalize a/b=q at *
 generalize a%b=r at *
 refine⟨?_,?_,?_⟩
 . rw[<-t1,<-hm];grind
 . rw[<-t2,<-hm];grind
 . cases e
   . simp only[Bool.false_eq_true,if_false,Bool.not_false,if_true] at *
     have k:((va+q*vb:Nat):Int)*V0-((ua+q*ub:Nat):Int)*U0=va*V0-ua*U0-q*(ub*U0-vb*V0):=by push_cast;grind
     rw[k];exact hs
   . simp only[if_true,Bool.not_true,Bool.false_eq_true,if_false] at *
     have k:((ua+q*ub:Nat):Int)*U0-((va+q*vb:Nat):Int)*V0=ua*U0-va*V0-q*(vb*V0-ub*U0):=by push_cast;grind
     rw[k];exact hs
theorem WI.bound {g n:Int} {A0 B0:Nat} {U0 V0:Int} {a b ua ub va vb:Nat} {e:Bool} (h:WI g n A0 B0 U0 V0 a b ua ub va vb e):vb<=A0/\ub<=B0:=by
 have ha:=h.g.a1
 have k1:vb*1<=vb*a:=Nat.mul_le_mul_left _ (by omega)
 have k2:ub*1<=ub*a:=Nat.mul_le_mul_left _ (by omega)
 have t1:=h.tot
 have t2:=h.tot2
 omega
theorem u64_step {u q v:Nat} (h:u+q*v<B64):IntKind.u64.wrap ((u:Int)+IntKind.u64.wrap (IntKind.u64.wrap (q:Int)*(v:Int)))=((u+q*v:Nat):Int):=by
 have hv:v=0\/q<=q*v:=by
  rcases Nat.eq_zero_or_pos v with h0|h0
  . exact .inl h0
  . refine .inr ?_
    have:q*1<=q*v:=Nat.mul_le_mul_left _ h0
    omega
 have hPI:(q:Int)*(v:Int)=((q*v:Nat):Int):=by push_cast;rfl
 unfold B64 at h
 have h2:IntKind.u64.wrap (IntKind.u64.wrap (q:Int)*(v:Int))=((q*v:Nat):Int):=by
  rcases hv with h0|h0
  . subst h0
    simp only[Nat.mul_zero,Int.natCast_zero,Int.mul_zero]
    exact IntWalk.u64_in _ (by omega)
  . have h1:IntKind.u64.wrap (q:Int)=(q:Int):=IntWalk.u64_in _ (by omega)
    rw[h1,hPI]
    exact IntWalk.u64_in _ (by omega)
 rw[h2]
 rw[show(u:Int)+((q*v:Nat):Int)=((u+q*v:Nat):Int) by omega]
 exact IntWalk.u64_in _ (by omega)
end
end Go.Proofs.YtohhkjamddojmaaGreatDoor.Big
