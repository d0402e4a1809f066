/- Quotient and remainder of Ints. Sums of Ints. Sums and differences of Ints. Differences of Ints. -/
import Derived.Test.YtohhkjamddojmaaGreatDoorIntF
import Derived.Test.YtohhkjamddojmaaGreatDoorWU
set_option maxRecDepth 100000
set_option maxHeartbeats 16000000
namespace Go.Proofs.YtohhkjamddojmaaGreatDoor.Big
open Go.RowKit
def DivOK (b:Nat):Prop:=∀ (p p2 q q2:Option Addr) (l l2 a:Nat) (cs cs2 ds es:List Nat) (w:World),Buf w p cs->Buf w p2 cs2->Apart p p2->Num w q (dg a) ds->Num w q2 (dg b) es->(dg a).length<=80000->Tab w →
 Calls Tryz.prog 178 #[.slice p l cs.length,.pointer .none,.slice p2 l2 cs2.length,.slice q (dg a).length ds.length,.slice q2 (dg b).length es.length] w (DivNP p p2 a b w)
theorem DivOK.word {b:Nat} (hb:(dg b).length=1):DivOK b:=λp p2 q q2 l l2 a cs cs2 ds es w h h2 hap hx hy hX _=>nat_div_word p p2 q q2 _ l l2 a b cs cs2 ds es w h h2 hap hx hy hX hb
def AbsDone2 (w:World) (z r:Nat) (p p2:Option Addr) (nz nr:Bool) (q m:Nat) (wx:World):Prop:=
 ∃ p' cs' q' ds',StrB wx z nz p' (dg q).length cs'.length/\StrB wx r nr q' (dg m).length ds'.length/\Num wx p' (dg q) cs'/\Num wx q' (dg m) ds'/\Grow w wx (λk=>(k=z\/k=r)\/(blk p=some k\/blk p2=some k))/\Fresh w p p'/\Fresh w p2 q'/\Apart p' q' ∧
  (blk p'≠some z/\blk p'≠some r)/\(blk q'≠some z/\blk q'≠some r)
theorem AbsDone2.of {w w0 w1:World} {z r:Nat} {p p2 p' q':Option Addr} {nz nr:Bool} {l c l2 c2 q m:Nat} {cs' ds':List Nat} (hzr:z≠r) (hs:StrB w z nz p l c) (hs2:StrB w r nr p2 l2 c2) (h1:blk p≠some z) (h2:blk p≠some r) (h3:blk p2≠some z) (h4:blk p2≠some r) (h0:w.grownBy w0 .none)
 (hn:Num w1 p' (dg q) cs') (hm:Num w1 q' (dg m) ds') (hg:Grow w0 w1 (λk=>blk p=some k\/blk p2=some k)) (hf:Fresh w0 p p') (hf2:Fresh w0 p2 q') (ha:Apart p' q') :
 AbsDone2 w z r p p2 nz nr q m ((w1.setCell ⟨z,1,.none⟩ (.slice p' (dg q).length cs'.length)).setCell ⟨r,1,.none⟩ (.slice q' (dg m).length ds'.length)):=by
 have hg':Grow w w1 (λk=>blk p=some k\/blk p2=some k):=(Grow.none h0 _).trans hg
 have hsz:=hs.grow hg' (by rintro(e|e);exact h1 e;exact h3 e)
 have hsr:=hs2.grow hg' (by rintro(e|e);exact h2 e;exact h4 e)
 have fresh_ne:∀ {a a':Option Addr} {x:Nat},blk a≠some x->x<w.heap.size->Fresh w0 a a'->blk a'≠some x:=λh hx hf e=>by
  rcases hf with rfl|hf
  . exact h e
  . have:=hf _ e;have:=h0.size;omega
 have e1:=fresh_ne h1 hs.lt hf
 have e2:=fresh_ne h2 hs2.lt hf
 have e3:=fresh_ne h3 hs.lt hf2
 have e4:=fresh_ne h4 hs2.lt hf2
 have g1:Grow w1 (w1.setCell ⟨z,1,.none⟩ (.slice p' (dg q).length cs'.length)) (λk=>k=z):=(Grow.of (zzw w1 z 1 _)).weaken (λk _ e=>by cases e;rfl)
 have g2:Grow (w1.setCell ⟨z,1,.none⟩ (.slice p' (dg q).length cs'.length)) ((w1.setCell ⟨z,1,.none⟩ (.slice p' (dg q).length cs'.length)).setCell ⟨r,1,.none⟩ (.slice q' (dg m).length ds'.length)) (λk=>k=r):=(Grow.of (zzw _ r 1 _)).weaken (λk _ e=>by cases e;rfl)
 have gg:=(g1.weaken (λ_ _ e=>.inl e):Grow _ _ (λk=>k=z\/k=r)).trans (g2.weaken (λ_ _ e=>.inr e))
 refine⟨p',cs',q',ds',(hsz.set1 _ _ _).grow g2 hzr,(hsr.grow g1 (Ne.symm hzr)).set1 _ _ _,hn.grow gg ?_,hm.grow gg ?_,(hg'.weaken (λ_ _ e=>.inr e)).trans (gg.weaken (λ_ _ e=>.inl e)),Fresh.older h0.size hf,Fresh.older h0.size hf2,ha,⟨e1,e2⟩,⟨e3,e4⟩⟩
 . rintro b hb (e|e)
   . exact e1 (e ▸ hb)
   . exact e2 (e ▸ hb)
 . rintro b hb (e|e)
   . exact e3 (e ▸ hb)
   . exact e4 (e ▸ hb)
theorem AbsDone2.drew {w wx:World} {z r:Nat} {p p2:Option Addr} {nz nr:Bool} {q m:Nat} (h:AbsDone2 w z r p p2 nz nr q m wx) (n:Nat):AbsDone2 w z r p p2 nz nr q m (wx.drewN n):=by
 obtain⟨p',cs',q',ds',h1,h2,h3,h4,h5,h6⟩:=h
 exact⟨p',cs',q',ds',h1,h2,h3.kept (zzz _ _ .none) (λ_ _=>by simp),h4.kept (zzz _ _ .none) (λ_ _=>by simp),h5.trans (Grow.none (zzz _ _ .none) _),h6⟩
theorem AbsDone2.finish {R:Nat->Prop} {w wx:World} {zs:List Nat} {vs:List Int} {ps:List (Option Addr)} {qs:List (List Nat)} (h:Fam R w zs vs ps qs) {i j z r:Nat} {p p2:Option Addr} {nz nr b b2:Bool} {q m:Nat} {v u:Int}
 (hij:i≠j) (hi:zs[i]? = some z) (hj:zs[j]? = some r) (hp:ps[i]? = some p) (hp2:ps[j]? = some p2) (hR:¬R z) (hR2:¬R r) (ha:AbsDone2 w z r p p2 nz nr q m wx) (hv:v.natAbs=q) (hu:u.natAbs=m) (hb:b=decide (v<0)) (hb2:b2=decide (u<0)) :
 Ints R ((wx.setCell ⟨z,0,.none⟩ (.bool b)).setCell ⟨r,0,.none⟩ (.bool b2)) zs ((vs.set i v).set j u)/\Kept R w ((wx.setCell ⟨z,0,.none⟩ (.bool b)).setCell ⟨r,0,.none⟩ (.bool b2)):=by
 have hzr:z≠r:=λe=>hij (h.zz i j z hi (e ▸ hj))
 obtain⟨p',cs',q',ds',h1,h2,h3,h4,h5,h6,h7,h8,⟨e1,e2⟩,⟨e3,e4⟩⟩:=ha
 have g1:Grow wx (wx.setCell ⟨z,0,.none⟩ (.bool b)) (λk=>k=z):=(Grow.of (zzw wx z 0 _)).weaken (λk _ e=>by cases e;rfl)
 have g2:Grow (wx.setCell ⟨z,0,.none⟩ (.bool b)) ((wx.setCell ⟨z,0,.none⟩ (.bool b)).setCell ⟨r,0,.none⟩ (.bool b2)) (λk=>k=r):=(Grow.of (zzw _ r 0 _)).weaken (λk _ e=>by cases e;rfl)
 have gg:=(g1.weaken (λ_ _ e=>.inl e):Grow _ _ (λk=>k=z\/k=r)).trans (g2.weaken (λ_ _ e=>.inr e))
 subst hv hu hb hb2
 have ho:One ((wx.setCell ⟨z,0,.none⟩ (.bool (decide (v<0)))).setCell ⟨r,0,.none⟩ (.bool (decide (u<0)))) z v p' cs':=⟨(h1.set0 _).grow g2 hzr,h3.grow gg (by rintro b hb (e|e);exact e1 (e ▸ hb);exact e2 (e ▸ hb))⟩
 have ho2:One ((wx.setCell ⟨z,0,.none⟩ (.bool (decide (v<0)))).setCell ⟨r,0,.none⟩ (.bool (decide (u<0)))) r u q' ds':=⟨(h2.grow g1 (Ne.symm hzr)).set0 _,h4.grow gg (by rintro b hb (e|e);exact e3 (e ▸ hb);exact e4 (e ▸ hb))⟩
 obtain⟨hF,hK⟩:=h.write2 hij hi hj hp hp2 hR hR2 (h5.trans (gg.weaken (λ_ _ e=>.inl e))) ho ho2 h6 h7 h8
 exact⟨⟨_,_,hF⟩,hK⟩
theorem tdiv_cast (n m:Nat):((n:Int)).tdiv (m:Int)=((n/m:Nat):Int):=rfl
theorem tmod_cast (n m:Nat):((n:Int)).tmod (m:Int)=((n%m:Nat):Int):=rfl
theorem sign_tdiv (a b:Int) (h:a.natAbs/b.natAbs≠0):(decide (a<0) != decide (b<0))=decide (a.tdiv b<0):=by
 have hn0:a.natAbs≠0:=by intro e;rw[e,Nat.zero_div] at h;exact h rfl
 have hm0:b.natAbs≠0:=by intro e;rw[e,Nat.div_zero] at h;exact h rfl
 rcases Int.natAbs_eq a with ha|ha <;> rcases Int.natAbs_eq b with hb|hb <;> generalize a.natAbs=n at * <;> generalize b.natAbs=m at * <;> subst ha hb
 . rw[tdiv_cast]
   have h1:¬(n:Int)<0:=by omega
   have h2:¬(m:Int)<0:=by omega
   have h3:¬((n/m:Nat):Int)<0:=by generalize n/m=z at *;omega
   simp only[h1,h2,h3];rfl
 . rw[Int.tdiv_neg,tdiv_cast]
   have h1:¬(n:Int)<0:=by omega
   have h2:-(m:Int)<0:=by omega
   have h3:-((n/m:Nat):Int)<0:=by generalize n/m=z at *;omega
   simp only[h1,h2,h3];rfl
 . rw[Int.neg_tdiv,tdiv_cast]
   have h1:¬(m:Int)<0:=by omega
   have h2:-(n:Int)<0:=by omega
   have h3:-((n/m:Nat):Int)<0:=by generalize n/m=z at *;omega
   simp only[h1,h2,h3];rfl
 . rw[Int.neg_tdiv,Int.tdiv_neg,Int.neg_neg,tdiv_cast]
   have h1:-(n:Int)<0:=by omega
   have h2:-(m:Int)<0:=by omega
   have h3:¬((n/m:Nat):Int)<0:=by generalize n/m=z at *;omega
   simp only[h1,h2,h3];rfl
theorem sign_tmod (a b:Int) (h:a.natAbs%b.natAbs≠0):decide (a<0)=decide (a.tmod b<0):=by
 have hn0:a.natAbs≠0:=by intro e;rw[e,Nat.zero_mod] at h;exact h rfl
 rcases Int.natAbs_eq a with ha|ha <;> rcases Int.natAbs_eq b with hb|hb <;> generalize a.natAbs=n at * <;> generalize b.natAbs=m at * <;> subst ha hb
 . rw[tmod_cast]
   have h1:¬(n:Int)<0:=by omega
   have h3:¬((n%m:Nat):Int)<0:=by generalize n%m=z at *;omega
   simp only[h1,h3]
 . rw[Int.tmod_neg,tmod_cast]
   have h1:¬(n:Int)<0:=by omega
   have h3:¬((n%m:Nat):Int)<0:=by generalize n%m=z at *;omega
   simp only[h1,h3]
 . rw[Int.neg_tmod,tmod_cast]
   have h1:-(n:Int)<0:=by omega
   have h3:-((n%m:Nat):Int)<0:=by generalize n%m=z at *;omega
   simp only[h1,h3]
 . rw[Int.tmod_neg,Int.neg_tmod,tmod_cast]
   have h1:-(n:Int)<0:=by omega
   have h3:-((n%m:Nat):Int)<0:=by generalize n%m=z at *;omega
   simp only[h1,h3]
theorem zero_sign {v:Int} {n:Nat} (h:v.natAbs=n) (h0:n=0):false=decide (v<0):=by simp;omega
def QRP (R:Nat->Prop) (zs:List Nat) (vs:List Int) (z r:Nat) (w:World) (e:Ending) (w':World):Prop:=e=.returned (.tuple #[ptr z,ptr r])/\Ints R w' zs vs/\Kept R w w'
theorem quoRem (R:Nat->Prop) (w:World) (zs:List Nat) (vs:List Int) (ps:List (Option Addr)) (qs:List (List Nat)) (h:Fam R w zs vs ps qs) (i j k m z x y r:Nat) (a b:Int) (hi:zs[i]? = some z) (hj:zs[j]? = some x) (hk:zs[k]? = some y) (hm:zs[m]? = some r) (him:i≠m) (hR:¬R z) (hR2:¬R r)
 (ha:vs[j]? = some a) (hb:vs[k]? = some b) (hla:(dg a.natAbs).length<=80000) (hdiv:DivOK b.natAbs) (htab:Tab w) :
 Calls Tryz.prog 157 #[ptr z,ptr x,ptr y,ptr r] w (QRP R zs ((vs.set i (a.tdiv b)).set m (a.tmod b)) z r w):=by
 obtain⟨v,p,q,hv,hp,hq,oz⟩:=h.at hi
 obtain⟨u,p2,q2,hu,hp2,hq2,or⟩:=h.at hm
 obtain⟨a',px,dx,ha',hpx,hqx,ox⟩:=h.at hj
 obtain⟨b',py,dy,hb',hpy,hqy,oy⟩:=h.at hk
 obtain rfl:a=a':=by rw[ha] at ha';exact Option.some.inj ha'
 obtain rfl:b=b':=by rw[hb] at hb';exact Option.some.inj hb'
 have hzr:z≠r:=λe=>him (h.zz i m z hi (e ▸ hm))
 have n1:blk p≠some z:=h.zp i i z p hi hp
 have n2:blk p≠some r:=h.zp m i r p hm hp
 have n3:blk p2≠some z:=h.zp i m z p2 hi hp2
 have n4:blk p2≠some r:=h.zp m m r p2 hm hp2
 have hap:Apart p p2:=λc h1 h2=>him (h.pp i m p p2 c hp hp2 h1 h2)
 have HOP:=Lz λn=>hdiv p p2 px py (dg v.natAbs).length (dg u.natAbs).length a.natAbs q q2 dx dy (w.drewN n) (oz.num.buf.kept (zzz _ _ .none) (λ_ _=>by simp)) (or.num.buf.kept (zzz _ _ .none) (λ_ _=>by simp)) hap (ox.num.kept (zzz _ _ .none) (λ_ _=>by simp)) (oy.num.kept (zzz _ _ .none) (λ_ _=>by simp)) hla (htab.kept (zzz _ _ .none) (λ_ e=>by cases e))
 have hz1:=oz.str.cell1
 have hr1:=or.str.cell1
 have hx1:=ox.str.cell1
 have hy1:=oy.str.cell1
 have HF:=Lz h
 have HSZ:=Lz oz.str
 have HSR:=Lz or.str
 have HZR:=Lz hzr
 have N1:=Lz n1
 have N2:=Lz n2
 have N3:=Lz n3
 have N4:=Lz n4
 have HHI:=Lz hi
 have HHM:=Lz hm
 have HHP:=Lz hp
 have HHP2:=Lz hp2
 have HHR:=Lz hR
 have HHR2:=Lz hR2
 have HIM:=Lz him
 have sgnAt:∀ (o c:Nat) (t:Int),zs[o]? = some c->vs[o]? = some t->∀ wx,AbsDone2 w z r p p2 (decide (v<0)) (decide (u<0)) (a.natAbs/b.natAbs) (a.natAbs%b.natAbs) wx->wx.cell? ⟨c,0,.none⟩=some (.bool (decide (t<0))):=by
  rintro o c t hc ht wx ⟨p',cs',q',ds',h1,h2,h3,h4,h5,-⟩
  obtain⟨t',pt,qt,ht',hpt,hqt,ot⟩:=h.at hc
  obtain rfl:t=t':=by rw[ht] at ht';exact Option.some.inj ht'
  by_cases hcz:c=z
  . subst hcz
    have e:=ot.str.cell0
    rw[oz.str.cell0] at e
    rw[h1.cell0,Option.some.inj e]
  . by_cases hcr:c=r
    . subst hcr
      have e:=ot.str.cell0
      rw[or.str.cell0] at e
      rw[h2.cell0,Option.some.inj e]
    . refine(ot.str.grow h5 ?_).cell0
      rintro((e|e)|(e|e))
      . exact hcz e
      . exact hcr e
      . exact h.zp o i c p hc hp e
      . exact h.zp o m c p2 hc hp2 e
 have HX0:=Lz (sgnAt j x a hj ha)
 have HY0:=Lz (sgnAt k y b hk hb)
 have HQ:=Lz (Int.natAbs_tdiv a b)
 have HM:=Lz (Int.natAbs_tmod a b)
 have HNQ:=Lz (sign_tdiv a b)
 have HNM:=Lz (sign_tmod a b)
 clear h hi hj hk hm hR hR2 ha ha' hb hb' hv hp hq hu hp2 hq2 hpx hqx hpy hqy oz or ox oy n1 n2 n3 n4 hap hla hdiv htab hzr him sgnAt
 unfold ptr
 go_enter Tryz.func157,Tryz.ntmps157
 go_upto_region 1 with fail
 go_cut [] from 10 (λwx=>AbsDone2 w z r p p2 (decide (v<0)) (decide (u<0)) (a.natAbs/b.natAbs) (a.natAbs%b.natAbs) wx)
 case first=>
  go_region_with (go_at_call 178;refine(HOP.out _).mono ?_;rintro e w1 ⟨p',cs',q',ds',rfl,hn,hmm,hg,hf,hf2,hap⟩;have hg':=(Grow.none (zzz w _ .none) _).trans hg;have hsz:=HSZ.out.grow hg' (by rintro(e|e);exact N1.out e;exact N3.out e);have hsr:=HSR.out.grow hg' (by rintro(e|e);exact N2.out e;exact N4.out e);have hc1:=hsz.cell1;have hf1:=hsz.free 1;have hc2:∀ s,(w1.setCell ⟨z,1,.none⟩ s).cell? ⟨r,1,.none⟩=some _:=λs=>(hsr.grow ((Grow.of (zzw w1 z 1 s)).weaken (λk _ e=>by cases e;rfl):Grow _ _ (λk=>k=z)) (Ne.symm HZR.out)).cell1;have hf2':=hsr.free 1;have HN:=Lz hn;have HMM:=Lz hmm;have HG:=Lz hg;have HFr:=Lz hf;have HFr2:=Lz hf2;have HAP:=Lz hap;clear hn hmm hg hg' hf hf2 hap hsz hsr)
  all_goals
   go_wp2_with fail
   go_meet
   case rel=>exact AbsDone2.of HZR.out HSZ.out HSR.out N1.out N2.out N3.out N4.out (zzz _ _ _) HN.out HMM.out HG.out HFr.out HFr2.out HAP.out
 case rest=>
  have HA:=Lz hcut
  have hx0:=HX0.out _ hcut
  have hy0:=HY0.out _ hcut
  obtain⟨p',cs',q',ds',h1,h2,h3,h4,h5,h6⟩:=hcut
  have hcz0:=h1.cell0
  have hcz1:=h1.cell1
  have hfz:=h1.free 0
  have hcr0:=h2.cell0
  have hcr1:=h2.cell1
  have hfr:=h2.free 0
  have hzr:=HZR.out
  have hrz:=Ne.symm HZR.out
  clear h1 h2 h3 h4 h5 h6 hz1 hr1 hx1 hy1
  obtain⟨na,hna⟩:∃ na,na=decide (a<0):=⟨_,rfl⟩
  obtain⟨nb,hnb⟩:∃ nb,nb=decide (b<0):=⟨_,rfl⟩
  rw[<-hna] at hx0
  rw[<-hnb] at hy0
  rw[<-hna] at HNQ HNM
  rw[<-hnb] at HNQ
  have E0:=Lz (λh=>zero_sign (Int.natAbs_tdiv a b) h:a.natAbs/b.natAbs=0->false=decide (a.tdiv b<0))
  have E1:=Lz (λh=>zero_sign (Int.natAbs_tmod a b) h:a.natAbs%b.natAbs=0->false=decide (a.tmod b<0))
  clear hna hnb
  by_cases hq0:a.natAbs/b.natAbs=0
  . have EQ:=Lz (E0.out hq0)
    have hl0:(dg (a.natAbs/b.natAbs)).length=0:=by rw[hq0,zyv];rfl
    rw[hl0] at hcz1
    clear hq0 hl0
    by_cases hm0:a.natAbs%b.natAbs=0
    . have EM:=Lz (E1.out hm0)
      have hl0:(dg (a.natAbs%b.natAbs)).length=0:=by rw[hm0,zyv];rfl
      rw[hl0] at hcr1
      clear hm0 hl0
      go_wp2_with fail
      go_region
      all_goals
       go_wp2_with fail
       go_ret2
       exact⟨rfl,(HA.out.drew _).finish HF.out HIM.out HHI.out HHM.out HHP.out HHP2.out HHR.out HHR2.out HQ.out HM.out EQ.out EM.out⟩
    . have EM:=Lz (HNM.out hm0)
      have hl2:=zyw hm0
      clear hm0
      generalize (dg (a.natAbs%b.natAbs)).length=len at *
      go_wp2_with fail
      go_region
      all_goals
       go_wp2_with fail
       go_ret2
       exact⟨rfl,(HA.out.drew _).finish HF.out HIM.out HHI.out HHM.out HHP.out HHP2.out HHR.out HHR2.out HQ.out HM.out EQ.out EM.out⟩
  . have EQ:=Lz (HNQ.out hq0)
    have hl1:=zyw hq0
    clear hq0
    generalize (dg (a.natAbs/b.natAbs)).length=len1 at *
    by_cases hm0:a.natAbs%b.natAbs=0
    . have EM:=Lz (E1.out hm0)
      have hl0:(dg (a.natAbs%b.natAbs)).length=0:=by rw[hm0,zyv];rfl
      rw[hl0] at hcr1
      clear hm0 hl0
      go_wp2_with fail
      go_region
      all_goals
       go_wp2_with fail
       go_ret2
       exact⟨rfl,(HA.out.drew _).finish HF.out HIM.out HHI.out HHM.out HHP.out HHP2.out HHR.out HHR2.out HQ.out HM.out EQ.out EM.out⟩
    . have EM:=Lz (HNM.out hm0)
      have hl2:=zyw hm0
      clear hm0
      generalize (dg (a.natAbs%b.natAbs)).length=len at *
      go_wp2_with fail
      go_region
      all_goals
       go_wp2_with fail
       go_ret2
       exact⟨rfl,(HA.out.drew _).finish HF.out HIM.out HHI.out HHM.out HHP.out HHP2.out HHR.out HHR2.out HQ.out HM.out EQ.out EM.out⟩
end Go.Proofs.YtohhkjamddojmaaGreatDoor.Big

set_option maxRecDepth 100000
set_option maxHeartbeats 16000000
namespace Go.Proofs.YtohhkjamddojmaaGreatDoor.Big
open Go.RowKit
theorem add_same (R:Nat->Prop) (w:World) (zs:List Nat) (vs:List Int) (ps:List (Option Addr)) (qs:List (List Nat)) (h:Fam R w zs vs ps qs) (i j k z x y:Nat) (a b:Int) (hi:zs[i]? = some z) (hj:zs[j]? = some x) (hk:zs[k]? = some y) (hR:¬R z)
 (ha:vs[j]? = some a) (hb:vs[k]? = some b) (hla:(dg a.natAbs).length<=80000) (hlb:(dg b.natAbs).length<=80000) (hs:a<0↔b<0) :
 Calls Tryz.prog 130 #[ptr z,ptr x,ptr y] w (IntP R zs (vs.set i (a+b)) z w):=by
 obtain⟨v,p,q,hv,hp,hq,oz⟩:=h.at hi
 obtain⟨a',px,dx,ha',hpx,hqx,ox⟩:=h.at hj
 obtain⟨b',py,dy,hb',hpy,hqy,oy⟩:=h.at hk
 obtain rfl:a=a':=by rw[ha] at ha';exact Option.some.inj ha'
 obtain rfl:b=b':=by rw[hb] at hb';exact Option.some.inj hb'
 have hpz:blk p≠some z:=h.zp i i z p hi hp
 have HOP:=Lz λn=>nat_add p px py (dg v.natAbs).length a.natAbs b.natAbs q dx dy (w.drewN n) (oz.num.buf.kept (zzz _ _ .none) (λ_ _=>by simp)) (ox.num.kept (zzz _ _ .none) (λ_ _=>by simp)) (oy.num.kept (zzz _ _ .none) (λ_ _=>by simp)) hla hlb
 have hz1:=oz.str.cell1
 have hx0:=ox.str.cell0
 have hx1:=ox.str.cell1
 have hy0:=oy.str.cell0
 have hy1:=oy.str.cell1
 obtain⟨na,hna⟩:∃ na,na=decide (a<0):=⟨_,rfl⟩
 have hd:decide (b<0)=na:=by rw[hna];by_cases hb0:b<0 <;> simp[hs,hb0]
 rw[<-hna] at hx0
 rw[hd] at hy0
 have hbb:(na==na)=true:=by cases na <;> rfl
 have HF:=Lz h
 have HSZ:=Lz oz.str
 have HPZ:=Lz hpz
 have HHI:=Lz hi
 have HHP:=Lz hp
 have HHR:=Lz hR
 have HR:=Lz (show(a+b).natAbs=a.natAbs+b.natAbs by omega)
 have HNB:=Lz (show a.natAbs+b.natAbs≠0->(na)=decide (a+b<0) by intro h0;rw[hna];by_cases ha0:a<0 <;> simp[ha0] <;> omega)
 clear h hi hj hk hR ha hb ha' hb' hv hp hq hpx hqx hpy hqy oz ox oy hpz hla hlb hna hd hs
 unfold ptr
 go_enter Tryz.func130,Tryz.ntmps130
 go_wp2_with fail
 go_quiet (fail)
 go_wp2_with fail
 go_cut [] from 21 (λwx=>zxy w z p (decide (v<0)) (a.natAbs+b.natAbs) wx)
 case first=>
  go_region_with (go_at_call 160;refine(HOP.out _).mono ?_;rintro e w1 ⟨p',q',rfl,hn,hg,hf⟩;have hsz:=HSZ.out.grow ((Grow.none (zzz w _ .none) _).trans (Grow.of hg)) HPZ.out;have hc1:=hsz.cell1;have hf1:=hsz.free 1;have HN:=Lz hn;have HG:=Lz hg;have HFr:=Lz hf;clear hn hg hf hsz)
  all_goals
   go_wp2_with fail
   go_meet
   case rel=>exact zxy.of HSZ.out HPZ.out (zzz _ _ _) HN.out HG.out HFr.out
 case rest=>
  have HA:=Lz hcut
  obtain⟨p',q',h1,h2,h3,h4,h5⟩:=hcut
  have hc0:=h1.cell0
  have hc1:=h1.cell1
  have hf0:=h1.free 0
  clear h1 h2 h3 h4 h5 hz1 hx0 hx1 hy0 hy1 hbb
  have HL:=Lz (λh0=>zyw h0:a.natAbs+b.natAbs≠0->0<(dg (a.natAbs+b.natAbs)).length)
  generalize (na)=nb at *
  by_cases hr0:a.natAbs+b.natAbs=0
  . have e2:false=decide (a+b<0):=by have:=HR.out;simp;omega
    have E2:=Lz e2
    have hl0:(dg (a.natAbs+b.natAbs)).length=0:=by rw[hr0,zyv];rfl
    rw[hl0] at hc1
    clear e2 hr0 hl0
    go_wp2_with fail
    go_ret
    exact⟨rfl,HA.out.finish HF.out HHI.out HHP.out HHR.out HR.out E2.out⟩
  . have hl2:(0:Int)<((dg (a.natAbs+b.natAbs)).length:Int):=by have:=HL.out hr0;omega
    have E2:=Lz (HNB.out hr0)
    clear hr0
    generalize (dg (a.natAbs+b.natAbs)).length=len at *
    go_wp2_with fail
    go_ret
    exact⟨rfl,HA.out.finish HF.out HHI.out HHP.out HHR.out HR.out E2.out⟩
theorem add_ge (R:Nat->Prop) (w:World) (zs:List Nat) (vs:List Int) (ps:List (Option Addr)) (qs:List (List Nat)) (h:Fam R w zs vs ps qs) (i j k z x y:Nat) (a b:Int) (hi:zs[i]? = some z) (hj:zs[j]? = some x) (hk:zs[k]? = some y) (hR:¬R z)
 (ha:vs[j]? = some a) (hb:vs[k]? = some b) (hla:(dg a.natAbs).length<=80000) (_hlb:(dg b.natAbs).length<=80000) (hs:a<0↔¬b<0) (hle:b.natAbs<=a.natAbs) :
 Calls Tryz.prog 130 #[ptr z,ptr x,ptr y] w (IntP R zs (vs.set i (a+b)) z w):=by
 obtain⟨v,p,q,hv,hp,hq,oz⟩:=h.at hi
 obtain⟨a',px,dx,ha',hpx,hqx,ox⟩:=h.at hj
 obtain⟨b',py,dy,hb',hpy,hqy,oy⟩:=h.at hk
 obtain rfl:a=a':=by rw[ha] at ha';exact Option.some.inj ha'
 obtain rfl:b=b':=by rw[hb] at hb';exact Option.some.inj hb'
 have hpz:blk p≠some z:=h.zp i i z p hi hp
 have HOP:=Lz λn=>nat_sub p px py (dg v.natAbs).length a.natAbs b.natAbs q dx dy (w.drewN n) (oz.num.buf.kept (zzz _ _ .none) (λ_ _=>by simp)) (ox.num.kept (zzz _ _ .none) (λ_ _=>by simp)) (oy.num.kept (zzz _ _ .none) (λ_ _=>by simp)) hla hle
 have hcmp:=λn m=>Calls.quiet_of (w:=w.drewN n) (n:=m) (nat_cmp px py a.natAbs b.natAbs dx dy ((w.drewN n).drewN m) ((ox.num.kept (zzz _ _ .none) (λ_ _=>by simp)).kept (zzz _ _ .none) (λ_ _=>by simp)) ((oy.num.kept (zzz _ _ .none) (λ_ _=>by simp)).kept (zzz _ _ .none) (λ_ _=>by simp)) hla)
 simp only[drewN_drewN] at hcmp
 have HCMP:=Lz hcmp
 clear hcmp
 have hsg:0<=sgn a.natAbs b.natAbs:=by unfold sgn;split;omega;split <;> omega
 have hz1:=oz.str.cell1
 have hx0:=ox.str.cell0
 have hx1:=ox.str.cell1
 have hy0:=oy.str.cell0
 have hy1:=oy.str.cell1
 obtain⟨na,hna⟩:∃ na,na=decide (a<0):=⟨_,rfl⟩
 have hd:decide (b<0)=!na:=by rw[hna];by_cases hb0:b<0 <;> simp[hs,hb0]
 rw[<-hna] at hx0
 rw[hd] at hy0
 have hbb:(na == !na)=false:=by cases na <;> rfl
 have HF:=Lz h
 have HSZ:=Lz oz.str
 have HPZ:=Lz hpz
 have HHI:=Lz hi
 have HHP:=Lz hp
 have HHR:=Lz hR
 have HR:=Lz (show(a+b).natAbs=a.natAbs-b.natAbs by omega)
 have HNB:=Lz (show a.natAbs-b.natAbs≠0->(na)=decide (a+b<0) by intro h0;rw[hna];by_cases ha0:a<0 <;> simp[ha0] <;> omega)
 clear h hi hj hk hR ha hb ha' hb' hv hp hq hpx hqx hpy hqy oz ox oy hpz hla _hlb hna hd hs hle
 unfold ptr
 go_enter Tryz.func130,Tryz.ntmps130
 go_wp2_with fail
 go_quiet (fail)
 go_wp2_with fail
 go_quiet ((go_at_call 131;exact HCMP.out _ _))
 go_wp2_with fail
 go_cut [] from 47 (λwx=>zxy w z p (decide (v<0)) (a.natAbs-b.natAbs) wx)
 case first=>
  go_region_with (go_at_call 161;refine(HOP.out _).mono ?_;rintro e w1 ⟨p',q',rfl,hn,hg,hf⟩;have hsz:=HSZ.out.grow ((Grow.none (zzz w _ .none) _).trans (Grow.of hg)) HPZ.out;have hc1:=hsz.cell1;have hf1:=hsz.free 1;have HN:=Lz hn;have HG:=Lz hg;have HFr:=Lz hf;clear hn hg hf hsz)
  all_goals
   go_wp2_with fail
   go_meet
   case rel=>exact zxy.of HSZ.out HPZ.out (zzz _ _ _) HN.out HG.out HFr.out
 case rest=>
  have HA:=Lz hcut
  obtain⟨p',q',h1,h2,h3,h4,h5⟩:=hcut
  have hc0:=h1.cell0
  have hc1:=h1.cell1
  have hf0:=h1.free 0
  clear h1 h2 h3 h4 h5 hz1 hx0 hx1 hy0 hy1 hbb
  have HL:=Lz (λh0=>zyw h0:a.natAbs-b.natAbs≠0->0<(dg (a.natAbs-b.natAbs)).length)
  generalize (na)=nb at *
  by_cases hr0:a.natAbs-b.natAbs=0
  . have e2:false=decide (a+b<0):=by have:=HR.out;simp;omega
    have E2:=Lz e2
    have hl0:(dg (a.natAbs-b.natAbs)).length=0:=by rw[hr0,zyv];rfl
    rw[hl0] at hc1
    clear e2 hr0 hl0
    go_wp2_with fail
    go_ret
    exact⟨rfl,HA.out.finish HF.out HHI.out HHP.out HHR.out HR.out E2.out⟩
  . have hl2:(0:Int)<((dg (a.natAbs-b.natAbs)).length:Int):=by have:=HL.out hr0;omega
    have E2:=Lz (HNB.out hr0)
    clear hr0
    generalize (dg (a.natAbs-b.natAbs)).length=len at *
    go_wp2_with fail
    go_ret
    exact⟨rfl,HA.out.finish HF.out HHI.out HHP.out HHR.out HR.out E2.out⟩
end Go.Proofs.YtohhkjamddojmaaGreatDoor.Big
namespace Go.Proofs.YtohhkjamddojmaaGreatDoor.Big
open Go.RowKit
theorem add_lt (R:Nat->Prop) (w:World) (zs:List Nat) (vs:List Int) (ps:List (Option Addr)) (qs:List (List Nat)) (h:Fam R w zs vs ps qs) (i j k z x y:Nat) (a b:Int) (hi:zs[i]? = some z) (hj:zs[j]? = some x) (hk:zs[k]? = some y) (hR:¬R z)
 (ha:vs[j]? = some a) (hb:vs[k]? = some b) (hla:(dg a.natAbs).length<=80000) (hlb:(dg b.natAbs).length<=80000) (hs:a<0↔¬b<0) (hle:a.natAbs<b.natAbs) :
 Calls Tryz.prog 130 #[ptr z,ptr x,ptr y] w (IntP R zs (vs.set i (a+b)) z w):=by
 obtain⟨v,p,q,hv,hp,hq,oz⟩:=h.at hi
 obtain⟨a',px,dx,ha',hpx,hqx,ox⟩:=h.at hj
 obtain⟨b',py,dy,hb',hpy,hqy,oy⟩:=h.at hk
 obtain rfl:a=a':=by rw[ha] at ha';exact Option.some.inj ha'
 obtain rfl:b=b':=by rw[hb] at hb';exact Option.some.inj hb'
 have hpz:blk p≠some z:=h.zp i i z p hi hp
 have HOP:=Lz λn=>nat_sub p py px (dg v.natAbs).length b.natAbs a.natAbs q dy dx (w.drewN n) (oz.num.buf.kept (zzz _ _ .none) (λ_ _=>by simp)) (oy.num.kept (zzz _ _ .none) (λ_ _=>by simp)) (ox.num.kept (zzz _ _ .none) (λ_ _=>by simp)) hlb (Nat.le_of_lt hle)
 have hcmp:=λn m=>Calls.quiet_of (w:=w.drewN n) (n:=m) (nat_cmp px py a.natAbs b.natAbs dx dy ((w.drewN n).drewN m) ((ox.num.kept (zzz _ _ .none) (λ_ _=>by simp)).kept (zzz _ _ .none) (λ_ _=>by simp)) ((oy.num.kept (zzz _ _ .none) (λ_ _=>by simp)).kept (zzz _ _ .none) (λ_ _=>by simp)) hla)
 simp only[drewN_drewN] at hcmp
 have HCMP:=Lz hcmp
 clear hcmp
 have hsg:¬0<=sgn a.natAbs b.natAbs:=by unfold sgn;rw[if_pos hle];decide
 have hz1:=oz.str.cell1
 have hx0:=ox.str.cell0
 have hx1:=ox.str.cell1
 have hy0:=oy.str.cell0
 have hy1:=oy.str.cell1
 obtain⟨na,hna⟩:∃ na,na=decide (a<0):=⟨_,rfl⟩
 have hd:decide (b<0)=!na:=by rw[hna];by_cases hb0:b<0 <;> simp[hs,hb0]
 rw[<-hna] at hx0
 rw[hd] at hy0
 have hbb:(na == !na)=false:=by cases na <;> rfl
 have HF:=Lz h
 have HSZ:=Lz oz.str
 have HPZ:=Lz hpz
 have HHI:=Lz hi
 have HHP:=Lz hp
 have HHR:=Lz hR
 have HR:=Lz (show(a+b).natAbs=b.natAbs-a.natAbs by omega)
 have HNB:=Lz (show b.natAbs-a.natAbs≠0->(!na)=decide (a+b<0) by intro h0;rw[hna];by_cases ha0:a<0 <;> simp[ha0] <;> omega)
 clear h hi hj hk hR ha hb ha' hb' hv hp hq hpx hqx hpy hqy oz ox oy hpz hla hlb hna hd hs hle
 unfold ptr
 go_enter Tryz.func130,Tryz.ntmps130
 go_wp2_with fail
 go_quiet (fail)
 go_wp2_with fail
 go_quiet ((go_at_call 131;exact HCMP.out _ _))
 go_wp2_with fail
 go_cut [] from 65 (λwx=>zxy w z p (decide (v<0)) (b.natAbs-a.natAbs) wx)
 case first=>
  go_region_with (go_at_call 161;refine(HOP.out _).mono ?_;rintro e w1 ⟨p',q',rfl,hn,hg,hf⟩;have hsz:=HSZ.out.grow ((Grow.none (zzz w _ .none) _).trans (Grow.of hg)) HPZ.out;have hc1:=hsz.cell1;have hf1:=hsz.free 1;have HN:=Lz hn;have HG:=Lz hg;have HFr:=Lz hf;clear hn hg hf hsz)
  all_goals
   go_wp2_with fail
   go_meet
   case rel=>exact zxy.of HSZ.out HPZ.out (zzz _ _ _) HN.out HG.out HFr.out
 case rest=>
  have HA:=Lz hcut
  obtain⟨p',q',h1,h2,h3,h4,h5⟩:=hcut
  have hc0:=h1.cell0
  have hc1:=h1.cell1
  have hf0:=h1.free 0
  clear h1 h2 h3 h4 h5 hz1 hx0 hx1 hy0 hy1 hbb
  have HL:=Lz (λh0=>zyw h0:b.natAbs-a.natAbs≠0->0<(dg (b.natAbs-a.natAbs)).length)
  generalize (!na)=nb at *
  by_cases hr0:b.natAbs-a.natAbs=0
  . have e2:false=decide (a+b<0):=by have:=HR.out;simp;omega
    have E2:=Lz e2
    have hl0:(dg (b.natAbs-a.natAbs)).length=0:=by rw[hr0,zyv];rfl
    rw[hl0] at hc1
    clear e2 hr0 hl0
    go_wp2_with fail
    go_ret
    exact⟨rfl,HA.out.finish HF.out HHI.out HHP.out HHR.out HR.out E2.out⟩
  . have hl2:(0:Int)<((dg (b.natAbs-a.natAbs)).length:Int):=by have:=HL.out hr0;omega
    have E2:=Lz (HNB.out hr0)
    clear hr0
    generalize (dg (b.natAbs-a.natAbs)).length=len at *
    go_wp2_with fail
    go_ret
    exact⟨rfl,HA.out.finish HF.out HHI.out HHP.out HHR.out HR.out E2.out⟩
theorem sub_opp (R:Nat->Prop) (w:World) (zs:List Nat) (vs:List Int) (ps:List (Option Addr)) (qs:List (List Nat)) (h:Fam R w zs vs ps qs) (i j k z x y:Nat) (a b:Int) (hi:zs[i]? = some z) (hj:zs[j]? = some x) (hk:zs[k]? = some y) (hR:¬R z)
 (ha:vs[j]? = some a) (hb:vs[k]? = some b) (hla:(dg a.natAbs).length<=80000) (hlb:(dg b.natAbs).length<=80000) (hs:a<0↔¬b<0) :
 Calls Tryz.prog 142 #[ptr z,ptr x,ptr y] w (IntP R zs (vs.set i (a-b)) z w):=by
 obtain⟨v,p,q,hv,hp,hq,oz⟩:=h.at hi
 obtain⟨a',px,dx,ha',hpx,hqx,ox⟩:=h.at hj
 obtain⟨b',py,dy,hb',hpy,hqy,oy⟩:=h.at hk
 obtain rfl:a=a':=by rw[ha] at ha';exact Option.some.inj ha'
 obtain rfl:b=b':=by rw[hb] at hb';exact Option.some.inj hb'
 have hpz:blk p≠some z:=h.zp i i z p hi hp
 have HOP:=Lz λn=>nat_add p px py (dg v.natAbs).length a.natAbs b.natAbs q dx dy (w.drewN n) (oz.num.buf.kept (zzz _ _ .none) (λ_ _=>by simp)) (ox.num.kept (zzz _ _ .none) (λ_ _=>by simp)) (oy.num.kept (zzz _ _ .none) (λ_ _=>by simp)) hla hlb
 have hz1:=oz.str.cell1
 have hx0:=ox.str.cell0
 have hx1:=ox.str.cell1
 have hy0:=oy.str.cell0
 have hy1:=oy.str.cell1
 obtain⟨na,hna⟩:∃ na,na=decide (a<0):=⟨_,rfl⟩
 have hd:decide (b<0)=!na:=by rw[hna];by_cases hb0:b<0 <;> simp[hs,hb0]
 rw[<-hna] at hx0
 rw[hd] at hy0
 have hbb:(na == !na)=false:=by cases na <;> rfl
 have HF:=Lz h
 have HSZ:=Lz oz.str
 have HPZ:=Lz hpz
 have HHI:=Lz hi
 have HHP:=Lz hp
 have HHR:=Lz hR
 have HR:=Lz (show(a-b).natAbs=a.natAbs+b.natAbs by omega)
 have HNB:=Lz (show a.natAbs+b.natAbs≠0->(na)=decide (a-b<0) by intro h0;rw[hna];by_cases ha0:a<0 <;> simp[ha0] <;> omega)
 clear h hi hj hk hR ha hb ha' hb' hv hp hq hpx hqx hpy hqy oz ox oy hpz hla hlb hna hd hs
 unfold ptr
 go_enter Tryz.func142,Tryz.ntmps142
 go_wp2_with fail
 go_quiet (fail)
 go_wp2_with fail
 go_cut [] from 21 (λwx=>zxy w z p (decide (v<0)) (a.natAbs+b.natAbs) wx)
 case first=>
  go_region_with (go_at_call 160;refine(HOP.out _).mono ?_;rintro e w1 ⟨p',q',rfl,hn,hg,hf⟩;have hsz:=HSZ.out.grow ((Grow.none (zzz w _ .none) _).trans (Grow.of hg)) HPZ.out;have hc1:=hsz.cell1;have hf1:=hsz.free 1;have HN:=Lz hn;have HG:=Lz hg;have HFr:=Lz hf;clear hn hg hf hsz)
  all_goals
   go_wp2_with fail
   go_meet
   case rel=>exact zxy.of HSZ.out HPZ.out (zzz _ _ _) HN.out HG.out HFr.out
 case rest=>
  have HA:=Lz hcut
  obtain⟨p',q',h1,h2,h3,h4,h5⟩:=hcut
  have hc0:=h1.cell0
  have hc1:=h1.cell1
  have hf0:=h1.free 0
  clear h1 h2 h3 h4 h5 hz1 hx0 hx1 hy0 hy1 hbb
  have HL:=Lz (λh0=>zyw h0:a.natAbs+b.natAbs≠0->0<(dg (a.natAbs+b.natAbs)).length)
  generalize (na)=nb at *
  by_cases hr0:a.natAbs+b.natAbs=0
  . have e2:false=decide (a-b<0):=by have:=HR.out;simp;omega
    have E2:=Lz e2
    have hl0:(dg (a.natAbs+b.natAbs)).length=0:=by rw[hr0,zyv];rfl
    rw[hl0] at hc1
    clear e2 hr0 hl0
    go_wp2_with fail
    go_ret
    exact⟨rfl,HA.out.finish HF.out HHI.out HHP.out HHR.out HR.out E2.out⟩
  . have hl2:(0:Int)<((dg (a.natAbs+b.natAbs)).length:Int):=by have:=HL.out hr0;omega
    have E2:=Lz (HNB.out hr0)
    clear hr0
    generalize (dg (a.natAbs+b.natAbs)).length=len at *
    go_wp2_with fail
    go_ret
    exact⟨rfl,HA.out.finish HF.out HHI.out HHP.out HHR.out HR.out E2.out⟩
end Go.Proofs.YtohhkjamddojmaaGreatDoor.Big
namespace Go.Proofs.YtohhkjamddojmaaGreatDoor.Big
open Go.RowKit
theorem sub_ge (R:Nat->Prop) (w:World) (zs:List Nat) (vs:List Int) (ps:List (Option Addr)) (qs:List (List Nat)) (h:Fam R w zs vs ps qs) (i j k z x y:Nat) (a b:Int) (hi:zs[i]? = some z) (hj:zs[j]? = some x) (hk:zs[k]? = some y) (hR:¬R z)
 (ha:vs[j]? = some a) (hb:vs[k]? = some b) (hla:(dg a.natAbs).length<=80000) (_hlb:(dg b.natAbs).length<=80000) (hs:a<0↔b<0) (hle:b.natAbs<=a.natAbs) :
 Calls Tryz.prog 142 #[ptr z,ptr x,ptr y] w (IntP R zs (vs.set i (a-b)) z w):=by
 obtain⟨v,p,q,hv,hp,hq,oz⟩:=h.at hi
 obtain⟨a',px,dx,ha',hpx,hqx,ox⟩:=h.at hj
 obtain⟨b',py,dy,hb',hpy,hqy,oy⟩:=h.at hk
 obtain rfl:a=a':=by rw[ha] at ha';exact Option.some.inj ha'
 obtain rfl:b=b':=by rw[hb] at hb';exact Option.some.inj hb'
 have hpz:blk p≠some z:=h.zp i i z p hi hp
 have HOP:=Lz λn=>nat_sub p px py (dg v.natAbs).length a.natAbs b.natAbs q dx dy (w.drewN n) (oz.num.buf.kept (zzz _ _ .none) (λ_ _=>by simp)) (ox.num.kept (zzz _ _ .none) (λ_ _=>by simp)) (oy.num.kept (zzz _ _ .none) (λ_ _=>by simp)) hla hle
 have hcmp:=λn m=>Calls.quiet_of (w:=w.drewN n) (n:=m) (nat_cmp px py a.natAbs b.natAbs dx dy ((w.drewN n).drewN m) ((ox.num.kept (zzz _ _ .none) (λ_ _=>by simp)).kept (zzz _ _ .none) (λ_ _=>by simp)) ((oy.num.kept (zzz _ _ .none) (λ_ _=>by simp)).kept (zzz _ _ .none) (λ_ _=>by simp)) hla)
 simp only[drewN_drewN] at hcmp
 have HCMP:=Lz hcmp
 clear hcmp
 have hsg:0<=sgn a.natAbs b.natAbs:=by unfold sgn;split;omega;split <;> omega
 have hz1:=oz.str.cell1
 have hx0:=ox.str.cell0
 have hx1:=ox.str.cell1
 have hy0:=oy.str.cell0
 have hy1:=oy.str.cell1
 obtain⟨na,hna⟩:∃ na,na=decide (a<0):=⟨_,rfl⟩
 have hd:decide (b<0)=na:=by rw[hna];by_cases hb0:b<0 <;> simp[hs,hb0]
 rw[<-hna] at hx0
 rw[hd] at hy0
 have hbb:(na==na)=true:=by cases na <;> rfl
 have HF:=Lz h
 have HSZ:=Lz oz.str
 have HPZ:=Lz hpz
 have HHI:=Lz hi
 have HHP:=Lz hp
 have HHR:=Lz hR
 have HR:=Lz (show(a-b).natAbs=a.natAbs-b.natAbs by omega)
 have HNB:=Lz (show a.natAbs-b.natAbs≠0->(na)=decide (a-b<0) by intro h0;rw[hna];by_cases ha0:a<0 <;> simp[ha0] <;> omega)
 clear h hi hj hk hR ha hb ha' hb' hv hp hq hpx hqx hpy hqy oz ox oy hpz hla _hlb hna hd hs hle
 unfold ptr
 go_enter Tryz.func142,Tryz.ntmps142
 go_wp2_with fail
 go_quiet (fail)
 go_wp2_with fail
 go_quiet ((go_at_call 131;exact HCMP.out _ _))
 go_wp2_with fail
 go_cut [] from 47 (λwx=>zxy w z p (decide (v<0)) (a.natAbs-b.natAbs) wx)
 case first=>
  go_region_with (go_at_call 161;refine(HOP.out _).mono ?_;rintro e w1 ⟨p',q',rfl,hn,hg,hf⟩;have hsz:=HSZ.out.grow ((Grow.none (zzz w _ .none) _).trans (Grow.of hg)) HPZ.out;have hc1:=hsz.cell1;have hf1:=hsz.free 1;have HN:=Lz hn;have HG:=Lz hg;have HFr:=Lz hf;clear hn hg hf hsz)
  all_goals
   go_wp2_with fail
   go_meet
   case rel=>exact zxy.of HSZ.out HPZ.out (zzz _ _ _) HN.out HG.out HFr.out
 case rest=>
  have HA:=Lz hcut
  obtain⟨p',q',h1,h2,h3,h4,h5⟩:=hcut
  have hc0:=h1.cell0
  have hc1:=h1.cell1
  have hf0:=h1.free 0
  clear h1 h2 h3 h4 h5 hz1 hx0 hx1 hy0 hy1 hbb
  have HL:=Lz (λh0=>zyw h0:a.natAbs-b.natAbs≠0->0<(dg (a.natAbs-b.natAbs)).length)
  generalize (na)=nb at *
  by_cases hr0:a.natAbs-b.natAbs=0
  . have e2:false=decide (a-b<0):=by have:=HR.out;simp;omega
    have E2:=Lz e2
    have hl0:(dg (a.natAbs-b.natAbs)).length=0:=by rw[hr0,zyv];rfl
    rw[hl0] at hc1
    clear e2 hr0 hl0
    go_wp2_with fail
    go_ret
    exact⟨rfl,HA.out.finish HF.out HHI.out HHP.out HHR.out HR.out E2.out⟩
  . have hl2:(0:Int)<((dg (a.natAbs-b.natAbs)).length:Int):=by have:=HL.out hr0;omega
    have E2:=Lz (HNB.out hr0)
    clear hr0
    generalize (dg (a.natAbs-b.natAbs)).length=len at *
    go_wp2_with fail
    go_ret
    exact⟨rfl,HA.out.finish HF.out HHI.out HHP.out HHR.out HR.out E2.out⟩
theorem sub_lt (R:Nat->Prop) (w:World) (zs:List Nat) (vs:List Int) (ps:List (Option Addr)) (qs:List (List Nat)) (h:Fam R w zs vs ps qs) (i j k z x y:Nat) (a b:Int) (hi:zs[i]? = some z) (hj:zs[j]? = some x) (hk:zs[k]? = some y) (hR:¬R z)
 (ha:vs[j]? = some a) (hb:vs[k]? = some b) (hla:(dg a.natAbs).length<=80000) (hlb:(dg b.natAbs).length<=80000) (hs:a<0↔b<0) (hle:a.natAbs<b.natAbs) :
 Calls Tryz.prog 142 #[ptr z,ptr x,ptr y] w (IntP R zs (vs.set i (a-b)) z w):=by
 obtain⟨v,p,q,hv,hp,hq,oz⟩:=h.at hi
 obtain⟨a',px,dx,ha',hpx,hqx,ox⟩:=h.at hj
 obtain⟨b',py,dy,hb',hpy,hqy,oy⟩:=h.at hk
 obtain rfl:a=a':=by rw[ha] at ha';exact Option.some.inj ha'
 obtain rfl:b=b':=by rw[hb] at hb';exact Option.some.inj hb'
 have hpz:blk p≠some z:=h.zp i i z p hi hp
 have HOP:=Lz λn=>nat_sub p py px (dg v.natAbs).length b.natAbs a.natAbs q dy dx (w.drewN n) (oz.num.buf.kept (zzz _ _ .none) (λ_ _=>by simp)) (oy.num.kept (zzz _ _ .none) (λ_ _=>by simp)) (ox.num.kept (zzz _ _ .none) (λ_ _=>by simp)) hlb (Nat.le_of_lt hle)
 have hcmp:=λn m=>Calls.quiet_of (w:=w.drewN n) (n:=m) (nat_cmp px py a.natAbs b.natAbs dx dy ((w.drewN n).drewN m) ((ox.num.kept (zzz _ _ .none) (λ_ _=>by simp)).kept (zzz _ _ .none) (λ_ _=>by simp)) ((oy.num.kept (zzz _ _ .none) (λ_ _=>by simp)).kept (zzz _ _ .none) (λ_ _=>by simp)) hla)
 simp only[drewN_drewN] at hcmp
 have HCMP:=Lz hcmp
 clear hcmp
 have hsg:¬0<=sgn a.natAbs b.natAbs:=by unfold sgn;rw[if_pos hle];decide
 have hz1:=oz.str.cell1
 have hx0:=ox.str.cell0
 have hx1:=ox.str.cell1
 have hy0:=oy.str.cell0
 have hy1:=oy.str.cell1
 obtain⟨na,hna⟩:∃ na,na=decide (a<0):=⟨_,rfl⟩
 have hd:decide (b<0)=na:=by rw[hna];by_cases hb0:b<0 <;> simp[hs,hb0]
 rw[<-hna] at hx0
 rw[hd] at hy0
 have hbb:(na==na)=true:=by cases na <;> rfl
 have HF:=Lz h
 have HSZ:=Lz oz.str
 have HPZ:=Lz hpz
 have HHI:=Lz hi
 have HHP:=Lz hp
 have HHR:=Lz hR
 have HR:=Lz (show(a-b).natAbs=b.natAbs-a.natAbs by omega)
 have HNB:=Lz (show b.natAbs-a.natAbs≠0->(!na)=decide (a-b<0) by intro h0;rw[hna];by_cases ha0:a<0 <;> simp[ha0] <;> omega)
 clear h hi hj hk hR ha hb ha' hb' hv hp hq hpx hqx hpy hqy oz ox oy hpz hla hlb hna hd hs hle
 unfold ptr
 go_enter Tryz.func142,Tryz.ntmps142
 go_wp2_with fail
 go_quiet (fail)
 go_wp2_with fail
 go_quiet ((go_at_call 131;exact HCMP.out _ _))
 go_wp2_with fail
 go_cut [] from 65 (λwx=>zxy w z p (decide (v<0)) (b.natAbs-a.natAbs) wx)
 case first=>
  go_region_with (go_at_call 161;refine(HOP.out _).mono ?_;rintro e w1 ⟨p',q',rfl,hn,hg,hf⟩;have hsz:=HSZ.out.grow ((Grow.none (zzz w _ .none) _).trans (Grow.of hg)) HPZ.out;have hc1:=hsz.cell1;have hf1:=hsz.free 1;have HN:=Lz hn;have HG:=Lz hg;have HFr:=Lz hf;clear hn hg hf hsz)
  all_goals
   go_wp2_with fail
   go_meet
   case rel=>exact zxy.of HSZ.out HPZ.out (zzz _ _ _) HN.out HG.out HFr.out
 case rest=>
  have HA:=Lz hcut
  obtain⟨p',q',h1,h2,h3,h4,h5⟩:=hcut
  have hc0:=h1.cell0
  have hc1:=h1.cell1
  have hf0:=h1.free 0
  clear h1 h2 h3 h4 h5 hz1 hx0 hx1 hy0 hy1 hbb
  have HL:=Lz (λh0=>zyw h0:b.natAbs-a.natAbs≠0->0<(dg (b.natAbs-a.natAbs)).length)
  generalize (!na)=nb at *
  by_cases hr0:b.natAbs-a.natAbs=0
  . have e2:false=decide (a-b<0):=by have:=HR.out;simp;omega
    have E2:=Lz e2
    have hl0:(dg (b.natAbs-a.natAbs)).length=0:=by rw[hr0,zyv];rfl
    rw[hl0] at hc1
    clear e2 hr0 hl0
    go_wp2_with fail
    go_ret
    exact⟨rfl,HA.out.finish HF.out HHI.out HHP.out HHR.out HR.out E2.out⟩
  . have hl2:(0:Int)<((dg (b.natAbs-a.natAbs)).length:Int):=by have:=HL.out hr0;omega
    have E2:=Lz (HNB.out hr0)
    clear hr0
    generalize (dg (b.natAbs-a.natAbs)).length=len at *
    go_wp2_with fail
    go_ret
    exact⟨rfl,HA.out.finish HF.out HHI.out HHP.out HHR.out HR.out E2.out⟩
end Go.Proofs.YtohhkjamddojmaaGreatDoor.Big
