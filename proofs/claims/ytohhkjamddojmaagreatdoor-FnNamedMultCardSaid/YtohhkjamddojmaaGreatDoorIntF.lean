/- Products of Ints. A family of Ints of which several are written; quotient and remainder of Ints. New Ints. A family without its last Int. A family of Ints: what is in it, by pointer; its order turned; sizes. -/
import Derived.Test.YtohhkjamddojmaaGreatDoorWU
import Derived.BigRegion
set_option maxRecDepth 100000
set_option maxHeartbeats 16000000
namespace Go.Proofs.YtohhkjamddojmaaGreatDoor.Big
open Go.RowKit
theorem under108:Tryz.prog.underlying 108=some (.pointer 172):=by kernel_rfl
theorem info172:(Tryz.prog.info? 172).map (λi=>i.size)=some 2:=by kernel_rfl
theorem eq_int_same (w:World) (z:Nat):(binOp .eql 108 (ptr z) (ptr z)).run Tryz.prog w=.ok (.bool true) w:=by
 obtain⟨j,hj,_⟩:=Option.map_eq_some_iff.1 info172
 exact eql_ptr_same w _ under108 hj
theorem eq_int_other {w:World} {x y:Nat} {n1 n2:Bool} {p1 p2:Option Addr} {l1 l2 c1 c2:Nat} (hx:StrB w x n1 p1 l1 c1) (hy:StrB w y n2 p2 l2 c2) (hne:x≠y):(binOp .eql 108 (ptr x) (ptr y)).run Tryz.prog w=.ok (.bool false) w:=by
 obtain⟨j,hj,hs⟩:=Option.map_eq_some_iff.1 info172
 exact eql_ptr_other (w:=w) under108 hj (by rw[hs];decide) (by intro e;simp only[Addr.mk.injEq] at e;exact hne e.1) hx hy
theorem sq_nonneg (a:Int):0<=a*a:=by
 rcases Int.le_total 0 a with h|h
 . exact Int.mul_nonneg h h
 . have:=Int.mul_nonneg (Int.neg_nonneg_of_nonpos h) (Int.neg_nonneg_of_nonpos h)
   rwa [Int.neg_mul_neg] at this
theorem sign_mul (a b:Int) (h:a.natAbs*b.natAbs≠0):(decide (a<0) != decide (b<0))=decide (a*b<0):=by
 have ha:a≠0:=by rintro rfl;simp at h
 have hb:b≠0:=by rintro rfl;simp at h
 rcases Int.lt_or_gt_of_ne ha with h1|h1 <;> rcases Int.lt_or_gt_of_ne hb with h2|h2
 . have:=Int.mul_pos_of_neg_of_neg h1 h2
   simp[h1,h2];omega
 . have:=Int.mul_neg_of_neg_of_pos h1 h2
   have h3:¬b<0:=by omega
   simp[h1,h3,this]
 . have:=Int.mul_neg_of_pos_of_neg h1 h2
   have h3:¬a<0:=by omega
   simp[h3,h2,this]
 . have:=Int.mul_pos h1 h2
   have h3:¬a<0:=by omega
   have h4:¬b<0:=by omega
   simp[h3,h4];omega
def IntV (R:Nat->Prop) (zs:List Nat) (vs:List Int) (w:World) (e:Ending) (w':World):Prop:=e=.returned (.tuple #[])/\Ints R w' zs vs/\Kept R w w'
theorem mul_same (R:Nat->Prop) (w:World) (zs:List Nat) (vs:List Int) (ps:List (Option Addr)) (qs:List (List Nat)) (h:Fam R w zs vs ps qs) (s:Value) (i j z x:Nat) (a:Int) (hi:zs[i]? = some z) (hj:zs[j]? = some x) (hR:¬R z)
 (ha:vs[j]? = some a) (hla:(dg a.natAbs).length<=11) (htab:Tab w) :
 Calls Tryz.prog 155 #[ptr z,s,ptr x,ptr x] w (IntV R zs (vs.set i (a*a)) w):=by
 obtain⟨v,p,q,hv,hp,hq,oz⟩:=h.at hi
 obtain⟨a',px,dx,ha',hpx,hqx,ox⟩:=h.at hj
 obtain rfl:a=a':=by rw[ha] at ha';exact Option.some.inj ha'
 have hpz:blk p≠some z:=h.zp i i z p hi hp
 have HOP:=Lz λn=>nat_sqr p px s (dg v.natAbs).length a.natAbs q dx (w.drewN n) (oz.num.buf.kept (zzz _ _ .none) (λ_ _=>by simp)) (ox.num.kept (zzz _ _ .none) (λ_ _=>by simp)) hla (htab.kept (zzz _ _ .none) (λ_ e=>by cases e))
 have he:=eq_int_same w x
 unfold ptr at he
 have hz1:=oz.str.cell1
 have hx1:=ox.str.cell1
 have HF:=Lz h
 have HSZ:=Lz oz.str
 have HPZ:=Lz hpz
 have HHI:=Lz hi
 have HHP:=Lz hp
 have HHR:=Lz hR
 have HR:=Lz (Int.natAbs_mul a a)
 have HNB:=Lz (show false=decide (a*a<0) by have:=sq_nonneg a;simp;omega)
 clear h hi hj hR ha ha' hv hp hq hpx hqx oz ox hpz hla htab
 unfold ptr
 go_enter Tryz.func155,Tryz.ntmps155
 go_upto_region 1 with fail
 clear he
 go_cut [] from 11 (λwx=>zxy w z p (decide (v<0)) (a.natAbs*a.natAbs) wx)
 case first=>
  go_region_with (go_at_call 176;refine(HOP.out _).mono ?_;rintro e w1 ⟨p',q',rfl,hn,hg,hf⟩;have hsz:=HSZ.out.grow ((Grow.none (zzz w _ .none) _).trans (Grow.of hg)) HPZ.out;have hc1:=hsz.cell1;have hf1:=hsz.free 1;have HN:=Lz hn;have HG:=Lz hg;have HFr:=Lz hf;clear hn hg hf hsz)
  all_goals
   go_wp2_with fail
   go_meet
   case rel=>exact zxy.of HSZ.out HPZ.out (zzz _ _ _) HN.out HG.out HFr.out
 case rest=>
  have HA:=Lz hcut
  obtain⟨p',q',h1,h2,h3,h4,h5⟩:=hcut
  have hc0:=h1.cell0
  have hf0:=h1.free 0
  clear h1 h2 h3 h4 h5 hz1 hx1
  go_wp2_with fail
  (try simp only[Exit.inBlock,Exit.then]);refine bodyPost_ret (results_none rfl _ _ _) rfl ?_
  exact⟨rfl,HA.out.finish HF.out HHI.out HHP.out HHR.out HR.out HNB.out⟩
theorem mul_other (R:Nat->Prop) (w:World) (zs:List Nat) (vs:List Int) (ps:List (Option Addr)) (qs:List (List Nat)) (h:Fam R w zs vs ps qs) (s:Value) (i j k z x y:Nat) (a b:Int) (hi:zs[i]? = some z) (hj:zs[j]? = some x) (hk:zs[k]? = some y) (hR:¬R z) (hxy:x≠y)
 (ha:vs[j]? = some a) (hb:vs[k]? = some b) (hla:(dg a.natAbs).length<=39) (hlb:(dg b.natAbs).length<=39) (htab:Tab w) :
 Calls Tryz.prog 155 #[ptr z,s,ptr x,ptr y] w (IntV R zs (vs.set i (a*b)) w):=by
 obtain⟨v,p,q,hv,hp,hq,oz⟩:=h.at hi
 obtain⟨a',px,dx,ha',hpx,hqx,ox⟩:=h.at hj
 obtain⟨b',py,dy,hb',hpy,hqy,oy⟩:=h.at hk
 obtain rfl:a=a':=by rw[ha] at ha';exact Option.some.inj ha'
 obtain rfl:b=b':=by rw[hb] at hb';exact Option.some.inj hb'
 have hpz:blk p≠some z:=h.zp i i z p hi hp
 have HOP:=Lz λn=>nat_mul p px py s (dg v.natAbs).length a.natAbs b.natAbs q dx dy (w.drewN n) (oz.num.buf.kept (zzz _ _ .none) (λ_ _=>by simp)) (ox.num.kept (zzz _ _ .none) (λ_ _=>by simp)) (oy.num.kept (zzz _ _ .none) (λ_ _=>by simp)) hla hlb (htab.kept (zzz _ _ .none) (λ_ e=>by cases e))
 have he:=eq_int_other ox.str oy.str hxy
 unfold ptr at he
 have hz1:=oz.str.cell1
 have hx1:=ox.str.cell1
 have hy1:=oy.str.cell1
 have HF:=Lz h
 have HSZ:=Lz oz.str
 have HPZ:=Lz hpz
 have HHI:=Lz hi
 have HHP:=Lz hp
 have HHR:=Lz hR
 have HR:=Lz (Int.natAbs_mul a b)
 -- the signs behind the product: the struct of z may be x's, y's: its sign has not turned yet
 have hx0:∀ wx,zxy w z p (decide (v<0)) (a.natAbs*b.natAbs) wx->wx.cell? ⟨x,0,.none⟩=some (.bool (decide (a<0))):=by
  rintro wx ⟨p',q',h1,h2,h3,h4,h5⟩
  by_cases hxz:x=z
  . subst hxz
    have e:=ox.str.cell0
    rw[oz.str.cell0] at e
    rw[h1.cell0,Option.some.inj e]
  . exact(ox.str.grow h3 (by rintro(e|e);exact hxz e;exact h.zp j i x p hj hp e)).cell0
 have hy0:∀ wx,zxy w z p (decide (v<0)) (a.natAbs*b.natAbs) wx->wx.cell? ⟨y,0,.none⟩=some (.bool (decide (b<0))):=by
  rintro wx ⟨p',q',h1,h2,h3,h4,h5⟩
  by_cases hyz:y=z
  . subst hyz
    have e:=oy.str.cell0
    rw[oz.str.cell0] at e
    rw[h1.cell0,Option.some.inj e]
  . exact(oy.str.grow h3 (by rintro(e|e);exact hyz e;exact h.zp k i y p hk hp e)).cell0
 have HX0:=Lz hx0
 have HY0:=Lz hy0
 clear h hi hj hk hR ha ha' hb hb' hv hp hq hpx hqx hpy hqy oz ox oy hpz hla hlb htab hx0 hy0 hxy
 unfold ptr
 go_enter Tryz.func155,Tryz.ntmps155
 go_upto_region 3 with fail
 clear he
 go_cut [] from 11 (λwx=>zxy w z p (decide (v<0)) (a.natAbs*b.natAbs) wx)
 case first=>
  go_region_with (go_at_call 177;refine(HOP.out _).mono ?_;rintro e w1 ⟨p',q',rfl,hn,hg,hf⟩;have hsz:=HSZ.out.grow ((Grow.none (zzz w _ .none) _).trans (Grow.of hg)) HPZ.out;have hc1:=hsz.cell1;have hf1:=hsz.free 1;have HN:=Lz hn;have HG:=Lz hg;have HFr:=Lz hf;clear hn hg hf hsz)
  all_goals
   go_wp2_with fail
   go_meet
   case rel=>exact zxy.of HSZ.out HPZ.out (zzz _ _ _) HN.out HG.out HFr.out
 case rest=>
  have HA:=Lz hcut
  obtain⟨p',q',h1,h2,h3,h4,h5⟩:=hcut
  have hc0:=h1.cell0
  have hc1:=h1.cell1
  have hf0:=h1.free 0
  have hx0:=HX0.out _ HA.out
  have hy0:=HY0.out _ HA.out
  clear h1 h2 h3 h4 h5 hz1 hx1 hy1
  have HNB:=Lz (show a.natAbs*b.natAbs≠0->(decide (a<0) != decide (b<0))=decide (a*b<0) from sign_mul a b)
  by_cases hr0:a.natAbs*b.natAbs=0
  . have e2:false=decide (a*b<0):=by have:=HR.out;simp;omega
    have E2:=Lz e2
    have hl0:(dg (a.natAbs*b.natAbs)).length=0:=by rw[hr0,zyv];rfl
    rw[hl0] at hc1
    clear e2 hr0 hl0
    go_wp2_with fail
    go_region
    all_goals
     go_wp2_with fail
     go_end0
     exact⟨rfl,(HA.out.drew _).finish HF.out HHI.out HHP.out HHR.out HR.out E2.out⟩
  . have hl2:=zyw hr0
    have E2:=Lz (HNB.out hr0)
    clear hr0
    generalize (dg (a.natAbs*b.natAbs)).length=len at *
    generalize decide (a<0)=na at *
    generalize decide (b<0)=nb at *
    go_wp2_with fail
    go_region
    all_goals
     go_wp2_with fail
     go_end0
     exact⟨rfl,(HA.out.drew _).finish HF.out HHI.out HHP.out HHR.out HR.out E2.out⟩
end Go.Proofs.YtohhkjamddojmaaGreatDoor.Big
namespace Go.Proofs.YtohhkjamddojmaaGreatDoor.Big
open Go.RowKit
theorem Fam.writes {R:Nat->Prop} {w w':World} {zs:List Nat} {vs vs':List Int} {ps ps':List (Option Addr)} {qs qs':List (List Nat)} (h:Fam R w zs vs ps qs) (I:Nat->Prop)
 (l1:vs'.length=zs.length) (l2:ps'.length=zs.length) (l3:qs'.length=zs.length)
 (hsame:∀ i,¬I i->vs'[i]? = vs[i]? ∧ ps'[i]? = ps[i]? ∧ qs'[i]? = qs[i]?)
 (hR:∀ i z,I i->zs[i]? = some z->¬R z)
 (hg:Grow w w' (λk=>∃ i,I i/\(zs[i]? = some k\/∃ p,ps[i]? = some p/\blk p=some k)))
 (hone:∀ (i z:Nat) (v:Int) (p:Option Addr) (q:List Nat),I i->zs[i]? = some z->vs'[i]? = some v->ps'[i]? = some p->qs'[i]? = some q->One w' z v p q)
 (hfresh:∀ (i:Nat) (p p':Option Addr),I i->ps[i]? = some p->ps'[i]? = some p'->Fresh w p p')
 (hapart:∀ (i j:Nat) (p q:Option Addr) (b:Nat),I i->I j->ps'[i]? = some p->ps'[j]? = some q->blk p=some b->blk q=some b->i=j) :
 Fam R w' zs vs' ps' qs'/\Kept R w w':=by
 have hzlt:∀ j x,zs[j]? = some x->x<w.heap.size:=λj x hj=>by
  obtain⟨_,_,_,_,_,_,o⟩:=h.at hj;exact o.str.lt
 have hplt:∀ (j:Nat) (x:Option Addr) (b:Nat),ps[j]? = some x->blk x=some b->b<w.heap.size:=λj x b hj hb=>by
  have hj2:j<zs.length:=by rw[<-h.lenP];exact(List.getElem?_eq_some_iff.1 hj).1
  obtain⟨_,_,_,_,e,_,o⟩:=h.at (List.getElem?_eq_getElem hj2)
  rw[hj] at e;cases e
  exact o.num.lt b hb
 have hold:∀ (i:Nat) (p':Option Addr),ps'[i]? = some p'->∃ p,ps[i]? = some p:=λi p' hp=>by
  have:i<ps.length:=by rw[h.lenP,<-l2];exact(List.getElem?_eq_some_iff.1 hp).1
  exact⟨_,List.getElem?_eq_getElem this⟩
 -- the new memory of number i is its old memory or newer than w
 have hnew:∀ (i:Nat) (p':Option Addr) (b:Nat),ps'[i]? = some p'->blk p'=some b->(∃ p,ps[i]? = some p/\blk p=some b)\/(I i/\w.heap.size<=b):=λi p' b hp hb=>by
  by_cases hI:I i
  . obtain⟨p,hp0⟩:=hold i p' hp
    rcases hfresh i p p' hI hp0 hp with rfl|hf
    . exact .inl ⟨_,hp0,hb⟩
    . exact .inr ⟨hI,hf b hb⟩
  . rw[(hsame i hI).2.1] at hp
    exact .inl ⟨_,hp,hb⟩
 refine⟨⟨λk hk=>Nat.lt_of_lt_of_le (h.old k hk) hg.size,l1,l2,l3,?_,?_,h.zz,?_,?_⟩,?_⟩
 . intro j x u s t hj hv hs ht
   by_cases hI:I j
   . exact hone j x u s t hI hj hv hs ht
   . obtain⟨e1,e2,e3⟩:=hsame j hI
     rw[e1] at hv;rw[e2] at hs;rw[e3] at ht
     refine(h.one j x u s t hj hv hs ht).grow hg ?_ ?_
     . rintro⟨i,hi,e|⟨p,hp,e⟩⟩
       . exact hI (h.zz j i x hj e ▸ hi)
       . exact h.zp j i x p hj hp e
     . rintro b hb ⟨i,hi,e|⟨p,hp,e⟩⟩
       . exact h.zp i j b s e hs hb
       . exact hI (h.pp j i s p b hs hp hb e ▸ hi)
 . intro j x s hj hs hx b hb
   rcases hnew j s b hs hb with⟨p,hp,e⟩|⟨_,e⟩
   . exact h.own j x p hj hp hx b e
   . intro hr;have:=h.old b hr;omega
 . intro j k s t b hs ht hb hb2
   rcases hnew j s b hs hb with⟨p,hp,e⟩|⟨hI,e⟩
   . rcases hnew k t b ht hb2 with⟨p2,hp2,e2⟩|⟨_,e2⟩
     . exact h.pp j k p p2 b hp hp2 e e2
     . have:=hplt j p b hp e;omega
   . rcases hnew k t b ht hb2 with⟨p2,hp2,e2⟩|⟨hI2,_⟩
     . have:=hplt k p2 b hp2 e2;omega
     . exact hapart j k s t b hI hI2 hs ht hb hb2
 . intro j k x s hj hs hb
   rcases hnew k s x hs hb with⟨p,hp,e⟩|⟨_,e⟩
   . exact h.zp j k x p hj hp e
   . have:=hzlt j x hj;omega
 . refine hg.weaken ?_
   rintro k _ ⟨i,hi,e|⟨p,hp,e⟩⟩
   . exact hR i k hi e
   . have hi2:i<zs.length:=by rw[<-h.lenP];exact(List.getElem?_eq_some_iff.1 hp).1
     have hz:=List.getElem?_eq_getElem hi2
     exact h.own i _ p hz hp (hR i _ hi hz) k e
theorem getElem?_set_cases {α : Type} {l:List α} {i j:Nat} {a x:α} (hx:(l.set i a)[j]? = some x):(j=i/\x=a)\/(j≠i/\l[j]? = some x):=by
 by_cases hj:j=i
 . subst hj
   rw[List.getElem?_set_self'] at hx
   left
   cases hl:l[j]? with
   | none=>rw[hl] at hx;simp at hx
   | some y=>rw[hl] at hx;simp at hx;exact⟨rfl,hx.symm⟩
 . right
   rw[List.getElem?_set_ne (Ne.symm hj)] at hx
   exact⟨hj,hx⟩
theorem Fam.write2 {R:Nat->Prop} {w w':World} {zs:List Nat} {vs:List Int} {ps:List (Option Addr)} {qs:List (List Nat)} (h:Fam R w zs vs ps qs) {i j z r:Nat} {p p2 p' q':Option Addr} {v u:Int} {cs' ds':List Nat}
 (hij:i≠j) (hi:zs[i]? = some z) (hj:zs[j]? = some r) (hp:ps[i]? = some p) (hp2:ps[j]? = some p2) (hR:¬R z) (hR2:¬R r)
 (hg:Grow w w' (λk=>(k=z\/k=r)\/(blk p=some k\/blk p2=some k))) (ho:One w' z v p' cs') (ho2:One w' r u q' ds') (hf:Fresh w p p') (hf2:Fresh w p2 q') (ha:Apart p' q') :
 Fam R w' zs ((vs.set i v).set j u) ((ps.set i p').set j q') ((qs.set i cs').set j ds')/\Kept R w w':=by
 refine h.writes (λk=>k=i\/k=j) (by simp[h.lenV]) (by simp[h.lenP]) (by simp[h.lenQ]) ?_ ?_ ?_ ?_ ?_ ?_
 . intro k hk
   have h1:k≠i:=λe=>hk (.inl e)
   have h2:k≠j:=λe=>hk (.inr e)
   rw[List.getElem?_set_ne (Ne.symm h2),List.getElem?_set_ne (Ne.symm h1),List.getElem?_set_ne (Ne.symm h2),List.getElem?_set_ne (Ne.symm h1),List.getElem?_set_ne (Ne.symm h2),List.getElem?_set_ne (Ne.symm h1)]
   exact⟨rfl,rfl,rfl⟩
 . rintro k x (rfl|rfl) hk
   . rw[hi] at hk;cases hk;exact hR
   . rw[hj] at hk;cases hk;exact hR2
 . refine hg.weaken ?_
   rintro k _ ((rfl|rfl)|(e|e))
   . exact⟨i,.inl rfl,.inl hi⟩
   . exact⟨j,.inr rfl,.inl hj⟩
   . exact⟨i,.inl rfl,.inr ⟨p,hp,e⟩⟩
   . exact⟨j,.inr rfl,.inr ⟨p2,hp2,e⟩⟩
 . rintro k x a s t hk hx hv hs ht
   rcases getElem?_set_cases hv with⟨e,rfl⟩|⟨hne,hv⟩
   . subst e
     rw[hj] at hx;cases hx
     rcases getElem?_set_cases hs with⟨_,rfl⟩|⟨hne,_⟩
     . rcases getElem?_set_cases ht with⟨_,rfl⟩|⟨hne,_⟩
       . exact ho2
       . exact absurd rfl hne
     . exact absurd rfl hne
   . rcases hk with e|e
     . subst e
       rw[hi] at hx;cases hx
       rcases getElem?_set_cases hs with⟨e,_⟩|⟨_,hs⟩
       . exact absurd e hij
       . rcases getElem?_set_cases ht with⟨e,_⟩|⟨_,ht⟩
         . exact absurd e hij
         . rcases getElem?_set_cases hv with⟨_,rfl⟩|⟨hne,_⟩
           . rcases getElem?_set_cases hs with⟨_,rfl⟩|⟨hne,_⟩
             . rcases getElem?_set_cases ht with⟨_,rfl⟩|⟨hne,_⟩
               . exact ho
               . exact absurd rfl hne
             . exact absurd rfl hne
           . exact absurd rfl hne
     . exact absurd e hne
 . rintro k s t hk hs ht
   rcases getElem?_set_cases ht with⟨e,rfl⟩|⟨hne,ht⟩
   . subst e;rw[hp2] at hs;cases hs;exact hf2
   . rcases getElem?_set_cases ht with⟨e,rfl⟩|⟨hne2,ht⟩
     . subst e;rw[hp] at hs;cases hs;exact hf
     . rcases hk with e|e
       . exact absurd e hne2
       . exact absurd e hne
 . rintro k m s t b hk hm hs ht hb hb2
   rcases getElem?_set_cases hs with⟨e1,e2⟩|⟨hne,hs⟩
   . rcases getElem?_set_cases ht with⟨e3,e4⟩|⟨hne2,ht⟩
     . rw[e1,e3]
     . rcases getElem?_set_cases ht with⟨e3,e4⟩|⟨hne3,_⟩
       . subst e2 e4;exact absurd hb (ha b hb2)
       . rcases hm with e|e
         . exact absurd e hne3
         . exact absurd e hne2
   . rcases getElem?_set_cases hs with⟨e1,e2⟩|⟨hne1,_⟩
     . rcases getElem?_set_cases ht with⟨e3,e4⟩|⟨hne2,ht⟩
       . subst e2 e4;exact absurd hb2 (ha b hb)
       . rcases getElem?_set_cases ht with⟨e3,e4⟩|⟨hne3,_⟩
         . rw[e1,e3]
         . rcases hm with e|e
           . exact absurd e hne3
           . exact absurd e hne2
     . rcases hk with e|e
       . exact absurd e hne1
       . exact absurd e hne
end Go.Proofs.YtohhkjamddojmaaGreatDoor.Big
namespace Go.Proofs.YtohhkjamddojmaaGreatDoor.Big
open Go.RowKit
theorem getElem?_snoc {α : Type} {l:List α} {a x:α} {i:Nat} (h:(l ++ [a])[i]? = some x):(i=l.length/\x=a)\/(i<l.length/\l[i]? = some x):=by
 rcases Nat.lt_or_ge i l.length with hi|hi
 . rw[List.getElem?_append_left hi] at h
   exact .inr ⟨hi,h⟩
 . rw[List.getElem?_append_right hi] at h
   have h0:i-l.length=0:=by
    rcases Nat.eq_zero_or_pos (i-l.length) with e|e
    . exact e
    . rw[List.getElem?_eq_none (by simp;omega)] at h;cases h
   rw[h0] at h
   simp at h
   exact .inl ⟨by omega,h.symm⟩
theorem Fam.extend {R:Nat->Prop} {w w':World} {zs:List Nat} {vs:List Int} {ps:List (Option Addr)} {qs:List (List Nat)} (h:Fam R w zs vs ps qs) {z:Nat} {v:Int} {p:Option Addr} {q:List Nat}
 (hg:Grow w w' (λ_=>False)) (ho:One w' z v p q) (hz:w.heap.size<=z) (hp:∀ b,blk p=some b->w.heap.size<=b) (hpz:blk p≠some z) :
 Fam R w' (zs ++ [z]) (vs ++ [v]) (ps ++ [p]) (qs ++ [q])/\Kept R w w'/\¬R z:=by
 have hzlt:∀ j x,zs[j]? = some x->x<w.heap.size:=λj x hj=>by
  obtain⟨_,_,_,_,_,_,o⟩:=h.at hj;exact o.str.lt
 have hplt:∀ (j:Nat) (x:Option Addr) (b:Nat),ps[j]? = some x->blk x=some b->b<w.heap.size:=λj x b hj hb=>by
  have hj2:j<zs.length:=by rw[<-h.lenP];exact(List.getElem?_eq_some_iff.1 hj).1
  obtain⟨_,_,_,_,e,_,o⟩:=h.at (List.getElem?_eq_getElem hj2)
  rw[hj] at e;cases e
  exact o.num.lt b hb
 refine⟨⟨λk hk=>Nat.lt_of_lt_of_le (h.old k hk) hg.size,by simp[h.lenV],by simp[h.lenP],by simp[h.lenQ],?_,?_,?_,?_,?_⟩,hg.weaken (λ_ _ e=>e.elim),λe=>by have:=h.old z e;omega⟩
 . intro j x u s t hj hv hs ht
   rcases getElem?_snoc hj with⟨e1,e2⟩|⟨e1,hj⟩
   . rcases getElem?_snoc hv with⟨_,rfl⟩|⟨e,_⟩
     . rcases getElem?_snoc hs with⟨_,rfl⟩|⟨e,_⟩
       . rcases getElem?_snoc ht with⟨_,rfl⟩|⟨e,_⟩
         . subst e2;exact ho
         . rw[h.lenQ] at e;omega
       . rw[h.lenP] at e;omega
     . rw[h.lenV] at e;omega
   . rcases getElem?_snoc hv with⟨e,_⟩|⟨_,hv⟩
     . rw[h.lenV] at e;omega
     . rcases getElem?_snoc hs with⟨e,_⟩|⟨_,hs⟩
       . rw[h.lenP] at e;omega
       . rcases getElem?_snoc ht with⟨e,_⟩|⟨_,ht⟩
         . rw[h.lenQ] at e;omega
         . exact(h.one j x u s t hj hv hs ht).grow hg id (λ_ _=>id)
 . intro j x s hj hs hx b hb
   rcases getElem?_snoc hs with⟨_,rfl⟩|⟨e1,hs⟩
   . intro hr;have:=h.old b hr;have:=hp b hb;omega
   . rcases getElem?_snoc hj with⟨e,_⟩|⟨_,hj⟩
     . rw[h.lenP] at e1;omega
     . exact h.own j x s hj hs hx b hb
 . intro j k x hj hk
   rcases getElem?_snoc hj with⟨e1,e⟩|⟨_,hj2⟩
   . rcases getElem?_snoc hk with⟨e2,_⟩|⟨_,hk2⟩
     . omega
     . have:=hzlt k _ hk2;omega
   . rcases getElem?_snoc hk with⟨_,e⟩|⟨_,hk2⟩
     . have:=hzlt j _ hj2;omega
     . exact h.zz j k x hj2 hk2
 . intro j k s t b hs ht hb hb2
   rcases getElem?_snoc hs with⟨e1,e⟩|⟨_,hs2⟩
   . rcases getElem?_snoc ht with⟨e2,_⟩|⟨_,ht2⟩
     . omega
     . have:=hplt k t b ht2 hb2;have:=hp b (e ▸ hb);omega
   . rcases getElem?_snoc ht with⟨_,e⟩|⟨_,ht2⟩
     . have:=hplt j s b hs2 hb;have:=hp b (e ▸ hb2);omega
     . exact h.pp j k s t b hs2 ht2 hb hb2
 . intro j k x s hj hs hb
   rcases getElem?_snoc hj with⟨_,e⟩|⟨_,hj2⟩
   . rcases getElem?_snoc hs with⟨_,e2⟩|⟨_,hs2⟩
     . rw[e,e2] at hb;exact hpz hb
     . have:=hplt k s x hs2 hb;omega
   . rcases getElem?_snoc hs with⟨_,e2⟩|⟨_,hs2⟩
     . have:=hp x (e2 ▸ hb);have:=hzlt j x hj2;omega
     . exact h.zp j k x s hj2 hs2 hb
def NewP (R:Nat->Prop) (zs:List Nat) (vs:List Int) (a:Int) (w:World) (e:Ending) (w':World):Prop:=
 ∃ z,e=.returned (ptr z)/\Ints R w' (zs ++ [z]) (vs ++ [a])/\Kept R w w'/\¬R z/\w.heap.size<=z
theorem grow_alloc (w:World) (o:Obj):Grow w (w.alloc o) (λ_=>False):=Grow.none (zzy w o .none) _
theorem one_zero (w:World):One (w.alloc (.cells #[.bool false,.slice .none 0 0] 172)) w.heap.size 0 .none []:=
 ⟨by unfold StrB;rw[Int.natAbs_zero,zyv];exact heap_alloc_new _ _,⟨Buf.nil _,by rw[Int.natAbs_zero,zyv];rfl,by rw[Int.natAbs_zero,zyv];exact Nat.le_refl _⟩⟩
theorem one_word (w:World) (n:Nat) (h0:n≠0) (h:n<B64):One ((w.alloc (.cells (wds [n]) 199)).alloc (.cells #[.bool false,.slice (some ⟨w.heap.size,0,.none⟩) 1 1] 172)) (w.heap.size+1) (n:Int) (some ⟨w.heap.size,0,.none⟩) [n]:=by
 have e:dg (n:Int).natAbs = [n]:=by rw[Int.natAbs_natCast,dg_one h];simp[word1,h0]
 have hs:(w.alloc (.cells (wds [n]) 199)).heap.size=w.heap.size+1:=Array.size_push _
 refine⟨?_,⟨.inr ⟨_,rfl,?_⟩,Words.one h,by simp⟩,by rw[e];rfl,by rw[e];exact Nat.le_refl _⟩
 . unfold StrB
   rw[e]
   have hd:decide ((n:Int)<0)=false:=by simp
   rw[hd,<-hs]
   exact heap_alloc_new _ _
 . exact NatB.kept (row:=.none) (heap_alloc_new w _) (zzy _ _ _) (by simp)
theorem newInt (R:Nat->Prop) (w:World) (zs:List Nat) (vs:List Int) (h:Ints R w zs vs) (n:Nat) (hn:n<9223372036854775808) :
 Calls Tryz.prog 119 #[.int .i64 n] w (NewP R zs vs n w):=by
 obtain⟨ps,qs,h⟩:=h
 by_cases h0:n=0
 . subst h0
   have K:NewP R zs vs (0:Nat) w (.returned (ptr w.heap.size)) (w.alloc (.cells #[.bool false,.slice .none 0 0] 172)):=by
    obtain⟨h1,h2,h3⟩:=h.extend (grow_alloc w _) (one_zero w) (Nat.le_refl _) (λb hb=>by cases hb) (by simp[blk])
    exact⟨_,rfl,⟨_,_,h1⟩,h2,h3,Nat.le_refl _⟩
   have HK:=Lz K
   clear h K hn
   go_enter Tryz.func119,Tryz.ntmps119
   go_wp2_with fail
   go_ret
   exact HK.out
 . have K:NewP R zs vs n w (.returned (ptr (w.heap.size+1))) ((w.alloc (.cells (wds [n]) 199)).alloc (.cells #[.bool false,.slice (some ⟨w.heap.size,0,.none⟩) 1 1] 172)):=by
    obtain⟨h1,h2,h3⟩:=h.extend ((grow_alloc w _).trans (grow_alloc _ _)) (one_word w n h0 (by unfold B64;omega)) (by omega) (λb hb=>by cases hb;exact Nat.le_refl _) (by simp[blk])
    exact⟨_,rfl,⟨_,_,h1⟩,h2,h3,by omega⟩
   have HK:=Lz K
   have hz:((n:Int)==0)=false:=by rw[beq_eq_false_iff_ne];omega
   have hlt:¬(n:Int)<0:=by omega
   have hw:IntKind.u64.wrap (n:Int)=(n:Int):=IntWalk.u64_in _ (by omega)
   clear h K hn h0
   go_enter Tryz.func119,Tryz.ntmps119
   go_wp2_with fail
   go_ret
   exact HK.out
end Go.Proofs.YtohhkjamddojmaaGreatDoor.Big
namespace Go.Proofs.YtohhkjamddojmaaGreatDoor.Big
open Go.RowKit
theorem take_get {α : Type} {l:List α} {n i:Nat} {x:α} (h:(l.take n)[i]? = some x):l[i]? = some x:=by
 rw[List.getElem?_take] at h
 split at h
 . exact h
 . cases h
theorem Fam.take {R:Nat->Prop} {w:World} {zs:List Nat} {vs:List Int} {ps:List (Option Addr)} {qs:List (List Nat)} (h:Fam R w zs vs ps qs) (n:Nat):Fam R w (zs.take n) (vs.take n) (ps.take n) (qs.take n):=
 ⟨h.old,by simp[h.lenV],by simp[h.lenP],by simp[h.lenQ],λi z v p q h1 h2 h3 h4=>h.one i z v p q (take_get h1) (take_get h2) (take_get h3) (take_get h4),λi z p h1 h2=>h.own i z p (take_get h1) (take_get h2),
  λi j z h1 h2=>h.zz i j z (take_get h1) (take_get h2),λi j p q b h1 h2=>h.pp i j p q b (take_get h1) (take_get h2),λi j z p h1 h2=>h.zp i j z p (take_get h1) (take_get h2)⟩
theorem Ints.take {R:Nat->Prop} {w:World} {zs:List Nat} {vs:List Int} (h:Ints R w zs vs) (n:Nat):Ints R w (zs.take n) (vs.take n):=by
 obtain⟨ps,qs,h⟩:=h
 exact⟨_,_,h.take n⟩
end Go.Proofs.YtohhkjamddojmaaGreatDoor.Big
namespace Go.Proofs.YtohhkjamddojmaaGreatDoor.Big
open Go.RowKit
theorem Fam.sel {R:Nat->Prop} {w:World} {zs zs':List Nat} {vs vs':List Int} {ps ps':List (Option Addr)} {qs qs':List (List Nat)} (h:Fam R w zs vs ps qs) (f:Nat->Nat)
 (l1:vs'.length=zs'.length) (l2:ps'.length=zs'.length) (l3:qs'.length=zs'.length) (inj:∀ i j,i<zs'.length->j<zs'.length->f i=f j->i=j)
 (e0:∀ i,i<zs'.length->zs'[i]? = zs[f i]?) (e1:∀ i,i<zs'.length->vs'[i]? = vs[f i]?) (e2:∀ i,i<zs'.length->ps'[i]? = ps[f i]?) (e3:∀ i,i<zs'.length->qs'[i]? = qs[f i]?) :
 Fam R w zs' vs' ps' qs':=by
 have lz:∀ {i z},zs'[i]? = some z->i<zs'.length:=λh=>(List.getElem?_eq_some_iff.1 h).1
 have lp:∀ {i p},ps'[i]? = some p->i<zs'.length:=λh=>l2 ▸ (List.getElem?_eq_some_iff.1 h).1
 refine⟨h.old,l1,l2,l3,?_,?_,?_,?_,?_⟩
 . intro i z v p q h1 h2 h3 h4
   have hl:=lz h1
   exact h.one (f i) z v p q (e0 i hl ▸ h1) (e1 i hl ▸ h2) (e2 i hl ▸ h3) (e3 i hl ▸ h4)
 . intro i z p h1 h2
   have hl:=lz h1
   exact h.own (f i) z p (e0 i hl ▸ h1) (e2 i hl ▸ h2)
 . intro i j z h1 h2
   exact inj i j (lz h1) (lz h2) (h.zz (f i) (f j) z (e0 i (lz h1) ▸ h1) (e0 j (lz h2) ▸ h2))
 . intro i j p q b h1 h2 hb hb2
   exact inj i j (lp h1) (lp h2) (h.pp (f i) (f j) p q b (e2 i (lp h1) ▸ h1) (e2 j (lp h2) ▸ h2) hb hb2)
 . intro i j z p h1 h2
   exact h.zp (f i) (f j) z p (e0 i (lz h1) ▸ h1) (e2 j (lp h2) ▸ h2)
def pick {α : Type} (l:List α) (is:List Nat):List α:=is.filterMap (l[·]?)
theorem pick_spec {α : Type} (l:List α):∀ (is:List Nat),(∀ i∈is,i<l.length)->(pick l is).length=is.length/\∀ k,k<is.length->(pick l is)[k]? = l[is.getD k 0]?
 | [],_=>⟨rfl,λk hk=>absurd hk (Nat.not_lt_zero k)⟩
 | i :: is,h=>by
  obtain⟨h1,h2⟩:=pick_spec l is (λj hj=>h j (List.mem_cons_of_mem _ hj))
  have hi:=h i List.mem_cons_self
  have e:pick l (i :: is)=l[i] :: pick l is:=by
   unfold pick
   rw[List.filterMap_cons,List.getElem?_eq_getElem hi]
  rw[e]
  refine⟨by simp[h1],λk hk=>?_⟩
  cases k with
  | zero=>simp
  | succ k=>simpa using h2 k (by simpa using hk)
theorem nodup_getD {is:List Nat} (h:is.Nodup):∀ i j,i<is.length->j<is.length->is.getD i 0=is.getD j 0->i=j:=by
 intro i j hi hj e
 rw[List.getD_eq_getElem?_getD,List.getD_eq_getElem?_getD,List.getElem?_eq_getElem hi,List.getElem?_eq_getElem hj] at e
 exact(List.getElem_inj h).1 (by simpa using e)
theorem Ints.pick {R:Nat->Prop} {w:World} {zs:List Nat} {vs:List Int} (h:Ints R w zs vs) (is:List Nat) (hnd:is.Nodup) (hlt:∀ i∈is,i<zs.length):Ints R w (pick zs is) (pick vs is):=by
 obtain⟨ps,qs,h⟩:=h
 obtain⟨a1,a2⟩:=pick_spec zs is hlt
 obtain⟨b1,b2⟩:=pick_spec vs is (by rw[h.lenV];exact hlt)
 obtain⟨c1,c2⟩:=pick_spec ps is (by rw[h.lenP];exact hlt)
 obtain⟨d1,d2⟩:=pick_spec qs is (by rw[h.lenQ];exact hlt)
 exact⟨_,_,h.sel (is.getD · 0) (by rw[b1,a1]) (by rw[c1,a1]) (by rw[d1,a1]) (by rw[a1];exact nodup_getD hnd) (by rw[a1];exact a2) (by rw[a1];exact b2) (by rw[a1];exact c2) (by rw[a1];exact d2)⟩
theorem snoc_front {α : Type} (l:List α) (a:α):∀ i,i<l.length+1->(a :: l)[i]? = (l ++ [a])[if i=0 then l.length else i-1]?:=by
 intro i hi
 cases i with
 | zero=>simp
 | succ i=>simp only[List.getElem?_cons_succ,Nat.add_one_ne_zero,if_false,Nat.add_sub_cancel];rw[List.getElem?_append_left (by omega)]
theorem Ints.front {R:Nat->Prop} {w:World} {zs:List Nat} {vs:List Int} {z:Nat} {v:Int} (h:Ints R w (zs ++ [z]) (vs ++ [v])):Ints R w (z :: zs) (v :: vs):=by
 obtain⟨ps,qs,h⟩:=h
 have lv:vs.length=zs.length:=by have:=h.lenV;simpa using this
 have lp:=h.lenP
 have lq:=h.lenQ
 rw[List.length_append,List.length_singleton] at lp lq
 have split:∀ {α : Type} (l:List α),l.length=zs.length+1->∃ (a:α) (m:List α),l=m ++ [a]/\m.length=zs.length:=by
  intro α l hl
  have hne:l≠[]:=by intro e;rw[e] at hl;simp at hl
  exact⟨l.getLast hne,l.dropLast,(List.dropLast_concat_getLast hne).symm,by simp[hl]⟩
 obtain⟨p,ps',rfl,lp'⟩:=split ps lp
 obtain⟨q,qs',rfl,lq'⟩:=split qs lq
 refine⟨p :: ps',q :: qs',h.sel (λi=>if i=0 then zs.length else i-1) (by simp[lv]) (by simp[lp']) (by simp[lq']) ?_ ?_ ?_ ?_ ?_⟩
 . intro i j hi hj e
   simp only[List.length_cons] at hi hj
   split at e <;> split at e <;> omega
 . intro i hi;exact snoc_front zs z i (by simpa using hi)
 . intro i hi;rw[snoc_front vs v i (by rw[lv];simpa using hi),lv]
 . intro i hi;rw[snoc_front ps' p i (by rw[lp'];simpa using hi),lp']
 . intro i hi;rw[snoc_front qs' q i (by rw[lq'];simpa using hi),lq']
theorem Ints.tail {R:Nat->Prop} {w:World} {zs:List Nat} {vs:List Int} {z:Nat} {v:Int} (h:Ints R w (z :: zs) (v :: vs)):Ints R w zs vs:=by
 obtain⟨ps,qs,h⟩:=h
 have lv:=h.lenV
 have lp:=h.lenP
 have lq:=h.lenQ
 simp only[List.length_cons] at lv lp lq
 cases ps with
 | nil=>simp at lp
 | cons p ps=>
  cases qs with
  | nil=>simp at lq
  | cons q qs=>
   simp only[List.length_cons] at lp lq
   exact⟨ps,qs,h.sel (· + 1) (by omega) (by omega) (by omega) (by intros;omega) (by intros;simp) (by intros;simp) (by intros;simp) (by intros;simp)⟩
theorem Ints.len {R:Nat->Prop} {w:World} {zs:List Nat} {vs:List Int} (h:Ints R w zs vs):vs.length=zs.length:=by
 obtain⟨ps,qs,h⟩:=h;exact h.lenV
/-! ### sizes -/
def Sz (n:Nat) (a:Int):Prop:=a.natAbs<2^n
theorem Sz.le {m n:Nat} {a:Int} (h:Sz m a) (hmn:m<=n):Sz n a:=Nat.lt_of_lt_of_le h (Nat.pow_le_pow_right (by decide) hmn)
theorem Sz.mul {m n:Nat} {a b:Int} (ha:Sz m a) (hb:Sz n b):Sz (m+n) (a*b):=by
 unfold Sz at *
 rw[Int.natAbs_mul,Nat.pow_add]
 exact Nat.mul_lt_mul'' ha hb
theorem Sz.add {n:Nat} {a b:Int} (ha:Sz n a) (hb:Sz n b):Sz (n+1) (a+b):=by
 unfold Sz at *
 rw[Nat.pow_succ]
 have:=Int.natAbs_add_le a b
 omega
theorem Sz.sub {n:Nat} {a b:Int} (ha:Sz n a) (hb:Sz n b):Sz (n+1) (a-b):=by
 unfold Sz at *
 rw[Nat.pow_succ]
 have:=Int.natAbs_sub_le a b
 omega
theorem Sz.emod {n:Nat} {b:Int} (a:Int) (hb0:b≠0) (hb:Sz n b):Sz n (a%b):=by
 unfold Sz at *
 have h1:=Int.emod_nonneg a hb0
 have h2:a%b<b.natAbs:=Int.emod_lt a hb0
 omega
theorem Sz.words {k:Nat} {a:Int} (h:Sz (64*k) a):(dg a.natAbs).length<=k:=by
 refine dg_length.2 ?_
 unfold Sz at h
 rwa [Nat.pow_mul] at h
end Go.Proofs.YtohhkjamddojmaaGreatDoor.Big
