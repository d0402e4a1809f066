/- Ints as sign and words: zero may have a sign; sums of them; a product by a word. Sums of raw Ints of different signs. Sums of raw Ints; a raw Int times a word. What a function owns, raw; words written in place; comparing. Lehmer's algorithm, at numbers of one word. The inverse modulo a number of one word. Four memories of words that are written in turn. The bits of an exponent, from the highest one on: plain laws. -/
import Derived.Test.YtohhkjamddojmaaGreatDoorIJ
import Derived.Test.YtohhkjamddojmaaGreatDoorGcdLaw
set_option maxRecDepth 100000
set_option maxHeartbeats 16000000
namespace Go.Proofs.YtohhkjamddojmaaGreatDoor.Big
open Go.RowKit
structure OneR (w:World) (z:Nat) (v:Bool×Nat) (p:Option Addr) (ds:List Nat):Prop where
 str:StrB w z (v.1) p (dg v.2).length ds.length
 num:Num w p (dg v.2) ds
theorem OneR.grow {w w':World} {z:Nat} {v:Bool×Nat} {p:Option Addr} {ds:List Nat} {S:Nat->Prop} (h:OneR w z v p ds) (hg:Grow w w' S) (hz:¬S z) (hp:∀ b,blk p=some b->¬S b):OneR w' z v p ds:=⟨h.str.grow hg hz,h.num.grow hg hp⟩
structure FamR (R:Nat->Prop) (w:World) (zs:List Nat) (vs:List (Bool×Nat)) (ps:List (Option Addr)) (qs:List (List Nat)):Prop where
 old:∀ k,R k->k<w.heap.size
 lenV:vs.length=zs.length
 lenP:ps.length=zs.length
 lenQ:qs.length=zs.length
 one:∀ (i z:Nat) (v:Bool×Nat) (p:Option Addr) (q:List Nat),zs[i]? = some z->vs[i]? = some v->ps[i]? = some p->qs[i]? = some q->OneR w z v p q
 own:∀ (i z:Nat) (p:Option Addr),zs[i]? = some z->ps[i]? = some p->¬R z->∀ b,blk p=some b->¬R b
 zz:∀ (i j z:Nat),zs[i]? = some z->zs[j]? = some z->i=j
 pp:∀ (i j:Nat) (p q:Option Addr) (b:Nat),ps[i]? = some p->ps[j]? = some q->blk p=some b->blk q=some b->i=j
 zp:∀ (i j z:Nat) (p:Option Addr),zs[i]? = some z->ps[j]? = some p->blk p≠some z
def IntsR (R:Nat->Prop) (w:World) (zs:List Nat) (vs:List (Bool×Nat)):Prop:=∃ ps qs,FamR R w zs vs ps qs
theorem FamR.at {R:Nat->Prop} {w:World} {zs:List Nat} {vs:List (Bool×Nat)} {ps:List (Option Addr)} {qs:List (List Nat)} (h:FamR R w zs vs ps qs) {i z:Nat} (hi:zs[i]? = some z):∃ v p q,vs[i]? = some v/\ps[i]? = some p/\qs[i]? = some q/\OneR w z v p q:=by
 have hlt:i<zs.length:=(List.getElem?_eq_some_iff.1 hi).1
 have e1:vs[i]? = some (vs[i]'(by rw[h.lenV];exact hlt)):=List.getElem?_eq_getElem _
 have e2:ps[i]? = some (ps[i]'(by rw[h.lenP];exact hlt)):=List.getElem?_eq_getElem _
 have e3:qs[i]? = some (qs[i]'(by rw[h.lenQ];exact hlt)):=List.getElem?_eq_getElem _
 exact⟨_,_,_,e1,e2,e3,h.one i z _ _ _ hi e1 e2 e3⟩
theorem FamR.write {R:Nat->Prop} {w w':World} {zs:List Nat} {vs:List (Bool×Nat)} {ps:List (Option Addr)} {qs:List (List Nat)} (h:FamR R w zs vs ps qs) {i z:Nat} {p p':Option Addr} {v:Bool×Nat} {q':List Nat}
 (hi:zs[i]? = some z) (hp:ps[i]? = some p) (hR:¬R z) (hg:Grow w w' (λk=>k=z\/blk p=some k)) (ho:OneR w' z v p' q') (hf:Fresh w p p') :
 FamR R w' zs (vs.set i v) (ps.set i p') (qs.set i q')/\Kept R w w':=by
 have hlt:i<zs.length:=(List.getElem?_eq_some_iff.1 hi).1
 have hpl:∀ b,blk p'=some b->b<w'.heap.size:=ho.num.lt
 have hzlt:∀ j x,zs[j]? = some x->x<w.heap.size:=λj x hj=>by
  obtain⟨_,_,_,_,_,_,o⟩:=h.at hj;exact o.str.lt
 have hplt:∀ j x b,ps[j]? = some x->blk x=some b->b<w.heap.size:=λj x b hj hb=>by
  have hj2:j<zs.length:=by rw[<-h.lenP];exact(List.getElem?_eq_some_iff.1 hj).1
  obtain⟨_,_,_,_,e,_,o⟩:=h.at (List.getElem?_eq_getElem hj2)
  rw[hj] at e;cases e
  exact o.num.lt b hb
 have hset:∀ {α : Type} (l:List α) (j:Nat) (a x:α),(l.set i a)[j]? = some x->(j=i/\x=a)\/(j≠i/\l[j]? = some x):=by
  intro α l j a x hx
  by_cases hj:j=i
  . subst hj
    rw[List.getElem?_set_self' ] at hx
    left
    cases hl:l[j]? with
    | none=>rw[hl] at hx;simp at hx
    | some y=>rw[hl] at hx;simp at hx;exact⟨rfl,hx.symm⟩
  . right
    rw[List.getElem?_set_ne (Ne.symm hj)] at hx
    exact⟨hj,hx⟩
 -- the new memory is no other Int's
 have hnew:∀ b,blk p'=some b->blk p=some b\/w.heap.size<=b:=λb hb=>by
  rcases hf with rfl|hf
  . exact .inl hb
  . exact .inr (hf b hb)
 refine⟨⟨λk hk=>Nat.lt_of_lt_of_le (h.old k hk) hg.size,by simp[h.lenV],by simp[h.lenP],by simp[h.lenQ],?_,?_,h.zz,?_,?_⟩,?_⟩
 . intro j x u s t hj hv hs ht
   rcases hset _ _ _ _ hv with⟨rfl,rfl⟩|⟨hne,hv⟩
   . rcases hset _ _ _ _ hs with⟨_,rfl⟩|⟨hne,_⟩
     . rcases hset _ _ _ _ ht with⟨_,rfl⟩|⟨hne,_⟩
       . rw[hi] at hj;cases hj;exact ho
       . exact absurd rfl hne
     . exact absurd rfl hne
   . rcases hset _ _ _ _ hs with⟨e,_⟩|⟨_,hs⟩
     . exact absurd e hne
     . rcases hset _ _ _ _ ht with⟨e,_⟩|⟨_,ht⟩
       . exact absurd e hne
       . refine(h.one j x u s t hj hv hs ht).grow hg ?_ ?_
         . rintro(rfl|e)
           . exact hne (h.zz j i x hj hi)
           . exact h.zp j i x p hj hp e
         . rintro b hb (rfl|e)
           . exact h.zp i j _ s hi hs hb
           . exact hne (h.pp j i s p b hs hp hb e)
 . intro j x s hj hs hx b hb
   rcases hset _ _ _ _ hs with⟨rfl,rfl⟩|⟨hne,hs⟩
   . rcases hnew b hb with e|e
     . exact h.own j x p hj hp hx b e
     . intro hr;have:=h.old b hr;omega
   . exact h.own j x s hj hs hx b hb
 . intro j k s t b hs ht hb hb2
   rcases hset _ _ _ _ hs with⟨e1,e2⟩|⟨hne,hs2⟩
   . rcases hset _ _ _ _ ht with⟨e3,e4⟩|⟨hne,ht2⟩
     . rw[e1,e3]
     . subst e1 e2
       rcases hnew b hb with e|e
       . exact h.pp j k p t b hp ht2 e hb2
       . have:=hplt k t b ht2 hb2;omega
   . rcases hset _ _ _ _ ht with⟨e3,e4⟩|⟨hne2,ht2⟩
     . subst e3 e4
       rcases hnew b hb2 with e|e
       . exact h.pp j k s p b hs2 hp hb e
       . have:=hplt j s b hs2 hb;omega
     . exact h.pp j k s t b hs2 ht2 hb hb2
 . intro j k x s hj hs hb
   rcases hset _ _ _ _ hs with⟨rfl,rfl⟩|⟨hne,hs⟩
   . rcases hnew x hb with e|e
     . exact h.zp j k x p hj hp e
     . have:=hzlt j x hj;omega
   . exact h.zp j k x s hj hs hb
 . refine hg.weaken ?_
   rintro k _ (rfl|e)
   . exact hR
   . exact h.own i z p hi hp hR k e
def toR (v:Int):Bool×Nat:=(decide (v<0),v.natAbs)
def ofR (a:Bool×Nat):Int:=if a.1 then -(a.2:Int) else a.2
theorem oneR_iff {w:World} {z:Nat} {v:Int} {p:Option Addr} {q:List Nat}:OneR w z (toR v) p q↔One w z v p q:=⟨λh=>⟨h.str,h.num⟩,λh=>⟨h.str,h.num⟩⟩
theorem map_at {α β : Type} {f:α → β} {l:List α} {i:Nat} {b:β} (h:(l.map f)[i]? = some b):∃ a,l[i]? = some a/\f a=b:=by
 rw[List.getElem?_map] at h
 exact Option.map_eq_some_iff.1 h
theorem Fam.raw {R:Nat->Prop} {w:World} {zs:List Nat} {vs:List Int} {ps:List (Option Addr)} {qs:List (List Nat)} (h:Fam R w zs vs ps qs):FamR R w zs (vs.map toR) ps qs:=
 ⟨h.old,by simp[h.lenV],h.lenP,h.lenQ,λi z v p q h1 h2 h3 h4=>by
  obtain⟨a,ha,rfl⟩:=map_at h2
  exact oneR_iff.2 (h.one i z a p q h1 ha h3 h4),h.own,h.zz,h.pp,h.zp⟩
theorem FamR.int {R:Nat->Prop} {w:World} {zs:List Nat} {vs:List Int} {ps:List (Option Addr)} {qs:List (List Nat)} (h:FamR R w zs (vs.map toR) ps qs):Fam R w zs vs ps qs:=
 ⟨h.old,by have:=h.lenV;simpa using this,h.lenP,h.lenQ,λi z v p q h1 h2 h3 h4=>oneR_iff.1 (h.one i z (toR v) p q h1 (by rw[List.getElem?_map,h2];rfl) h3 h4),h.own,h.zz,h.pp,h.zp⟩
theorem Ints.raw {R:Nat->Prop} {w:World} {zs:List Nat} {vs:List Int} (h:Ints R w zs vs):IntsR R w zs (vs.map toR):=by
 obtain⟨ps,qs,h⟩:=h;exact⟨ps,qs,h.raw⟩
theorem IntsR.int {R:Nat->Prop} {w:World} {zs:List Nat} {vs:List Int} (h:IntsR R w zs (vs.map toR)):Ints R w zs vs:=by
 obtain⟨ps,qs,h⟩:=h;exact⟨ps,qs,h.int⟩
theorem zxy.finishR {R:Nat->Prop} {w wx:World} {zs:List Nat} {vs:List (Bool×Nat)} {ps:List (Option Addr)} {qs:List (List Nat)} (h:FamR R w zs vs ps qs) {i z:Nat} {p:Option Addr} {nz b:Bool} {r:Nat} {v:Bool×Nat}
 (hi:zs[i]? = some z) (hp:ps[i]? = some p) (hR:¬R z) (ha:zxy w z p nz r wx) (hv:v.2=r) (hb:b=v.1):IntsR R (wx.setCell ⟨z,0,.none⟩ (.bool b)) zs (vs.set i v)/\Kept R w (wx.setCell ⟨z,0,.none⟩ (.bool b)):=by
 obtain⟨p',q',h1,h2,h3,h4,h5⟩:=ha
 have hset:Grow wx (wx.setCell ⟨z,0,.none⟩ (.bool b)) (λk=>k=z):=(Grow.of (zzw wx z 0 _)).weaken (λk _ e=>by cases e;rfl)
 have ho:OneR (wx.setCell ⟨z,0,.none⟩ (.bool b)) z v p' q':=by
  subst hv hb
  exact⟨h1.set0 _,h2.grow hset (λb hb e=>h5 (e ▸ hb))⟩
 obtain⟨hF,hK⟩:=h.write hi hp hR (h3.trans (hset.weaken (λ_ _ e=>.inl e))) ho h4
 exact⟨⟨_,_,hF⟩,hK⟩
def RawP (R:Nat->Prop) (zs:List Nat) (vs:List (Bool×Nat)) (r:Value) (w:World) (e:Ending) (w':World):Prop:=e=.returned r/\IntsR R w' zs vs/\Kept R w w'
theorem rawAdd_same (R:Nat->Prop) (w:World) (zs:List Nat) (vs:List (Bool×Nat)) (ps:List (Option Addr)) (qs:List (List Nat)) (h:FamR R w zs vs ps qs) (i j k z x y:Nat) (na:Bool) (ma mb:Nat) (hi:zs[i]? = some z) (hj:zs[j]? = some x) (hk:zs[k]? = some y) (hR:¬R z)
 (ha:vs[j]? = some (na,ma)) (hb:vs[k]? = some (na,mb)) (hla:(dg ma).length<=80000) (hlb:(dg mb).length<=80000) :
 Calls Tryz.prog 130 #[ptr z,ptr x,ptr y] w (RawP R zs (vs.set i (toR (ofR (na,ma)+ofR (na,mb)))) (ptr z) w):=by
 obtain⟨v,p,q,hv,hp,hq,oz⟩:=h.at hi
 obtain⟨a',px,dx,ha',hpx,hqx,ox⟩:=h.at hj
 obtain⟨b',py,dy,hb',hpy,hqy,oy⟩:=h.at hk
 obtain rfl:(na,ma)=a':=by rw[ha] at ha';exact Option.some.inj ha'
 obtain rfl:(na,mb)=b':=by rw[hb] at hb';exact Option.some.inj hb'
 have hpz:blk p≠some z:=h.zp i i z p hi hp
 have HOP:=Lz λn=>nat_add p px py (dg v.2).length ma mb q dx dy (w.drewN n) (oz.num.buf.kept (zzz _ _ .none) (λ_ _=>by simp)) (ox.num.kept (zzz _ _ .none) (λ_ _=>by simp)) (oy.num.kept (zzz _ _ .none) (λ_ _=>by simp)) hla hlb
 have hz1:=oz.str.cell1
 have hx0:=ox.str.cell0
 have hx1:=ox.str.cell1
 have hy0:=oy.str.cell0
 have hy1:=oy.str.cell1
 simp only at hx0 hx1 hy0 hy1
 have hbb:(na==na)=true:=by cases na <;> rfl
 have HF:=Lz h
 have HSZ:=Lz oz.str
 have HPZ:=Lz hpz
 have HHI:=Lz hi
 have HHP:=Lz hp
 have HHR:=Lz hR
 obtain⟨V,hV⟩:∃ V,V=toR (ofR (na,ma)+ofR (na,mb)):=⟨_,rfl⟩
 rw[<-hV]
 have HR:=Lz (show V.2=ma+mb by rw[hV];unfold toR ofR;cases na <;> simp <;> omega)
 have HZ:=Lz (show ma+mb=0->false=V.1 by intro h0;rw[hV];unfold toR ofR;cases na <;> simp <;> omega)
 have HNB:=Lz (show ma+mb≠0->(na)=V.1 by intro h0;rw[hV];unfold toR ofR;cases na <;> simp <;> omega)
 clear h hi hj hk hR ha hb ha' hb' hv hp hq hpx hqx hpy hqy oz ox oy hpz hla hV hlb
 unfold ptr
 go_enter Tryz.func130,Tryz.ntmps130
 go_wp2_with fail
 go_quiet (fail)
 go_wp2_with fail
 go_cut [] from 21 (λwx=>zxy w z p v.1 (ma+mb) wx)
 case first=>
  go_region_with (go_at_call 160;refine(HOP.out _).mono ?_;rintro e w1 ⟨p',q',rfl,hn,hg,hf⟩;have hsz:=HSZ.out.grow ((Grow.none (zzz w _ .none) _).trans (Grow.of hg)) HPZ.out;have hc1:=hsz.cell1;have hf1:=hsz.free 1;have HN:=Lz hn;have HG:=Lz hg;have HFr:=Lz hf;clear hn hg hf hsz)
  all_goals
   go_wp2_with fail
   go_meet
   case rel=>exact zxy.of HSZ.out HPZ.out (zzz _ _ _) HN.out HG.out HFr.out
 case rest=>
  have HA:=Lz hcut
  obtain⟨p',q',h1,h2,h3,h4,h5⟩:=hcut
  have hc0:=h1.cell0
  have hc1:=h1.cell1
  have hf0:=h1.free 0
  clear h1 h2 h3 h4 h5 hz1 hx0 hx1 hy0 hy1 hbb
  have HL:=Lz (λh0=>zyw h0:ma+mb≠0->0<(dg (ma+mb)).length)
  generalize (na)=nb at *
  by_cases hr0:ma+mb=0
  . have E2:=Lz (HZ.out hr0)
    have hl0:(dg (ma+mb)).length=0:=by rw[hr0,zyv];rfl
    rw[hl0] at hc1
    clear hr0 hl0
    go_wp2_with fail
    go_ret
    exact⟨rfl,HA.out.finishR HF.out HHI.out HHP.out HHR.out HR.out E2.out⟩
  . have hl2:(0:Int)<((dg (ma+mb)).length:Int):=by have:=HL.out hr0;omega
    have E2:=Lz (HNB.out hr0)
    clear hr0
    generalize (dg (ma+mb)).length=len at *
    go_wp2_with fail
    go_ret
    exact⟨rfl,HA.out.finishR HF.out HHI.out HHP.out HHR.out HR.out E2.out⟩
end Go.Proofs.YtohhkjamddojmaaGreatDoor.Big
namespace Go.Proofs.YtohhkjamddojmaaGreatDoor.Big
open Go.RowKit
theorem rawAdd_ge (R:Nat->Prop) (w:World) (zs:List Nat) (vs:List (Bool×Nat)) (ps:List (Option Addr)) (qs:List (List Nat)) (h:FamR R w zs vs ps qs) (i j k z x y:Nat) (na:Bool) (ma mb:Nat) (hi:zs[i]? = some z) (hj:zs[j]? = some x) (hk:zs[k]? = some y) (hR:¬R z)
 (ha:vs[j]? = some (na,ma)) (hb:vs[k]? = some (!na,mb)) (hla:(dg ma).length<=80000) (_hlb:(dg mb).length<=80000) (hle:mb<=ma) :
 Calls Tryz.prog 130 #[ptr z,ptr x,ptr y] w (RawP R zs (vs.set i (toR (ofR (na,ma)+ofR (!na,mb)))) (ptr z) w):=by
 obtain⟨v,p,q,hv,hp,hq,oz⟩:=h.at hi
 obtain⟨a',px,dx,ha',hpx,hqx,ox⟩:=h.at hj
 obtain⟨b',py,dy,hb',hpy,hqy,oy⟩:=h.at hk
 obtain rfl:(na,ma)=a':=by rw[ha] at ha';exact Option.some.inj ha'
 obtain rfl:(!na,mb)=b':=by rw[hb] at hb';exact Option.some.inj hb'
 have hpz:blk p≠some z:=h.zp i i z p hi hp
 have HOP:=Lz λn=>nat_sub p px py (dg v.2).length ma mb q dx dy (w.drewN n) (oz.num.buf.kept (zzz _ _ .none) (λ_ _=>by simp)) (ox.num.kept (zzz _ _ .none) (λ_ _=>by simp)) (oy.num.kept (zzz _ _ .none) (λ_ _=>by simp)) hla hle
 have hcmp:=λn m=>Calls.quiet_of (w:=w.drewN n) (n:=m) (nat_cmp px py ma mb dx dy ((w.drewN n).drewN m) ((ox.num.kept (zzz _ _ .none) (λ_ _=>by simp)).kept (zzz _ _ .none) (λ_ _=>by simp)) ((oy.num.kept (zzz _ _ .none) (λ_ _=>by simp)).kept (zzz _ _ .none) (λ_ _=>by simp)) hla)
 simp only[drewN_drewN] at hcmp
 have HCMP:=Lz hcmp
 clear hcmp
 have hsg:0<=sgn ma mb:=by unfold sgn;split;omega;split <;> omega
 have hz1:=oz.str.cell1
 have hx0:=ox.str.cell0
 have hx1:=ox.str.cell1
 have hy0:=oy.str.cell0
 have hy1:=oy.str.cell1
 simp only at hx0 hx1 hy0 hy1
 have hbb:(na == !na)=false:=by cases na <;> rfl
 have HF:=Lz h
 have HSZ:=Lz oz.str
 have HPZ:=Lz hpz
 have HHI:=Lz hi
 have HHP:=Lz hp
 have HHR:=Lz hR
 obtain⟨V,hV⟩:∃ V,V=toR (ofR (na,ma)+ofR (!na,mb)):=⟨_,rfl⟩
 rw[<-hV]
 have HR:=Lz (show V.2=ma-mb by rw[hV];unfold toR ofR;cases na <;> simp <;> omega)
 have HZ:=Lz (show ma-mb=0->false=V.1 by intro h0;rw[hV];unfold toR ofR;cases na <;> simp <;> omega)
 have HNB:=Lz (show ma-mb≠0->(na)=V.1 by intro h0;rw[hV];unfold toR ofR;cases na <;> simp <;> omega)
 clear h hi hj hk hR ha hb ha' hb' hv hp hq hpx hqx hpy hqy oz ox oy hpz hla hV _hlb hle
 unfold ptr
 go_enter Tryz.func130,Tryz.ntmps130
 go_wp2_with fail
 go_quiet (fail)
 go_wp2_with fail
 go_quiet ((go_at_call 131;exact HCMP.out _ _))
 go_wp2_with fail
 go_cut [] from 47 (λwx=>zxy w z p v.1 (ma-mb) wx)
 case first=>
  go_region_with (go_at_call 161;refine(HOP.out _).mono ?_;rintro e w1 ⟨p',q',rfl,hn,hg,hf⟩;have hsz:=HSZ.out.grow ((Grow.none (zzz w _ .none) _).trans (Grow.of hg)) HPZ.out;have hc1:=hsz.cell1;have hf1:=hsz.free 1;have HN:=Lz hn;have HG:=Lz hg;have HFr:=Lz hf;clear hn hg hf hsz)
  all_goals
   go_wp2_with fail
   go_meet
   case rel=>exact zxy.of HSZ.out HPZ.out (zzz _ _ _) HN.out HG.out HFr.out
 case rest=>
  have HA:=Lz hcut
  obtain⟨p',q',h1,h2,h3,h4,h5⟩:=hcut
  have hc0:=h1.cell0
  have hc1:=h1.cell1
  have hf0:=h1.free 0
  clear h1 h2 h3 h4 h5 hz1 hx0 hx1 hy0 hy1 hbb
  have HL:=Lz (λh0=>zyw h0:ma-mb≠0->0<(dg (ma-mb)).length)
  generalize (na)=nb at *
  by_cases hr0:ma-mb=0
  . have E2:=Lz (HZ.out hr0)
    have hl0:(dg (ma-mb)).length=0:=by rw[hr0,zyv];rfl
    rw[hl0] at hc1
    clear hr0 hl0
    go_wp2_with fail
    go_ret
    exact⟨rfl,HA.out.finishR HF.out HHI.out HHP.out HHR.out HR.out E2.out⟩
  . have hl2:(0:Int)<((dg (ma-mb)).length:Int):=by have:=HL.out hr0;omega
    have E2:=Lz (HNB.out hr0)
    clear hr0
    generalize (dg (ma-mb)).length=len at *
    go_wp2_with fail
    go_ret
    exact⟨rfl,HA.out.finishR HF.out HHI.out HHP.out HHR.out HR.out E2.out⟩
theorem rawAdd_lt (R:Nat->Prop) (w:World) (zs:List Nat) (vs:List (Bool×Nat)) (ps:List (Option Addr)) (qs:List (List Nat)) (h:FamR R w zs vs ps qs) (i j k z x y:Nat) (na:Bool) (ma mb:Nat) (hi:zs[i]? = some z) (hj:zs[j]? = some x) (hk:zs[k]? = some y) (hR:¬R z)
 (ha:vs[j]? = some (na,ma)) (hb:vs[k]? = some (!na,mb)) (hla:(dg ma).length<=80000) (hlb:(dg mb).length<=80000) (hle:ma<mb) :
 Calls Tryz.prog 130 #[ptr z,ptr x,ptr y] w (RawP R zs (vs.set i (toR (ofR (na,ma)+ofR (!na,mb)))) (ptr z) w):=by
 obtain⟨v,p,q,hv,hp,hq,oz⟩:=h.at hi
 obtain⟨a',px,dx,ha',hpx,hqx,ox⟩:=h.at hj
 obtain⟨b',py,dy,hb',hpy,hqy,oy⟩:=h.at hk
 obtain rfl:(na,ma)=a':=by rw[ha] at ha';exact Option.some.inj ha'
 obtain rfl:(!na,mb)=b':=by rw[hb] at hb';exact Option.some.inj hb'
 have hpz:blk p≠some z:=h.zp i i z p hi hp
 have HOP:=Lz λn=>nat_sub p py px (dg v.2).length mb ma q dy dx (w.drewN n) (oz.num.buf.kept (zzz _ _ .none) (λ_ _=>by simp)) (oy.num.kept (zzz _ _ .none) (λ_ _=>by simp)) (ox.num.kept (zzz _ _ .none) (λ_ _=>by simp)) hlb (Nat.le_of_lt hle)
 have hcmp:=λn m=>Calls.quiet_of (w:=w.drewN n) (n:=m) (nat_cmp px py ma mb dx dy ((w.drewN n).drewN m) ((ox.num.kept (zzz _ _ .none) (λ_ _=>by simp)).kept (zzz _ _ .none) (λ_ _=>by simp)) ((oy.num.kept (zzz _ _ .none) (λ_ _=>by simp)).kept (zzz _ _ .none) (λ_ _=>by simp)) hla)
 simp only[drewN_drewN] at hcmp
 have HCMP:=Lz hcmp
 clear hcmp
 have hsg:¬0<=sgn ma mb:=by unfold sgn;rw[if_pos hle];decide
 have hz1:=oz.str.cell1
 have hx0:=ox.str.cell0
 have hx1:=ox.str.cell1
 have hy0:=oy.str.cell0
 have hy1:=oy.str.cell1
 simp only at hx0 hx1 hy0 hy1
 have hbb:(na == !na)=false:=by cases na <;> rfl
 have HF:=Lz h
 have HSZ:=Lz oz.str
 have HPZ:=Lz hpz
 have HHI:=Lz hi
 have HHP:=Lz hp
 have HHR:=Lz hR
 obtain⟨V,hV⟩:∃ V,V=toR (ofR (na,ma)+ofR (!na,mb)):=⟨_,rfl⟩
 rw[<-hV]
 have HR:=Lz (show V.2=mb-ma by rw[hV];unfold toR ofR;cases na <;> simp <;> omega)
 have HZ:=Lz (show mb-ma=0->false=V.1 by intro h0;rw[hV];unfold toR ofR;cases na <;> simp <;> omega)
 have HNB:=Lz (show mb-ma≠0->(!na)=V.1 by intro h0;rw[hV];unfold toR ofR;cases na <;> simp <;> omega)
 clear h hi hj hk hR ha hb ha' hb' hv hp hq hpx hqx hpy hqy oz ox oy hpz hla hV hlb hle
 unfold ptr
 go_enter Tryz.func130,Tryz.ntmps130
 go_wp2_with fail
 go_quiet (fail)
 go_wp2_with fail
 go_quiet ((go_at_call 131;exact HCMP.out _ _))
 go_wp2_with fail
 go_cut [] from 65 (λwx=>zxy w z p v.1 (mb-ma) wx)
 case first=>
  go_region_with (go_at_call 161;refine(HOP.out _).mono ?_;rintro e w1 ⟨p',q',rfl,hn,hg,hf⟩;have hsz:=HSZ.out.grow ((Grow.none (zzz w _ .none) _).trans (Grow.of hg)) HPZ.out;have hc1:=hsz.cell1;have hf1:=hsz.free 1;have HN:=Lz hn;have HG:=Lz hg;have HFr:=Lz hf;clear hn hg hf hsz)
  all_goals
   go_wp2_with fail
   go_meet
   case rel=>exact zxy.of HSZ.out HPZ.out (zzz _ _ _) HN.out HG.out HFr.out
 case rest=>
  have HA:=Lz hcut
  obtain⟨p',q',h1,h2,h3,h4,h5⟩:=hcut
  have hc0:=h1.cell0
  have hc1:=h1.cell1
  have hf0:=h1.free 0
  clear h1 h2 h3 h4 h5 hz1 hx0 hx1 hy0 hy1 hbb
  have HL:=Lz (λh0=>zyw h0:mb-ma≠0->0<(dg (mb-ma)).length)
  generalize (!na)=nb at *
  by_cases hr0:mb-ma=0
  . have E2:=Lz (HZ.out hr0)
    have hl0:(dg (mb-ma)).length=0:=by rw[hr0,zyv];rfl
    rw[hl0] at hc1
    clear hr0 hl0
    go_wp2_with fail
    go_ret
    exact⟨rfl,HA.out.finishR HF.out HHI.out HHP.out HHR.out HR.out E2.out⟩
  . have hl2:(0:Int)<((dg (mb-ma)).length:Int):=by have:=HL.out hr0;omega
    have E2:=Lz (HNB.out hr0)
    clear hr0
    generalize (dg (mb-ma)).length=len at *
    go_wp2_with fail
    go_ret
    exact⟨rfl,HA.out.finishR HF.out HHI.out HHP.out HHR.out HR.out E2.out⟩
end Go.Proofs.YtohhkjamddojmaaGreatDoor.Big
namespace Go.Proofs.YtohhkjamddojmaaGreatDoor.Big
open Go.RowKit
theorem rawAdd {R:Nat->Prop} {w:World} {zs:List Nat} {vs:List (Bool×Nat)} (h:IntsR R w zs vs) (i j k z x y:Nat) (a b:Bool×Nat) (hi:zs[i]? = some z) (hj:zs[j]? = some x) (hk:zs[k]? = some y) (hR:¬R z)
 (ha:vs[j]? = some a) (hb:vs[k]? = some b) (hla:(dg a.2).length<=80000) (hlb:(dg b.2).length<=80000) :
 Calls Tryz.prog 130 #[ptr z,ptr x,ptr y] w (RawP R zs (vs.set i (toR (ofR a+ofR b))) (ptr z) w):=by
 obtain⟨ps,qs,h⟩:=h
 obtain⟨na,ma⟩:=a
 obtain⟨nb,mb⟩:=b
 by_cases hs:nb=na
 . subst hs
   exact rawAdd_same R w zs vs ps qs h i j k z x y nb ma mb hi hj hk hR ha hb hla hlb
 . have hs':nb=!na:=by cases na <;> cases nb <;> simp at hs ⊢
   subst hs'
   by_cases hle:mb<=ma
   . exact rawAdd_ge R w zs vs ps qs h i j k z x y na ma mb hi hj hk hR ha hb hla hlb hle
   . exact rawAdd_lt R w zs vs ps qs h i j k z x y na ma mb hi hj hk hR ha hb hla hlb (by omega)
theorem rawMulW {R:Nat->Prop} {w:World} {zs:List Nat} {vs:List (Bool×Nat)} (h:IntsR R w zs vs) (i j z x:Nat) (a:Bool×Nat) (n:Bool) (y:Nat) (hi:zs[i]? = some z) (hj:zs[j]? = some x) (hR:¬R z)
 (ha:vs[j]? = some a) (hla:(dg a.2).length<=80000) (hy:y<B64) :
 Calls Tryz.prog 195 #[ptr z,ptr x,.bool n,wd y] w (RawP R zs (vs.set i (a.1 != n,a.2*y)) (.tuple #[]) w):=by
 obtain⟨ps,qs,h⟩:=h
 obtain⟨v,p,q,hv,hp,hq,oz⟩:=h.at hi
 obtain⟨a',px,dx,ha',hpx,hqx,ox⟩:=h.at hj
 obtain rfl:a=a':=by rw[ha] at ha';exact Option.some.inj ha'
 have hpz:blk p≠some z:=h.zp i i z p hi hp
 have HOP:=Lz λm=>nat_mulAddWW p px (dg v.2).length a.2 y 0 q dx (w.drewN m) (oz.num.buf.kept (zzz _ _ .none) (λ_ _=>by simp)) (ox.num.kept (zzz _ _ .none) (λ_ _=>by simp)) hla hy zxw
 have hz1:=oz.str.cell1
 have hx1:=ox.str.cell1
 have HF:=Lz h
 have HSZ:=Lz oz.str
 have HPZ:=Lz hpz
 have HHI:=Lz hi
 have HHP:=Lz hp
 have HHR:=Lz hR
 have hx0:∀ wx,zxy w z p v.1 (a.2*y+0) wx->wx.cell? ⟨x,0,.none⟩=some (.bool a.1):=by
  rintro wx ⟨p',q',h1,h2,h3,h4,h5⟩
  by_cases hxz:x=z
  . subst hxz
    have e:=ox.str.cell0
    rw[oz.str.cell0] at e
    rw[h1.cell0,Option.some.inj e]
  . exact(ox.str.grow h3 (by rintro(e|e);exact hxz e;exact h.zp j i x p hj hp e)).cell0
 have HX0:=Lz hx0
 clear h hi hj hR ha ha' hv hp hq hpx hqx oz ox hpz hla hy hx0
 unfold ptr
 unfold wd at *
 go_enter Tryz.func195,Tryz.ntmps195
 go_upto_region 0 with fail
 go_cut [] from 8 (λwx=>zxy w z p v.1 (a.2*y+0) wx)
 case first=>
  go_region_with (go_at_call 205;refine(HOP.out _).mono ?_;rintro e w1 ⟨p',q',rfl,hn,hg,hf⟩;have hsz:=HSZ.out.grow ((Grow.none (zzz w _ .none) _).trans (Grow.of hg)) HPZ.out;have hc1:=hsz.cell1;have hf1:=hsz.free 1;have HN:=Lz hn;have HG:=Lz hg;have HFr:=Lz hf;clear hn hg hf hsz)
  all_goals
   go_wp2_with fail
   go_meet
   case rel=>exact zxy.of HSZ.out HPZ.out (zzz _ _ _) HN.out HG.out HFr.out
 case rest=>
  have HA:=Lz hcut
  have hx0:=HX0.out _ hcut
  obtain⟨p',q',h1,h2,h3,h4,h5⟩:=hcut
  have hc0:=h1.cell0
  have hf0:=h1.free 0
  clear h1 h2 h3 h4 h5 hz1 hx1
  go_wp2_with fail
  go_end0
  exact⟨rfl,HA.out.finishR HF.out HHI.out HHP.out HHR.out rfl rfl⟩
end Go.Proofs.YtohhkjamddojmaaGreatDoor.Big
namespace Go.Proofs.YtohhkjamddojmaaGreatDoor.Big
open Go.RowKit
structure OwnR (R:Nat->Prop) (w0 w:World) (L:List (Nat×(Bool×Nat))):Prop where
 ints:IntsR R w (L.map Prod.fst) (L.map Prod.snd)
 kept:Kept R w0 w
 tab:Tab w
 low:∀ k,k<8->R k
def rawP (p:Nat×Int):Nat×(Bool×Nat):=(p.1,toR p.2)
theorem map_fst_raw (L:List (Nat×Int)):(L.map rawP).map Prod.fst=L.map Prod.fst:=by rw[List.map_map];rfl
theorem map_snd_raw (L:List (Nat×Int)):(L.map rawP).map Prod.snd=(L.map Prod.snd).map toR:=by rw[List.map_map,List.map_map];rfl
theorem Own.raw {R:Nat->Prop} {w0 w:World} {L:List (Nat×Int)} (h:Own R w0 w L):OwnR R w0 w (L.map rawP):=
 ⟨by rw[map_fst_raw,map_snd_raw];exact h.ints.raw,h.kept,h.tab,h.low⟩
theorem OwnR.int {R:Nat->Prop} {w0 w:World} {L:List (Nat×Int)} (h:OwnR R w0 w (L.map rawP)):Own R w0 w L:=
 ⟨by have:=h.ints;rw[map_fst_raw,map_snd_raw] at this;exact this.int,h.kept,h.tab,h.low⟩
theorem raw1 {L:List (Nat×(Bool×Nat))} {i z:Nat} {v:Bool×Nat} (h:L[i]? = some (z,v)):(L.map Prod.fst)[i]? = some z:=by rw[List.getElem?_map,h];rfl
theorem raw2 {L:List (Nat×(Bool×Nat))} {i z:Nat} {v:Bool×Nat} (h:L[i]? = some (z,v)):(L.map Prod.snd)[i]? = some v:=by rw[List.getElem?_map,h];rfl
theorem OwnR.step {R:Nat->Prop} {w0 w w':World} {L:List (Nat×(Bool×Nat))} {i z:Nat} {v u:Bool×Nat} (h:OwnR R w0 w L) (hz:L[i]? = some (z,v)) (hi:IntsR R w' (L.map Prod.fst) ((L.map Prod.snd).set i u)) (hk:Kept R w w'):OwnR R w0 w' (L.set i (z,u)):=by
 refine⟨?_,h.kept.trans hk,h.tab.keptR hk h.low,h.low⟩
 rw[List.map_set,List.map_set,set_same (raw1 hz)]
 exact hi
section
variable {R : Nat → Prop} {w0 w : World}
theorem rawAddO {L:List (Nat×(Bool×Nat))} (h:OwnR R w0 w L) (i j k:Nat) {z x y:Nat} {v a b:Bool×Nat} (hi:L[i]? = some (z,v)) (hj:L[j]? = some (x,a)) (hk:L[k]? = some (y,b)) (hR:¬R z) (sa:Sz 640000 (a.2:Int)) (sb:Sz 640000 (b.2:Int)) :
 Calls Tryz.prog 130 #[ptr z,ptr x,ptr y] w λe w'=>e=.returned (ptr z)/\OwnR R w0 w' (L.set i (z,toR (ofR a+ofR b))):=
 (rawAdd h.ints i j k z x y a b (raw1 hi) (raw1 hj) (raw1 hk) hR (raw2 hj) (raw2 hk) (Nat.le_trans (Sz.words (k:=10000) (a:=(a.2:Int)) sa) (by decide)) (Nat.le_trans (Sz.words (k:=10000) (a:=(b.2:Int)) sb) (by decide))).mono λ_ _ hp=>⟨hp.1,h.step hi hp.2.1 hp.2.2⟩
theorem rawMulWO {L:List (Nat×(Bool×Nat))} (h:OwnR R w0 w L) (i j:Nat) {z x:Nat} {v a:Bool×Nat} (n:Bool) (y:Nat) (hi:L[i]? = some (z,v)) (hj:L[j]? = some (x,a)) (hR:¬R z) (sa:Sz 640000 (a.2:Int)) (hy:y<B64) :
 Calls Tryz.prog 195 #[ptr z,ptr x,.bool n,wd y] w λe w'=>e=.returned (.tuple #[])/\OwnR R w0 w' (L.set i (z,(a.1 != n,a.2*y))):=
 (rawMulW h.ints i j z x a n y (raw1 hi) (raw1 hj) hR (raw2 hj) (Nat.le_trans (Sz.words (k:=10000) (a:=(a.2:Int)) sa) (by decide)) hy).mono λ_ _ hp=>⟨hp.1,h.step hi hp.2.1 hp.2.2⟩
variable {L : List (Nat × Int)}
theorem absO (h:Own R w0 w L) (i j:Nat) {z x:Nat} {v a:Int} (hi:L[i]? = some (z,v)) (hj:L[j]? = some (x,a)) (hR:¬R z) (sa:Sz 640000 a) :
 Calls Tryz.prog 191 #[ptr z,ptr x] w (OpP R w0 z (L.set i (z,(a.natAbs:Int)))):=
 (Int_Abs h.ints i j z x a (at1 hi) (at1 hj) hR (at2 hj) (Nat.le_trans (Sz.words (k:=10000) sa) (by decide)) (by have:=(List.getElem?_eq_some_iff.1 hi).1;simpa using this)).mono λ_ _ hp=>OpP.of h hi hp
theorem Own.cmpq (h:Own R w0 w L) {j k x y:Nat} {a b:Int} (hj:L[j]? = some (x,a)) (hk:L[k]? = some (y,b)) (sa:Sz 640000 a) :
 ∃ p q c d,w.cell? ⟨x,1,.none⟩=some (.slice p (dg a.natAbs).length c)/\w.cell? ⟨y,1,.none⟩=some (.slice q (dg b.natAbs).length d) ∧
  ∀ n,Calls Tryz.prog 131 #[.slice p (dg a.natAbs).length c,.slice q (dg b.natAbs).length d] (w.drewN n) λe w''=>e=.returned (.int .i64 (sgn a.natAbs b.natAbs))/\∃ m,w''=w.drewN m:=by
 obtain⟨ps,qs,hf⟩:=h.ints
 obtain⟨a',px,dx,ha',hpx,hqx,ox⟩:=hf.at (at1 hj)
 obtain⟨b',py,dy,hb',hpy,hqy,oy⟩:=hf.at (at1 hk)
 obtain rfl:a=a':=by rw[at2 hj] at ha';exact Option.some.inj ha'
 obtain rfl:b=b':=by rw[at2 hk] at hb';exact Option.some.inj hb'
 refine⟨px,py,_,_,ox.str.cell1,oy.str.cell1,λn=>Calls.quiet_of (w:=w) (n:=n) ?_⟩
 exact nat_cmp px py a.natAbs b.natAbs dx dy (w.drewN n) (ox.num.kept (zzz _ _ .none) (λ_ _=>by simp)) (oy.num.kept (zzz _ _ .none) (λ_ _=>by simp)) (Nat.le_trans (Sz.words (k:=10000) sa) (by decide))
theorem Own.word (h:Own R w0 w L) {i z n:Nat} (hi:L[i]? = some (z,(n:Int))) (h0:n≠0) (hn:n<B64) :
 ∃ b c,w.cell? ⟨z,1,.none⟩=some (.slice (some ⟨b,0,.none⟩) 1 c)/\1<=c/\w.cell? ⟨b,0,.none⟩=some (wd n)/\w.frozen? ⟨b,0,.none⟩=false ∧
  (¬R z->∀ y,y≠0->y<B64->Own R w0 (w.setCell ⟨b,0,.none⟩ (wd y)) (L.set i (z,(y:Int)))):=by
 obtain⟨ps,qs,hf⟩:=h.ints
 obtain⟨a',px,dx,ha',hpx,hqx,ox⟩:=hf.at (at1 hi)
 obtain rfl:(n:Int)=a':=by rw[at2 hi] at ha';exact Option.some.inj ha'
 have hnum:=ox.num
 have hstr:=ox.str
 rw[Int.natAbs_natCast] at hnum hstr
 have e:∀ {y},y≠0->y<B64->dg y = [y]:=λhy0 hy=>by rw[dg_one hy];simp[word1,hy0]
 have en:=e h0 hn
 rw[en] at hnum hstr
 obtain⟨b,rfl,hb,hc⟩:=hnum.cell (by simp)
 have hle:1<=dx.length:=hnum.le
 refine⟨b,dx.length,hstr.cell1,hle,hc 0 (by simp),hb.free 0,λhR y hy0 hy=>?_⟩
 have hg:Grow w (w.setCell ⟨b,0,.none⟩ (wd y)) (λk=>k=z\/blk (some (⟨b,0,.none⟩:Addr))=some k):=(Grow.of (zzw w b 0 _)).weaken (λk _ e=>.inr e)
 have hbz:b≠z:=λe=>hf.zp i i z _ (at1 hi) hpx (e ▸ rfl)
 have ho:One (w.setCell ⟨b,0,.none⟩ (wd y)) z (y:Int) (some ⟨b,0,.none⟩) (dx.set 0 y):=by
  have ey:=e hy0 hy
  refine⟨?_,?_⟩
  . rw[Int.natAbs_natCast,ey,List.length_set]
    have:decide ((y:Int)<0)=false:=by simp
    have e2:decide ((n:Int)<0)=false:=by simp
    rw[this]
    rw[e2] at hstr
    exact hstr.grow (S:=λk=>some b=some k) (Grow.of (zzw w b 0 _)) (λe=>hbz (Option.some.inj e))
  . rw[Int.natAbs_natCast,ey]
    refine⟨hnum.buf.set hy (by omega),?_,by rw[List.length_set];exact hle⟩
    obtain⟨d,ds,rfl⟩:∃ d ds,dx=d :: ds:=by
     cases dx with
     | nil=>simp at hle
     | cons d ds=>exact⟨d,ds,rfl⟩
    rfl
 obtain⟨hF,hK⟩:=hf.write (at1 hi) hpx hR hg ho (.inl rfl)
 exact h.step ⟨_,_,hF⟩ hK (set1 hi _) (set2 L i z _)
end
end Go.Proofs.YtohhkjamddojmaaGreatDoor.Big

namespace Go.Proofs.YtohhkjamddojmaaGreatDoor.Big
open Go.RowKit
attribute [local go_sem] ptr
theorem sz_word {v:Int} (h:v.natAbs<18446744073709551616):Sz 640000 v:=(show Sz 64 v from h).le (by decide)
section
variable {R : Nat → Prop} {w0 w : World} {L : List (Nat × Int)}
end
end Go.Proofs.YtohhkjamddojmaaGreatDoor.Big
namespace Go.Proofs.YtohhkjamddojmaaGreatDoor.Big
open Go.RowKit
attribute [local go_sem] ptr
section
variable {R : Nat → Prop} {w0 w : World} {L : List (Nat × Int)}
theorem Own.new2 (h:Own R w0 w L):Own R w0 ((w.alloc (.cells #[.bool false,.slice .none 0 0] 172)).alloc (.cells #[.bool false,.slice .none 0 0] 172)) ((w.heap.size+1,0) :: (w.heap.size,0) :: L)/\¬R (w.heap.size+1)/\¬R w.heap.size:=by
 obtain⟨h1,r1⟩:=h.new
 obtain⟨h2,r2⟩:=h1.new
 have e:(w.alloc (.cells #[.bool false,.slice .none 0 0] 172)).heap.size=w.heap.size+1:=Array.size_push _
 rw[e] at h2 r2
 exact⟨h2,r2,r1⟩
theorem cmpO (h:Own R w0 w L) (j k:Nat) {x y:Nat} {a b:Int} (hj:L[j]? = some (x,a)) (hk:L[k]? = some (y,b)) (sa:Sz 640000 a) :
 Calls Tryz.prog 91 #[ptr x,ptr y] w (CmpP (cmpI a b) w):=
 Int_Cmp h.ints j k x y a b (at1 hj) (at1 hk) (at2 hj) (at2 hk) (Nat.le_trans (Sz.words (k:=10000) sa) (by decide))
end
end Go.Proofs.YtohhkjamddojmaaGreatDoor.Big
namespace Go.Proofs.YtohhkjamddojmaaGreatDoor.Big
open Go.RowKit
theorem NumP.from_none {n:List Nat} {w:World} {e:Ending} {w':World} (h:NumP .none n w e w') (p:Option Addr):NumP p n w e w':=by
 obtain⟨p',cs',he,hn,hg,hf⟩:=h
 exact⟨p',cs',he,hn,zwz hg _,hf.from_none p⟩
theorem Num.word {w:World} {b n:Nat} {ds:List Nat} (h:Num w (some ⟨b,0,.none⟩) (dg n) ds) (h0:n≠0) (hn:n<B64):w.cell? ⟨b,0,.none⟩=some (wd n):=by
 have hl:dg n = [n]:=by rw[dg_one hn];simp[word1,h0]
 obtain⟨b',e,-,hc⟩:=h.cell (by rw[hl];exact Nat.zero_lt_one)
 cases e
 have:=hc 0 (by rw[hl];exact Nat.zero_lt_one)
 rw[hl] at this
 exact this
theorem Grow.by {w w':World} {row:Option Nat} (h:Grow w w' (λk=>row=some k)):w.grownBy w' row:=
 ⟨h.os,h.tape,h.output,h.size,λk hk hr=>h.block k hk (λe=>hr e.symm)⟩
theorem Num.apart {w w':World} {a q:Option Addr} {X ds:List Nat} (h:Num w q X ds) (hg:w.grownBy w' (blk a)) (ha:Apart a q):Num w' q X ds:=h.kept hg (λb hb e=>ha b e hb)
section
variable {W wr w' : World} {p0 a b c d a' b' : Option Addr} {ca cb cc cd ca' cb' : List Nat}
end
end Go.Proofs.YtohhkjamddojmaaGreatDoor.Big
namespace Go.Proofs.YtohhkjamddojmaaGreatDoor.Big
open Go.RowKit
section
variable {W wr w' : World} {p0 a b c d a' b' : Option Addr} {ca cb cc cd ca' cb' : List Nat}
end
end Go.Proofs.YtohhkjamddojmaaGreatDoor.Big
