/- Add, Sub, Mul of Ints. Set, Sign, Cmp of Ints. Cmp of Ints. Abs, Neg, SetInt64 of Ints. SetInt64, SetUint64. Int64, IsInt64 of Ints from 0 on. What a function owns: Ints by pointer and value, in an order; the operations over it. Mod of Ints; quotient and remainder over what is owned. The Int one; the greatest common divisor's entry. -/
import Derived.Test.YtohhkjamddojmaaGreatDoorIntH
import Derived.Test.YtohhkjamddojmaaGreatDoorIntF
set_option maxRecDepth 100000
set_option maxHeartbeats 16000000
namespace Go.Proofs.YtohhkjamddojmaaGreatDoor.Big
open Go.RowKit
theorem Int_Add {R:Nat->Prop} {w:World} {zs:List Nat} {vs:List Int} (h:Ints R w zs vs) (i j k z x y:Nat) (a b:Int) (hi:zs[i]? = some z) (hj:zs[j]? = some x) (hk:zs[k]? = some y) (hR:¬R z)
 (ha:vs[j]? = some a) (hb:vs[k]? = some b) (hla:(dg a.natAbs).length<=80000) (hlb:(dg b.natAbs).length<=80000) :
 Calls Tryz.prog 130 #[ptr z,ptr x,ptr y] w (IntP R zs (vs.set i (a+b)) z w):=by
 obtain⟨ps,qs,h⟩:=h
 by_cases hs:a<0↔b<0
 . exact add_same R w zs vs ps qs h i j k z x y a b hi hj hk hR ha hb hla hlb hs
 . have hs':a<0↔¬b<0:=by omega
   by_cases hle:b.natAbs<=a.natAbs
   . exact add_ge R w zs vs ps qs h i j k z x y a b hi hj hk hR ha hb hla hlb hs' hle
   . exact add_lt R w zs vs ps qs h i j k z x y a b hi hj hk hR ha hb hla hlb hs' (by omega)
theorem Int_Sub {R:Nat->Prop} {w:World} {zs:List Nat} {vs:List Int} (h:Ints R w zs vs) (i j k z x y:Nat) (a b:Int) (hi:zs[i]? = some z) (hj:zs[j]? = some x) (hk:zs[k]? = some y) (hR:¬R z)
 (ha:vs[j]? = some a) (hb:vs[k]? = some b) (hla:(dg a.natAbs).length<=80000) (hlb:(dg b.natAbs).length<=80000) :
 Calls Tryz.prog 142 #[ptr z,ptr x,ptr y] w (IntP R zs (vs.set i (a-b)) z w):=by
 obtain⟨ps,qs,h⟩:=h
 by_cases hs:a<0↔b<0
 . by_cases hle:b.natAbs<=a.natAbs
   . exact sub_ge R w zs vs ps qs h i j k z x y a b hi hj hk hR ha hb hla hlb hs hle
   . exact sub_lt R w zs vs ps qs h i j k z x y a b hi hj hk hR ha hb hla hlb hs (by omega)
 . exact sub_opp R w zs vs ps qs h i j k z x y a b hi hj hk hR ha hb hla hlb (by omega)
theorem Int_mul {R:Nat->Prop} {w:World} {zs:List Nat} {vs:List Int} (h:Ints R w zs vs) (s:Value) (i j k z x y:Nat) (a b:Int) (hi:zs[i]? = some z) (hj:zs[j]? = some x) (hk:zs[k]? = some y) (hR:¬R z)
 (ha:vs[j]? = some a) (hb:vs[k]? = some b) (hla:(dg a.natAbs).length<=11) (hlb:(dg b.natAbs).length<=39) (htab:Tab w) :
 Calls Tryz.prog 155 #[ptr z,s,ptr x,ptr y] w (IntV R zs (vs.set i (a*b)) w):=by
 obtain⟨ps,qs,h⟩:=h
 by_cases hxy:x=y
 . subst hxy
   obtain rfl:=h.zz j k x hj hk
   obtain rfl:a=b:=by rw[ha] at hb;exact Option.some.inj hb
   exact mul_same R w zs vs ps qs h s i j z x a hi hj hR ha hla htab
 . exact mul_other R w zs vs ps qs h s i j k z x y a b hi hj hk hR hxy ha hb (by omega) hlb htab
theorem Int_Mul {R:Nat->Prop} {w:World} {zs:List Nat} {vs:List Int} (h:Ints R w zs vs) (i j k z x y:Nat) (a b:Int) (hi:zs[i]? = some z) (hj:zs[j]? = some x) (hk:zs[k]? = some y) (hR:¬R z)
 (ha:vs[j]? = some a) (hb:vs[k]? = some b) (hla:(dg a.natAbs).length<=11) (hlb:(dg b.natAbs).length<=39) (htab:Tab w) :
 Calls Tryz.prog 124 #[ptr z,ptr x,ptr y] w (IntP R zs (vs.set i (a*b)) z w):=by
 have H:=Lz (Int_mul h (.pointer .none) i j k z x y a b hi hj hk hR ha hb hla hlb htab)
 clear h hi hj hk hR ha hb hla hlb htab
 unfold ptr at *
 go_enter Tryz.func124,Tryz.ntmps124
 go_wp2_with fail
 refine H.out.mono ?_
 rintro e w1 ⟨rfl,hh⟩
 have HH:=Lz hh
 clear hh
 go_wp2_with fail
 go_ret
 exact⟨rfl,HH.out⟩
end Go.Proofs.YtohhkjamddojmaaGreatDoor.Big
namespace Go.Proofs.YtohhkjamddojmaaGreatDoor.Big
open Go.RowKit
theorem neq_int_same (w:World) (z:Nat):(binOp .neq 108 (ptr z) (ptr z)).run Tryz.prog w=.ok (.bool false) w:=by
 obtain⟨j,hj,_⟩:=Option.map_eq_some_iff.1 info172
 exact neq_ptr_same w _ under108 hj
theorem neq_int_other {w:World} {x y:Nat} {n1 n2:Bool} {p1 p2:Option Addr} {l1 l2 c1 c2:Nat} (hx:StrB w x n1 p1 l1 c1) (hy:StrB w y n2 p2 l2 c2) (hne:x≠y):(binOp .neq 108 (ptr x) (ptr y)).run Tryz.prog w=.ok (.bool true) w:=by
 obtain⟨j,hj,hs⟩:=Option.map_eq_some_iff.1 info172
 exact neq_ptr_other (w:=w) under108 hj (by rw[hs];decide) (by intro e;simp only[Addr.mk.injEq] at e;exact hne e.1) hx hy
theorem set_same {α : Type} {l:List α} {i:Nat} {a:α} (h:l[i]? = some a):l.set i a=l:=by
 apply List.ext_getElem?
 intro j
 by_cases hj:j=i
 . subst hj;rw[List.getElem?_set_self',h];rfl
 . rw[List.getElem?_set_ne (Ne.symm hj)]
theorem Int_Set {R:Nat->Prop} {w:World} {zs:List Nat} {vs:List Int} (h:Ints R w zs vs) (i j z x:Nat) (a:Int) (hi:zs[i]? = some z) (hj:zs[j]? = some x) (hR:¬R z) (ha:vs[j]? = some a) (hla:(dg a.natAbs).length<=80000) :
 Calls Tryz.prog 144 #[ptr z,ptr x] w (IntP R zs (vs.set i a) z w):=by
 obtain⟨ps,qs,h⟩:=h
 by_cases hzx:z=x
 . subst hzx
   obtain rfl:=h.zz i j z hi hj
   rw[set_same ha]
   have he:=neq_int_same w z
   unfold ptr at *
   have H:=Lz h
   clear h hi hj hR ha hla
   go_enter Tryz.func144,Tryz.ntmps144
   go_wp2_with fail
   go_ret
   exact⟨rfl,⟨ps,qs,H.out⟩,Kept.refl _ _⟩
 . obtain⟨v,p,q,hv,hp,hq,oz⟩:=h.at hi
   obtain⟨a',px,dx,ha',hpx,hqx,ox⟩:=h.at hj
   obtain rfl:a=a':=by rw[ha] at ha';exact Option.some.inj ha'
   have hpz:blk p≠some z:=h.zp i i z p hi hp
   have HOP:=Lz λn=>nat_set p px (dg v.natAbs).length q (dg a.natAbs) dx (w.drewN n) (oz.num.buf.kept (zzz _ _ .none) (λ_ _=>by simp)) (ox.num.kept (zzz _ _ .none) (λ_ _=>by simp)) hla
   have he:=neq_int_other oz.str ox.str hzx
   unfold ptr at he
   have hz1:=oz.str.cell1
   have hx1:=ox.str.cell1
   have hx0:∀ wx,zxy w z p (decide (v<0)) a.natAbs wx->wx.cell? ⟨x,0,.none⟩=some (.bool (decide (a<0))):=by
    rintro wx ⟨p',q',h1,h2,h3,h4,h5⟩
    exact(ox.str.grow h3 (by rintro(e|e);exact hzx e.symm;exact h.zp j i x p hj hp e)).cell0
   have HX0:=Lz hx0
   have HF:=Lz h
   have HSZ:=Lz oz.str
   have HPZ:=Lz hpz
   have HHI:=Lz hi
   have HHP:=Lz hp
   have HHR:=Lz hR
   clear h hi hj hR ha ha' hv hp hq hpx hqx oz ox hpz hla hx0 hzx
   unfold ptr
   go_enter Tryz.func144,Tryz.ntmps144
   go_upto_region 2 with fail
   clear he
   go_cut [] from 8 (λwx=>zxy w z p (decide (v<0)) a.natAbs wx)
   case first=>
    go_region_with (go_at_call 169;refine(HOP.out _).mono ?_;rintro e w1 ⟨p',q',rfl,hn,hg,hf⟩;have hsz:=HSZ.out.grow ((Grow.none (zzz w _ .none) _).trans (Grow.of hg)) HPZ.out;have hc1:=hsz.cell1;have hf1:=hsz.free 1;have HN:=Lz hn;have HG:=Lz hg;have HFr:=Lz hf;clear hn hg hf hsz)
    all_goals
     go_wp2_with fail
     go_meet
     case rel=>exact zxy.of HSZ.out HPZ.out (zzz _ _ _) HN.out HG.out HFr.out
   case rest=>
    have HA:=Lz hcut
    have hx0:=HX0.out _ hcut
    obtain⟨p',q',h1,h2,h3,h4,h5⟩:=hcut
    have hc0:=h1.cell0
    have hf0:=h1.free 0
    clear h1 h2 h3 h4 h5 hz1 hx1
    obtain⟨na,hna⟩:∃ na,na=decide (a<0):=⟨_,rfl⟩
    rw[<-hna] at hx0
    have HNA:=Lz hna
    clear hna
    go_wp2_with fail
    go_ret
    exact⟨rfl,HA.out.finish HF.out HHI.out HHP.out HHR.out rfl HNA.out⟩
theorem Int_Sign {R:Nat->Prop} {w:World} {zs:List Nat} {vs:List Int} (h:Ints R w zs vs) (j x:Nat) (a:Int) (hj:zs[j]? = some x) (ha:vs[j]? = some a) :
 Calls Tryz.prog 121 #[ptr x] w λe w'=>e=.returned (.int .i64 a.sign)/\w'=w:=by
 obtain⟨ps,qs,h⟩:=h
 obtain⟨a',px,dx,ha',hpx,hqx,ox⟩:=h.at hj
 obtain rfl:a=a':=by rw[ha] at ha';exact Option.some.inj ha'
 have hx0:=ox.str.cell0
 have hx1:=ox.str.cell1
 clear h hj ha ha' hpx hqx ox
 unfold ptr
 by_cases h0:a=0
 . subst h0
   have hl:(dg (0:Int).natAbs).length=0:=by rw[Int.natAbs_zero,zyv];rfl
   rw[hl] at hx1
   go_enter Tryz.func121,Tryz.ntmps121
   go_wp2_with fail
   go_ret
   exact⟨rfl,rfl⟩
 . have hl:=zyw (a:=a.natAbs) (by omega)
   have hz:(((dg a.natAbs).length:Int)==0)=false:=by rw[beq_eq_false_iff_ne];omega
   generalize (dg a.natAbs).length=len at *
   by_cases hn:a<0
   . have e:decide (a<0)=true:=by simp[hn]
     have hs:a.sign=-1:=Int.sign_eq_neg_one_of_neg hn
     rw[e] at hx0
     rw[hs]
     clear e hs hn h0 hl
     go_enter Tryz.func121,Tryz.ntmps121
     go_wp2_with fail
     go_ret
     exact⟨rfl,rfl⟩
   . have e:decide (a<0)=false:=by simp[hn]
     have hs:a.sign=1:=Int.sign_eq_one_of_pos (by omega)
     rw[e] at hx0
     rw[hs]
     clear e hs hn h0 hl
     go_enter Tryz.func121,Tryz.ntmps121
     go_wp2_with fail
     go_ret
     exact⟨rfl,rfl⟩
end Go.Proofs.YtohhkjamddojmaaGreatDoor.Big
namespace Go.Proofs.YtohhkjamddojmaaGreatDoor.Big
open Go.RowKit
def cmpI (a b:Int):Int:=if a<b then -1 else if b<a then 1 else 0
theorem cmpI_pos {a b:Int} (ha:0<=a) (hb:0<=b):cmpI a b=sgn a.natAbs b.natAbs:=by
 obtain⟨n,rfl⟩:=Int.eq_ofNat_of_zero_le ha
 obtain⟨m,rfl⟩:=Int.eq_ofNat_of_zero_le hb
 unfold cmpI sgn
 simp only[Int.natAbs_natCast,Int.ofNat_lt]
theorem cmpI_neg {a b:Int} (ha:a<=0) (hb:b<=0):cmpI a b=-(sgn a.natAbs b.natAbs):=by
 obtain⟨n,hn⟩:=Int.eq_ofNat_of_zero_le (Int.neg_nonneg_of_nonpos ha)
 obtain⟨m,hm⟩:=Int.eq_ofNat_of_zero_le (Int.neg_nonneg_of_nonpos hb)
 obtain rfl:a=-(n:Int):=by omega
 obtain rfl:b=-(m:Int):=by omega
 unfold cmpI sgn
 rw[Int.natAbs_neg,Int.natAbs_neg,Int.natAbs_natCast,Int.natAbs_natCast]
 rcases Nat.lt_trichotomy n m with h|h|h
 . rw[if_neg (by omega),if_pos (by omega),if_pos h];rfl
 . subst h;simp
 . rw[if_pos (by omega),if_neg (by omega),if_pos h]
theorem Int_Cmp {R:Nat->Prop} {w:World} {zs:List Nat} {vs:List Int} (h:Ints R w zs vs) (j k x y:Nat) (a b:Int) (hj:zs[j]? = some x) (hk:zs[k]? = some y) (ha:vs[j]? = some a) (hb:vs[k]? = some b) (hla:(dg a.natAbs).length<=80000) :
 Calls Tryz.prog 91 #[ptr x,ptr y] w (CmpP (cmpI a b) w):=by
 obtain⟨ps,qs,h⟩:=h
 by_cases hxy:x=y
 . subst hxy
   obtain rfl:=h.zz j k x hj hk
   obtain rfl:a=b:=by rw[ha] at hb;exact Option.some.inj hb
   have he:=eq_int_same w x
   have hr:cmpI a a=0:=by unfold cmpI;simp
   rw[hr]
   unfold ptr at *
   clear h hj hk ha hb hla hr
   go_enter Tryz.func91,Tryz.ntmps91
   go_wp2_with fail
   go_ret
   exact⟨rfl,0,rfl⟩
 . obtain⟨a',px,dx,ha',hpx,hqx,ox⟩:=h.at hj
   obtain⟨b',py,dy,hb',hpy,hqy,oy⟩:=h.at hk
   obtain rfl:a=a':=by rw[ha] at ha';exact Option.some.inj ha'
   obtain rfl:b=b':=by rw[hb] at hb';exact Option.some.inj hb'
   have he:=eq_int_other ox.str oy.str hxy
   have hcmp:=λn m=>Calls.quiet_of (w:=w.drewN n) (n:=m) (nat_cmp px py a.natAbs b.natAbs dx dy ((w.drewN n).drewN m) ((ox.num.kept (zzz _ _ .none) (λ_ _=>by simp)).kept (zzz _ _ .none) (λ_ _=>by simp)) ((oy.num.kept (zzz _ _ .none) (λ_ _=>by simp)).kept (zzz _ _ .none) (λ_ _=>by simp)) hla)
   simp only[drewN_drewN] at hcmp
   have HCMP:=Lz hcmp
   have hx0:=ox.str.cell0
   have hx1:=ox.str.cell1
   have hy0:=oy.str.cell0
   have hy1:=oy.str.cell1
   unfold ptr at *
   clear hcmp h hj hk ha hb ha' hb' hpx hqx hpy hqy ox oy hla hxy
   by_cases ha0:a<0 <;> by_cases hb0:b<0
   . have ea:decide (a<0)=true:=by simp[ha0]
     have eb:decide (b<0)=true:=by simp[hb0]
     rw[ea] at hx0
     rw[eb] at hy0
     have hr:cmpI a b=-(sgn a.natAbs b.natAbs):=cmpI_neg (by omega) (by omega)
     have HRR:=Lz hr
     have hsw:IntKind.i64.wrap (-(sgn a.natAbs b.natAbs))=-(sgn a.natAbs b.natAbs):=by unfold sgn;split <;> (try split) <;> decide
     generalize sgn a.natAbs b.natAbs=sg at *
     clear hr ea eb ha0 hb0
     go_enter Tryz.func91,Tryz.ntmps91
     go_wp2_with fail
     go_quiet (fail)
     go_wp2_with fail
     go_quiet ((go_at_call 131;exact HCMP.out _ _))
     go_wp2_with fail
     go_ret
     exact⟨by rw[HRR.out];rfl,_,rfl⟩
   . have ea:decide (a<0)=true:=by simp[ha0]
     have eb:decide (b<0)=false:=by simp[hb0]
     rw[ea] at hx0
     rw[eb] at hy0
     have hr:cmpI a b=-1:=by unfold cmpI;rw[if_pos (by omega)]
     have HRR:=Lz hr
     clear hr ea eb ha0 hb0
     go_enter Tryz.func91,Tryz.ntmps91
     go_wp2_with fail
     go_quiet (fail)
     go_wp2_with fail
     go_ret
     exact⟨by rw[HRR.out];rfl,_,rfl⟩
   . have ea:decide (a<0)=false:=by simp[ha0]
     have eb:decide (b<0)=true:=by simp[hb0]
     rw[ea] at hx0
     rw[eb] at hy0
     have hr:cmpI a b=1:=by unfold cmpI;rw[if_neg (by omega),if_pos (by omega)]
     have HRR:=Lz hr
     clear hr ea eb ha0 hb0
     go_enter Tryz.func91,Tryz.ntmps91
     go_wp2_with fail
     go_quiet (fail)
     go_wp2_with fail
     go_ret
     exact⟨by rw[HRR.out];rfl,_,rfl⟩
   . have ea:decide (a<0)=false:=by simp[ha0]
     have eb:decide (b<0)=false:=by simp[hb0]
     rw[ea] at hx0
     rw[eb] at hy0
     have hr:cmpI a b=sgn a.natAbs b.natAbs:=cmpI_pos (by omega) (by omega)
     have HRR:=Lz hr
     have hsw:IntKind.i64.wrap (-(sgn a.natAbs b.natAbs))=-(sgn a.natAbs b.natAbs):=by unfold sgn;split <;> (try split) <;> decide
     generalize sgn a.natAbs b.natAbs=sg at *
     clear hr ea eb ha0 hb0
     go_enter Tryz.func91,Tryz.ntmps91
     go_wp2_with fail
     go_quiet (fail)
     go_wp2_with fail
     go_quiet ((go_at_call 131;exact HCMP.out _ _))
     go_wp2_with fail
     go_ret
     exact⟨by rw[HRR.out];rfl,_,rfl⟩
end Go.Proofs.YtohhkjamddojmaaGreatDoor.Big
namespace Go.Proofs.YtohhkjamddojmaaGreatDoor.Big
open Go.RowKit
theorem Ints.sign {R:Nat->Prop} {w:World} {zs:List Nat} {vs:List Int} (h:Ints R w zs vs) {i z:Nat} {v v':Int} {b:Bool} (hi:zs[i]? = some z) (hv:vs[i]? = some v) (hR:¬R z) (hvv:v'.natAbs=v.natAbs) (hb:b=decide (v'<0)) :
 Ints R (w.setCell ⟨z,0,.none⟩ (.bool b)) zs (vs.set i v')/\Kept R w (w.setCell ⟨z,0,.none⟩ (.bool b)):=by
 obtain⟨ps,qs,h⟩:=h
 obtain⟨v0,p,q,hv0,hp,hq,o⟩:=h.at hi
 obtain rfl:v=v0:=by rw[hv] at hv0;exact Option.some.inj hv0
 have hset:Grow w (w.setCell ⟨z,0,.none⟩ (.bool b)) (λk=>k=z):=(Grow.of (zzw w z 0 _)).weaken (λk _ e=>by cases e;rfl)
 have ho:One (w.setCell ⟨z,0,.none⟩ (.bool b)) z v' p q:=by
  subst hb
  refine⟨?_,?_⟩
  . rw[hvv];exact o.str.set0 _
  . rw[hvv];exact o.num.grow hset (λc hc e=>h.zp i i z p hi hp (e ▸ hc))
 obtain⟨hF,hK⟩:=h.write hi hp hR (hset.weaken (λ_ _ e=>.inl e)) ho (Fresh.refl w p)
 exact⟨⟨_,_,hF⟩,hK⟩
theorem Ints.cells {R:Nat->Prop} {w:World} {zs:List Nat} {vs:List Int} (h:Ints R w zs vs) {i z:Nat} {v:Int} (hi:zs[i]? = some z) (hv:vs[i]? = some v) :
 w.cell? ⟨z,0,.none⟩=some (.bool (decide (v<0)))/\w.frozen? ⟨z,0,.none⟩=false/\∃ p c,w.cell? ⟨z,1,.none⟩=some (.slice p (dg v.natAbs).length c):=by
 obtain⟨ps,qs,h⟩:=h
 obtain⟨v0,p,q,hv0,hp,hq,o⟩:=h.at hi
 obtain rfl:v=v0:=by rw[hv] at hv0;exact Option.some.inj hv0
 exact⟨o.str.cell0,o.str.free 0,p,q.length,o.str.cell1⟩
theorem Int_Abs {R:Nat->Prop} {w:World} {zs:List Nat} {vs:List Int} (h:Ints R w zs vs) (i j z x:Nat) (a:Int) (hi:zs[i]? = some z) (hj:zs[j]? = some x) (hR:¬R z) (ha:vs[j]? = some a) (hla:(dg a.natAbs).length<=80000) (hlv:i<vs.length) :
 Calls Tryz.prog 191 #[ptr z,ptr x] w (IntP R zs (vs.set i (a.natAbs:Int)) z w):=by
 have H:=Lz (Int_Set h i j z x a hi hj hR ha hla)
 have HI:=Lz hi
 have HR:=Lz hR
 have HV:=Lz (List.getElem?_set_self hlv (a:=a))
 clear h hi hj hR ha hla
 unfold ptr at *
 go_enter Tryz.func191,Tryz.ntmps191
 go_wp2_with fail
 refine H.out.mono ?_
 rintro e w1 ⟨rfl,hI,hK⟩
 obtain⟨hc0,hf0,-⟩:=hI.cells HI.out HV.out
 obtain⟨h1,h2⟩:=hI.sign (v':=(a.natAbs:Int)) (b:=false) HI.out HV.out HR.out (by simp) (by simp)
 rw[List.set_set] at h1
 have H1:=Lz h1
 have H2:=Lz (hK.trans h2)
 clear hI hK h1 h2
 unfold ptr
 go_wp2_with fail
 go_ret
 exact⟨rfl,H1.out,H2.out⟩
end Go.Proofs.YtohhkjamddojmaaGreatDoor.Big
namespace Go.Proofs.YtohhkjamddojmaaGreatDoor.Big
open Go.RowKit
theorem Int_SetInt64 {R:Nat->Prop} {w:World} {zs:List Nat} {vs:List Int} (h:Ints R w zs vs) (i z n:Nat) (hi:zs[i]? = some z) (hR:¬R z) (hn:n<9223372036854775808) :
 Calls Tryz.prog 104 #[ptr z,.int .i64 n] w (IntP R zs (vs.set i (n:Int)) z w):=by
 obtain⟨ps,qs,h⟩:=h
 obtain⟨v,p,q,hv,hp,hq,oz⟩:=h.at hi
 have hpz:blk p≠some z:=h.zp i i z p hi hp
 have hnB:n<B64:=by unfold B64;omega
 have HOP:=Lz (nat_setUint64 p (dg v.natAbs).length n q w oz.num.buf hnB)
 have hz1:=oz.str.cell1
 have HF:=Lz h
 have HSZ:=Lz oz.str
 have HPZ:=Lz hpz
 have HHI:=Lz hi
 have HHP:=Lz hp
 have HHR:=Lz hR
 have HD:=Lz (dg_one hnB)
 have hlt:¬(n:Int)<0:=by omega
 have hw:IntKind.u64.wrap (n:Int)=(n:Int):=IntWalk.u64_in _ (by omega)
 have HNA:=Lz (show false=decide ((n:Int)<0) by simp)
 clear h hi hR hv hp hq oz hpz hn hnB
 unfold ptr
 go_enter Tryz.func104,Tryz.ntmps104
 go_upto_region 5 with fail
 go_cut [] from 10 (λwx=>zxy w z p (decide (v<0)) n wx)
 case first=>
  go_wp2_with fail
  refine HOP.out.mono ?_
  rintro e w1 ⟨p',q',rfl,hn,hg,hf⟩
  have hsz:=HSZ.out.grow (Grow.of hg) HPZ.out
  have hc1:=hsz.cell1
  have hf1:=hsz.free 1
  have HN:=Lz hn
  have HG:=Lz hg
  have HFr:=Lz hf
  clear hn hg hf hsz
  go_wp2_with fail
  go_meet
  case rel=>rw[<-HD.out];exact zxy.of HSZ.out HPZ.out (zyz _ _) (by rw[HD.out];exact HN.out) HG.out HFr.out
 case rest=>
  have HA:=Lz hcut
  obtain⟨p',q',h1,h2,h3,h4,h5⟩:=hcut
  have hc0:=h1.cell0
  have hf0:=h1.free 0
  clear h1 h2 h3 h4 h5 hz1
  go_wp2_with fail
  go_ret
  exact⟨rfl,HA.out.finish HF.out HHI.out HHP.out HHR.out (by simp) HNA.out⟩
end Go.Proofs.YtohhkjamddojmaaGreatDoor.Big
namespace Go.Proofs.YtohhkjamddojmaaGreatDoor.Big
open Go.RowKit
end Go.Proofs.YtohhkjamddojmaaGreatDoor.Big
namespace Go.Proofs.YtohhkjamddojmaaGreatDoor.Big
open Go.RowKit
theorem Kept.cell {R:Nat->Prop} {w w':World} (h:Kept R w w') {b o:Nat} {v:Value} (hR:R b) (hc:w.cell? ⟨b,o,.none⟩=some v):w'.cell? ⟨b,o,.none⟩=some v:=by
 have hlt:b<w.heap.size:=by
  rcases Nat.lt_or_ge b w.heap.size with h'|h'
  . exact h'
  . simp[World.cell?,Array.getElem?_eq_none h'] at hc
 rw[<-hc]
 unfold World.cell?
 rw[h.block b hlt (λe=>e hR)]
theorem Tab.keptR {R:Nat->Prop} {w w':World} (h:Tab w) (hk:Kept R w w') (low:∀ k,k<8->R k):Tab w':=
 ⟨hk.cell (low 4 (by omega)) h.sqr,hk.cell (low 5 (by omega)) h.ksqr,hk.cell (low 6 (by omega)) h.kmul,hk.cell (low 7 (by omega)) h.kdiv⟩
theorem Kept.drew (R:Nat->Prop) (w:World) (n:Nat):Kept R w (w.drewN n):=Grow.none (zzz w n .none) _
theorem Ints.drewN {R:Nat->Prop} {w:World} {zs:List Nat} {vs:List Int} (h:Ints R w zs vs) (n:Nat):Ints R (w.drewN n) zs vs:=by
 obtain⟨ps,qs,h⟩:=h
 exact⟨ps,qs,⟨h.old,h.lenV,h.lenP,h.lenQ,λi z v p q h1 h2 h3 h4=>(h.one i z v p q h1 h2 h3 h4).grow (Grow.none (zzz w n .none) (λ_=>False)) id (λ_ _=>id),h.own,h.zz,h.pp,h.zp⟩⟩
structure Own (R:Nat->Prop) (w0 w:World) (L:List (Nat×Int)):Prop where
 ints:Ints R w (L.map Prod.fst) (L.map Prod.snd)
 kept:Kept R w0 w
 tab:Tab w
 low:∀ k,k<8->R k
theorem Own.drew {R:Nat->Prop} {w0 w:World} {L:List (Nat×Int)} (h:Own R w0 w L) (n:Nat):Own R w0 (w.drewN n) L:=
 ⟨h.ints.drewN n,h.kept.trans (Kept.drew R w n),h.tab.keptR (Kept.drew R w n) h.low,h.low⟩
theorem Own.since {R:Nat->Prop} {w0 w:World} {L:List (Nat×Int)} (h:Own R w0 w L):Own R w w L:=⟨h.ints,Kept.refl R w,h.tab,h.low⟩
theorem Own.after {R:Nat->Prop} {w0 w w':World} {L L':List (Nat×Int)} (h:Own R w0 w L) (h':Own R w w' L'):Own R w0 w' L':=⟨h'.ints,h.kept.trans h'.kept,h'.tab,h'.low⟩
theorem Own.step {R:Nat->Prop} {w0 w w':World} {L L':List (Nat×Int)} {zs:List Nat} {vs:List Int} (h:Own R w0 w L) (hi:Ints R w' zs vs) (hk:Kept R w w') (e1:zs=L'.map Prod.fst) (e2:vs=L'.map Prod.snd):Own R w0 w' L':=by
 subst e1 e2
 exact⟨hi,h.kept.trans hk,h.tab.keptR hk h.low,h.low⟩
theorem at1 {L:List (Nat×Int)} {i z:Nat} {v:Int} (h:L[i]? = some (z,v)):(L.map Prod.fst)[i]? = some z:=by rw[List.getElem?_map,h];rfl
theorem at2 {L:List (Nat×Int)} {i z:Nat} {v:Int} (h:L[i]? = some (z,v)):(L.map Prod.snd)[i]? = some v:=by rw[List.getElem?_map,h];rfl
theorem set1 {L:List (Nat×Int)} {i z:Nat} {v:Int} (h:L[i]? = some (z,v)) (u:Int):L.map Prod.fst=(L.set i (z,u)).map Prod.fst:=by
 rw[List.map_set];exact(set_same (at1 h)).symm
theorem set2 (L:List (Nat×Int)) (i z:Nat) (u:Int):(L.map Prod.snd).set i u=(L.set i (z,u)).map Prod.snd:=by rw[List.map_set]
def OpP (R:Nat->Prop) (w0:World) (z:Nat) (L:List (Nat×Int)) (e:Ending) (w':World):Prop:=e=.returned (ptr z)/\Own R w0 w' L
theorem OpP.of {R:Nat->Prop} {w0 w:World} {L:List (Nat×Int)} (h:Own R w0 w L) {i z:Nat} {v u:Int} (hi:L[i]? = some (z,v)) {e:Ending} {w':World} (hp:IntP R (L.map Prod.fst) ((L.map Prod.snd).set i u) z w e w') :
 OpP R w0 z (L.set i (z,u)) e w':=⟨hp.1,h.step hp.2.1 hp.2.2 (set1 hi u) (set2 L i z u)⟩
section
variable {R : Nat → Prop} {w0 w : World} {L : List (Nat × Int)}
theorem addO (h:Own R w0 w L) (i j k:Nat) {z x y:Nat} {v a b:Int} (hi:L[i]? = some (z,v)) (hj:L[j]? = some (x,a)) (hk:L[k]? = some (y,b)) (hR:¬R z) (sa:Sz 640000 a) (sb:Sz 640000 b) :
 Calls Tryz.prog 130 #[ptr z,ptr x,ptr y] w (OpP R w0 z (L.set i (z,a+b))):=
 (Int_Add h.ints i j k z x y a b (at1 hi) (at1 hj) (at1 hk) hR (at2 hj) (at2 hk) (Nat.le_trans (Sz.words (k:=10000) sa) (by decide)) (Nat.le_trans (Sz.words (k:=10000) sb) (by decide))).mono λ_ _ hp=>OpP.of h hi hp
theorem subO (h:Own R w0 w L) (i j k:Nat) {z x y:Nat} {v a b:Int} (hi:L[i]? = some (z,v)) (hj:L[j]? = some (x,a)) (hk:L[k]? = some (y,b)) (hR:¬R z) (sa:Sz 640000 a) (sb:Sz 640000 b) :
 Calls Tryz.prog 142 #[ptr z,ptr x,ptr y] w (OpP R w0 z (L.set i (z,a-b))):=
 (Int_Sub h.ints i j k z x y a b (at1 hi) (at1 hj) (at1 hk) hR (at2 hj) (at2 hk) (Nat.le_trans (Sz.words (k:=10000) sa) (by decide)) (Nat.le_trans (Sz.words (k:=10000) sb) (by decide))).mono λ_ _ hp=>OpP.of h hi hp
theorem mulO (h:Own R w0 w L) (i j k:Nat) {z x y:Nat} {v a b:Int} (hi:L[i]? = some (z,v)) (hj:L[j]? = some (x,a)) (hk:L[k]? = some (y,b)) (hR:¬R z) (sa:Sz 704 a) (sb:Sz 2496 b) :
 Calls Tryz.prog 124 #[ptr z,ptr x,ptr y] w (OpP R w0 z (L.set i (z,a*b))):=
 (Int_Mul h.ints i j k z x y a b (at1 hi) (at1 hj) (at1 hk) hR (at2 hj) (at2 hk) (Sz.words (k:=11) sa) (Sz.words (k:=39) sb) h.tab).mono λ_ _ hp=>OpP.of h hi hp
theorem setO (h:Own R w0 w L) (i j:Nat) {z x:Nat} {v a:Int} (hi:L[i]? = some (z,v)) (hj:L[j]? = some (x,a)) (hR:¬R z) (sa:Sz 640000 a) :
 Calls Tryz.prog 144 #[ptr z,ptr x] w (OpP R w0 z (L.set i (z,a))):=
 (Int_Set h.ints i j z x a (at1 hi) (at1 hj) hR (at2 hj) (Nat.le_trans (Sz.words (k:=10000) sa) (by decide))).mono λ_ _ hp=>OpP.of h hi hp
theorem setIntO (h:Own R w0 w L) (i n:Nat) {z:Nat} {v:Int} (hi:L[i]? = some (z,v)) (hR:¬R z) (hn:n<9223372036854775808) :
 Calls Tryz.prog 104 #[ptr z,.int .i64 n] w (OpP R w0 z (L.set i (z,(n:Int)))):=
 (Int_SetInt64 h.ints i z n (at1 hi) hR hn).mono λ_ _ hp=>OpP.of h hi hp
theorem signO (h:Own R w0 w L) (j:Nat) {x:Nat} {a:Int} (hj:L[j]? = some (x,a)) :
 Calls Tryz.prog 121 #[ptr x] w λe w'=>e=.returned (.int .i64 a.sign)/\w=w':=
 (Int_Sign h.ints j x a (at1 hj) (at2 hj)).mono λ_ _ hp=>⟨hp.1,hp.2.symm⟩
def NewO (R:Nat->Prop) (w0:World) (a:Int) (L:List (Nat×Int)) (e:Ending) (w':World):Prop:=∃ z,e=.returned (ptr z)/\Own R w0 w' ((z,a) :: L)/\¬R z
theorem newIntO (h:Own R w0 w L) (n:Nat) (hn:n<9223372036854775808):Calls Tryz.prog 119 #[.int .i64 n] w (NewO R w0 n L):=
 (newInt R w _ _ h.ints n hn).mono λ_ _ ⟨z,he,hi,hk,hR,_⟩=>⟨z,he,h.step (zs:=z :: L.map Prod.fst) (vs:=(n:Int) :: L.map Prod.snd) hi.front hk rfl rfl,hR⟩
theorem Own.new (h:Own R w0 w L):Own R w0 (w.alloc (.cells #[.bool false,.slice .none 0 0] 172)) ((w.heap.size,0) :: L)/\¬R w.heap.size:=by
 obtain⟨ps,qs,hf⟩:=h.ints
 obtain⟨h1,h2,h3⟩:=hf.extend (grow_alloc w _) (one_zero w) (Nat.le_refl _) (λb hb=>by cases hb) (by simp[blk])
 exact⟨h.step (zs:=w.heap.size :: L.map Prod.fst) (vs:=(0:Int) :: L.map Prod.snd) (Ints.front ⟨_,_,h1⟩) h2 rfl rfl,h3⟩
theorem Own.tail {p:Nat×Int} (h:Own R w0 w (p :: L)):Own R w0 w L:=⟨h.ints.tail,h.kept,h.tab,h.low⟩
theorem pick_map {α β : Type} (f:α → β) (l:List α) (is:List Nat):(pick l is).map f=pick (l.map f) is:=by
 unfold pick
 rw[List.map_filterMap]
 congr 1
 funext i
 simp
theorem Own.pick (h:Own R w0 w L) (is:List Nat) (hnd:is.Nodup) (hlt:∀ i∈is,i<L.length):Own R w0 w (pick L is):=
 ⟨by rw[pick_map,pick_map];exact h.ints.pick is hnd (by simpa using hlt),h.kept,h.tab,h.low⟩
theorem Own.inj (h:Own R w0 w L) {i j x y:Nat} {a b:Int} (hi:L[i]? = some (x,a)) (hj:L[j]? = some (y,b)) (hij:i≠j):x≠y:=by
 rintro rfl
 obtain⟨ps,qs,hf⟩:=h.ints
 exact hij (hf.zz i j x (at1 hi) (at1 hj))
theorem Own.lt (h:Own R w0 w L) {i x:Nat} {a:Int} (hi:L[i]? = some (x,a)):x<w.heap.size:=by
 obtain⟨ps,qs,hf⟩:=h.ints
 obtain⟨_,_,_,_,_,_,o⟩:=hf.at (at1 hi)
 exact o.str.lt
end
end Go.Proofs.YtohhkjamddojmaaGreatDoor.Big

set_option maxRecDepth 100000
set_option maxHeartbeats 16000000
namespace Go.Proofs.YtohhkjamddojmaaGreatDoor.Big
open Go.RowKit
theorem al_apart {p q:Option Addr} {cs:List Nat} {w:World} (hp:Buf w p cs) (h:Apart p q):al p q cs=false:=by
 unfold al
 rcases Nat.eq_zero_or_pos cs.length with h0|h0
 . simp[h0]
 . obtain⟨b,rfl,-⟩:=hp.at h0
   have:some (⟨b,0,.none⟩:Addr)≠q:=λe=>h b rfl (e ▸ rfl)
   simp[this]
theorem emod_of_tmod {a b:Int} (hb:b≠0):a%b=if a.tmod b<0 then(if b<0 then a.tmod b-b else a.tmod b+b) else a.tmod b:=by
 have h:=Int.tmod_eq_emod (a:=a) (b:=b)
 have h1:=Int.emod_nonneg a hb
 have h2:a%b<b.natAbs:=Int.emod_lt a hb
 rw[h]
 by_cases h3:0<=a\/b∣a
 . simp only[h3,if_true]
   rw[if_neg (by omega)];omega
 . simp only[h3,if_false]
   have h4:a%b≠0:=λe=>h3 (.inr (Int.dvd_of_emod_eq_zero e))
   rw[if_pos (by omega)]
   split <;> omega
theorem set_at {α : Type} {l:List α} {i:Nat} {a b:α} (h:l[i]? = some a):(l.set i b)[i]? = some b:=by
 rw[List.getElem?_set_self',h];rfl
theorem tmod_size {a b:Int} {n:Nat} (hb:Sz n b) (hb0:b≠0):Sz n (a.tmod b):=by
 unfold Sz at *
 rw[Int.natAbs_tmod]
 exact Nat.lt_trans (Nat.mod_lt _ (by omega)) hb
section
variable {R : Nat → Prop} {w0 w : World} {L : List (Nat × Int)}
theorem quoRemO (h:Own R w0 w L) (i j k m:Nat) {z x y r:Nat} {v a b u:Int} (hi:L[i]? = some (z,v)) (hj:L[j]? = some (x,a)) (hk:L[k]? = some (y,b)) (hm:L[m]? = some (r,u)) (him:i≠m) (hR:¬R z) (hR2:¬R r) (sa:Sz 640000 a) (hdiv:DivOK b.natAbs) :
 Calls Tryz.prog 157 #[ptr z,ptr x,ptr y,ptr r] w λe w'=>e=.returned (.tuple #[ptr z,ptr r])/\Own R w0 w' ((L.set i (z,a.tdiv b)).set m (r,a.tmod b)):=by
 obtain⟨ps,qs,hf⟩:=h.ints
 refine(quoRem R w _ _ ps qs hf i j k m z x y r a b (at1 hi) (at1 hj) (at1 hk) (at1 hm) him hR hR2 (at2 hj) (at2 hk) (Nat.le_trans (Sz.words (k:=10000) sa) (by decide)) hdiv h.tab).mono ?_
 rintro e w' ⟨he,hI,hK⟩
 refine⟨he,h.step hI hK ?_ ?_⟩
 . have hm':(L.set i (z,a.tdiv b))[m]? = some (r,u):=by rw[List.getElem?_set_ne him];exact hm
   rw[<-set1 hm',<-set1 hi]
 . rw[<-set2,<-set2]
theorem Own.cells (h:Own R w0 w L) {i z:Nat} {v:Int} (hi:L[i]? = some (z,v)) :
 w.cell? ⟨z,0,.none⟩=some (.bool (decide (v<0)))/\w.frozen? ⟨z,0,.none⟩=false/\∃ p c,w.cell? ⟨z,1,.none⟩=some (.slice p (dg v.natAbs).length c):=h.ints.cells (at1 hi) (at2 hi)
theorem Own.eq_other (h:Own R w0 w L) {i k z y:Nat} {v b:Int} (hi:L[i]? = some (z,v)) (hk:L[k]? = some (y,b)) (hik:i≠k) :
 (∀ n,(binOp .eql 108 (ptr z) (ptr y)).run Tryz.prog (w.drewN n)=.ok (.bool false) (w.drewN n))/\∃ p q l lz ly d,w.cell? ⟨z,1,.none⟩=some (.slice p lz l)/\w.cell? ⟨y,1,.none⟩=some (.slice q ly d) ∧
  ∀ n,Calls Tryz.prog 156 #[.slice p lz l,.slice q ly d] (w.drewN n) λe w'=>e=.returned (.bool false)/\∃ m,w'=(w.drewN n).drewN m:=by
 obtain⟨ps,qs,hf⟩:=h.ints
 obtain⟨v',p,q,hv,hp,hq,oz⟩:=hf.at (at1 hi)
 obtain⟨b',py,dy,hb,hpy,hqy,oy⟩:=hf.at (at1 hk)
 have hap:Apart p py:=λc h1 h2=>hik (hf.pp i k p py c hp hpy h1 h2)
 refine⟨λn=>eq_int_other (w:=w.drewN n) oz.str oy.str (h.inj hi hk hik),p,py,_,_,_,_,oz.str.cell1,oy.str.cell1,λn=>?_⟩
 have:=nat_alias p py (dg v'.natAbs).length (dg b'.natAbs).length q dy (w.drewN n) (oz.num.buf.kept (zzz _ _ .none) (λ_ _=>by simp)) (oy.num.buf.kept (zzz _ _ .none) (λ_ _=>by simp))
 rwa [al_apart oz.num.buf hap] at this
theorem modO (h:Own R w0 w L) (i j k:Nat) {z x y:Nat} {v a b:Int} (hi:L[i]? = some (z,v)) (hj:L[j]? = some (x,a)) (hk:L[k]? = some (y,b)) (hik:i≠k) (hR:¬R z) (sa:Sz 630000 a) (sb:Sz 630000 b) (hdiv:DivOK b.natAbs) (hb0:b≠0) :
 Calls Tryz.prog 125 #[ptr z,ptr x,ptr y] w (OpP R w0 z (L.set i (z,a%b))):=by
 obtain⟨he,p,q,l,lz,ly,d,hz1,hy1,hal⟩:=h.eq_other hi hk hik
 have HAL:=Lz λn=>Calls.quiet_of (w:=w) (n:=n) (hal n)
 have HS:=Lz h
 have HHI:=Lz hi
 have HHJ:=Lz hj
 have HHK:=Lz hk
 have HIK:=Lz hik
 have HHR:=Lz hR
 have SA:=Lz sa
 have SB:=Lz sb
 have HD:=Lz hdiv
 have HB0:=Lz hb0
 clear h hi hj hk hik hR sa sb hdiv hb0 hal
 unfold ptr at *
 go_enter Tryz.func125,Tryz.ntmps125
 go_wp2_with fail
 go_quiet ((go_at_call 156;exact HAL.out _))
 go_wp2_with fail
 obtain⟨hN,hNR⟩:=HS.out.new
 refine(quoRemO (hN.drew nq) 0 (j+1) (k+1) (i+1) rfl HHJ.out HHK.out HHI.out (by omega) hNR HHR.out (SA.out.le (by decide)) HD.out).mono ?_
 rintro e w1 ⟨rfl,hq⟩
 have hT:Own R w0 w1 (L.set i (z,a.tmod b)):=Own.tail hq
 have hiz:(L.set i (z,a.tmod b))[i]? = some (z,a.tmod b):=set_at HHI.out
 have hky:(L.set i (z,a.tmod b))[k]? = some (y,b):=by rw[List.getElem?_set_ne HIK.out];exact HHK.out
 obtain⟨hz0,-,-⟩:=hT.cells hiz
 obtain⟨hy0,-,-⟩:=hT.cells hky
 have HT:=Lz hT
 have HIZ:=Lz hiz
 have HKY:=Lz hky
 have HE:=Lz (emod_of_tmod (a:=a) HB0.out)
 clear hN hNR hq hT hiz hky he
 by_cases hc:a.tmod b<0
 . have HC:=Lz hc
   have hd:decide (a.tmod b<0)=true:=by simp[hc]
   rw[hd] at hz0
   have sm:Sz 630000 (a.tmod b):=tmod_size SB.out HB0.out
   by_cases hbn:b<0
   . have HV:=Lz (show a%b=a.tmod b-b by rw[HE.out,if_pos hc,if_pos hbn])
     have hd2:decide (b<0)=true:=by simp[hbn]
     rw[hd2] at hy0
     clear hc hbn hd hd2
     go_wp2_with fail
     refine(subO HT.out i i k HIZ.out HIZ.out HKY.out HHR.out (sm.le (by decide)) (SB.out.le (by decide))).mono ?_
     rintro e w2 ⟨rfl,h2⟩
     rw[List.set_set,<-HV.out] at h2
     have H2:=Lz h2
     clear h2
     go_wp2_with fail
     go_ret
     exact⟨rfl,H2.out⟩
   . have HV:=Lz (show a%b=a.tmod b+b by rw[HE.out,if_pos hc,if_neg hbn])
     have hd2:decide (b<0)=false:=by simp[hbn]
     rw[hd2] at hy0
     clear hc hbn hd hd2
     go_wp2_with fail
     refine(addO HT.out i i k HIZ.out HIZ.out HKY.out HHR.out (sm.le (by decide)) (SB.out.le (by decide))).mono ?_
     rintro e w2 ⟨rfl,h2⟩
     rw[List.set_set,<-HV.out] at h2
     have H2:=Lz h2
     clear h2
     go_wp2_with fail
     go_ret
     exact⟨rfl,H2.out⟩
 . have HV:=Lz (show a%b=a.tmod b by rw[HE.out,if_neg hc])
   have hd:decide (a.tmod b<0)=false:=by simp[hc]
   rw[hd] at hz0
   clear hc hd
   go_wp2_with fail
   go_ret
   exact⟨rfl,by rw[HV.out];exact HT.out⟩
end
end Go.Proofs.YtohhkjamddojmaaGreatDoor.Big
namespace Go.Proofs.YtohhkjamddojmaaGreatDoor.Big
open Go.RowKit
section
variable {R : Nat → Prop} {w0 w : World} {L : List (Nat × Int)}
theorem intOneO (h:Own R w0 w L):Calls Tryz.prog 153 #[] w (NewO R w0 1 L):=by
 have K:NewO R w0 1 L (.returned (ptr (w.heap.size+1))) ((w.alloc (.cells (wds [1]) 199)).alloc (.cells #[.bool false,.slice (some ⟨w.heap.size,0,.none⟩) 1 1] 172)):=by
  obtain⟨ps,qs,hf⟩:=h.ints
  obtain⟨h1,h2,h3⟩:=hf.extend ((grow_alloc w _).trans (grow_alloc _ _)) (one_word w 1 (by decide) (by decide)) (by omega) (λb hb=>by cases hb;exact Nat.le_refl _) (by simp[blk])
  exact⟨w.heap.size+1,rfl,h.step (zs:=(w.heap.size+1) :: L.map Prod.fst) (vs:=(1:Int) :: L.map Prod.snd) (Ints.front ⟨_,_,h1⟩) h2 rfl rfl,h3⟩
 have HK:=Lz K
 clear h K
 go_enter Tryz.func153,Tryz.ntmps153
 go_wp2
 go_ret
 exact HK.out
end
end Go.Proofs.YtohhkjamddojmaaGreatDoor.Big
