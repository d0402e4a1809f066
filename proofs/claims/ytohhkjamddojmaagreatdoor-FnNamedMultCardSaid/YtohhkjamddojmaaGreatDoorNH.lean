/- Long division: divLarge. -/
import Derived.Test.YtohhkjamddojmaaGreatDoorNF
import Derived.Test.YtohhkjamddojmaaGreatDoorNB
set_option maxRecDepth 100000
set_option maxHeartbeats 16000000
namespace Go.Proofs.YtohhkjamddojmaaGreatDoor.Big
open Go.RowKit
attribute [local go_sem] ptr
structure Scaled (a b s n k:Nat) (Ys Xs:List Nat):Prop where
 ly:Ys.length=n
 lx:Xs.length=k+1
 wy:Words Ys
 wx:Words Xs
 vy:val Ys=b*2^s
 vx:val Xs=a*2^s
theorem Scaled.tops {a b s n k:Nat} {Ys Xs:List Nat} (h:Scaled a b s n k Ys Xs) (hs:s<=63) (h1:1<=n) (ha:a<B64^k) (hb:B64^n<=2*(b*2^s)):B64<=2*Ys.getD (n-1) 0/\Xs.getD k 0<Ys.getD (n-1) 0:=by
 obtain⟨m,rfl⟩:∃ m,n=m+1:=⟨n-1,by omega⟩
 rw[Nat.add_sub_cancel]
 have e1:val Ys=val (Ys.take m)+B64^m*Ys.getD m 0:=by
  have e:Ys=Ys.take (m+1):=by rw[List.take_of_length_le (by rw[h.ly];exact Nat.le_refl _)]
  conv=>lhs;rw[e]
  rw[zwy _ _ (by rw[h.ly];exact Nat.lt_succ_self m),zyk,List.length_take,Nat.min_eq_left (by rw[h.ly];exact Nat.le_succ m)]
 have e2:val Xs=val (Xs.take k)+B64^k*Xs.getD k 0:=by
  have e:Xs=Xs.take (k+1):=by rw[List.take_of_length_le (by rw[h.lx];exact Nat.le_refl _)]
  conv=>lhs;rw[e]
  rw[zwy _ _ (by rw[h.lx];exact Nat.lt_succ_self k),zyk,List.length_take,Nat.min_eq_left (by rw[h.lx];exact Nat.le_succ k)]
 have l1:=val_lt (Ys.take m) (h.wy.take _)
 rw[List.length_take,Nat.min_eq_left (by rw[h.ly];exact Nat.le_succ m)] at l1
 rw[h.vy] at e1
 rw[h.vx] at e2
 have hp:=Nat.pow_pos (n:=m) zxw
 have hp2:=Nat.pow_pos (n:=k) zxw
 have t1:B64<=2*Ys.getD m 0:=by
  generalize Ys.getD m 0=y at *
  generalize val (Ys.take m)=r at *
  have h3:B64^m*B64<B64^m*(2*(y+1)):=by
   show B64^(m+1)<_
   have:B64^m*(2*(y+1))=2*(B64^m*y)+2*B64^m:=by rw[Nat.mul_left_comm,Nat.mul_add,Nat.mul_add,Nat.mul_one]
   omega
  have h4:=Nat.lt_of_mul_lt_mul_left h3
  have:B64=2*9223372036854775808:=rfl
  omega
 refine⟨t1,?_⟩
 have h5:Xs.getD k 0<2^s:=by
  generalize Xs.getD k 0=x at *
  generalize val (Xs.take k)=r at *
  have h6:B64^k*x<B64^k*2^s:=by
   have:=Nat.mul_lt_mul_of_pos_right ha (Nat.pow_pos (n:=s) (show 0<2 by decide))
   omega
  exact Nat.lt_of_mul_lt_mul_left h6
 have h7:2^s<=2^63:=Nat.pow_le_pow_right (by decide) hs
 have:B64=2*2^63:=by decide
 omega
theorem scaled_rest {a b s q r:Nat} (h:r+q*(b*2^s)=a*2^s) (hr:r<b*2^s):q=a/b/\r/2^s=a%b:=by
 have hp:0<2^s:=Nat.pow_pos (by decide)
 have e1:a*2^s/(b*2^s)=q:=by
  rw[<-h,Nat.add_mul_div_right _ _ (by omega),Nat.div_eq_of_lt hr,Nat.zero_add]
 have e2:a*2^s%(b*2^s)=r:=by
  rw[<-h,Nat.add_mul_mod_self_right,Nat.mod_eq_of_lt hr]
 rw[Nat.mul_div_mul_right _ _ hp] at e1
 rw[Nat.mul_mod_mul_right] at e2
 exact⟨e1.symm,by rw[<-e2,Nat.mul_div_cancel _ hp]⟩
theorem shlC_zero {s:Nat} {Y:List Nat} {b n:Nat} (hs:s<=63) (hY:val Y=b) (hl:Y.length=n) (hb:b*2^s<B64^n):shlC s 0 Y=0:=by
 have:=shl_val hs Y 0
 rw[hY,hl,Nat.add_zero] at this
 rcases Nat.eq_zero_or_pos (shlC s 0 Y) with h|h
 . exact h
 . have:=Nat.le_mul_of_pos_right (B64^n) h
   omega
theorem norm_bounds {b n y s:Nat} (hn:n=(dg b).length) (h1:1<=n) (hy:y=(dg b).getD (n-1) 0) (hyB:y<B64) (hy0:y≠0) (hs:s=lz y):b*2^s<B64^n/\B64^n<=2*(b*2^s):=by
 obtain⟨-,s63,nB,nB2⟩:=lz_facts hyB hy0
 unfold nrm at nB nB2
 rw[<-hs] at s63 nB nB2
 obtain⟨m,rfl⟩:∃ m,n=m+1:=⟨n-1,by omega⟩
 rw[Nat.add_sub_cancel] at hy
 have e2:b=val ((dg b).take m)+B64^m*y:=by
  have e:dg b=(dg b).take (m+1):=by rw[List.take_of_length_le (by omega)]
  conv=>lhs;rw[<-val_dg b,e]
  rw[zwy _ _ (by omega),zyk,List.length_take,Nat.min_eq_left (by omega),hy]
 have e3:=val_lt _ ((dg_words b).take m)
 rw[List.length_take,Nat.min_eq_left (by omega)] at e3
 generalize val ((dg b).take m)=r at *
 have hp:0<2^s:=Nat.pow_pos (by decide)
 have hB:B64=2^(64-s)*2^s:=(sh_pow s63).symm
 have hy2:y+1<=2^(64-s):=by
  rw[hB] at nB
  exact Nat.lt_of_mul_lt_mul_right nB
 constructor
 . have h3:b<B64^m*(y+1):=by rw[Nat.mul_add,Nat.mul_one];omega
   have h4:=Nat.mul_lt_mul_of_pos_right h3 hp
   have h5:B64^m*(y+1)*2^s<=B64^(m+1):=by
    rw[Nat.mul_assoc]
    show _<=B64^m*B64
    refine Nat.mul_le_mul_left _ ?_
    conv=>rhs;rw[hB]
    exact Nat.mul_le_mul_right _ hy2
   omega
 . have h3:B64^m*y<=b:=by omega
   have h4:=Nat.mul_le_mul_right (2^s) h3
   have h5:B64^(m+1)<=B64^m*(2*(y*2^s)):=Nat.mul_le_mul_left (B64^m) nB2
   have h6:B64^m*(2*(y*2^s))=2*(B64^m*y*2^s):=by ac_rfl
   omega
theorem num_of {w:World} {b m:Nat} {L X:List Nat} (hB:Buf w (some ⟨b,0,.none⟩) L) (ht:L.take m=X):Num w (some ⟨b,0,.none⟩) (dg (val X)) L:=by
 have hw:Words X:=by rw[<-ht];exact hB.2.1.take _
 rw[<-norm_dg X hw]
 have hl:=norm_length X
 have hXl:X.length<=m/\X.length<=L.length:=by rw[<-ht,List.length_take];exact⟨Nat.min_le_left _ _,Nat.min_le_right _ _⟩
 refine⟨hB,?_,by omega⟩
 have e:L.take (norm X).length=(L.take m).take (norm X).length:=by rw[List.take_take,Nat.min_eq_left (by omega)]
 rw[e,ht,norm_take]
theorem norm_of {w:World} {b m c:Nat} {L X:List Nat} (hB:Buf w (some ⟨b,0,.none⟩) L) (ht:L.take m=X) (hm:m<=L.length) (hc:L.length=c) :
 Calls Tryz.prog 171 #[.slice (some ⟨b,0,.none⟩) m c] w (λe w'=>e=.returned (.slice (some ⟨b,0,.none⟩) (dg (val X)).length c)/\w=w'):=by
 have h:=nat_norm (some ⟨b,0,.none⟩) m L w hB hm
 unfold NormP at h
 rw[ht,norm_dg X (by rw[<-ht];exact hB.2.1.take _),hc] at h
 exact h
theorem Grow.ts {N:Nat} {a b c:World} {S:Nat->Prop} (h:Grow a b (λk=>S k\/TS N a k)) (g:Grow b c (λk=>S k\/TS N b k)):Grow a c (λk=>S k\/TS N a k):=
 ⟨g.os.trans h.os,g.tape.trans h.tape,g.output.trans h.output,Nat.le_trans h.size g.size,λi hi hr=>by
  have e:=h.block i hi hr
  refine(g.block i (Nat.lt_of_lt_of_le hi h.size) (λhh=>hr ?_)).trans e
  rcases hh with hh|⟨h1,v,T,h2,h3⟩
  . exact .inl hh
  . exact .inr ⟨h1,v,T,by rw[<-e];exact h2,h3⟩⟩
def DivLP (N s:Nat) (p p2:Option Addr) (a b:Nat) (w:World) (e:Ending) (w':World):Prop:=
 ∃ p' cs' q' ds',e=.returned (.tuple #[.slice p' (dg (a/b)).length cs'.length,.slice q' (dg (a%b)).length ds'.length])/\Num w' p' (dg (a/b)) cs'/\Num w' q' (dg (a%b)) ds' ∧
  Grow w w' (λk=>(blk p=some k\/blk p2=some k)\/TS N w k)/\Fresh w p p'/\Fresh w p2 q'/\Apart p' q'/\Stk N s w'
theorem divLarge (N st:Nat) (p p2 q q2:Option Addr) (l l2 a b n k:Nat) (cs cs2 ds es:List Nat) (w:World) (hs:StkZ N st w) (h8:8<=N) (hN:N<=w.heap.size) (h:Buf w p cs) (h2:Buf w p2 cs2) (hap:Apart p p2) (hx:Num w q (dg a) ds) (hy:Num w q2 (dg b) es) (hk:k=(dg a).length) (hn:n=(dg b).length)
 (hX:k<=80000) (hn2:2<=n) (hn4:n<=4) (hle:n<=k) (htab:Tab w) :
 Calls Tryz.prog 212 #[.slice p l cs.length,.pointer (some ⟨st,0,.none⟩),.slice p2 l2 cs2.length,.slice q k ds.length,.slice q2 n es.length] w (DivLP N st p p2 a b w):=by
 obtain⟨bx,rfl,hxN,hxc⟩:=hx.cell (by omega)
 obtain⟨bq,rfl,hyN,hyc⟩:=hy.cell (by omega)
 obtain⟨y,hyt⟩:∃ y,y=(dg b).getD (n-1) 0:=⟨_,rfl⟩
 have hb0:b≠0:=by rintro rfl;rw[zyv] at hn;simp at hn;omega
 have hyB:y<B64:=by rw[hyt];exact(dg_words b).getD _
 have hy0:y≠0:=by
  intro h0
  have e1:=dg_last hb0
  have e2:val (dg b)=val ((dg b).take (n-1))+B64^(n-1)*y:=by
   have e:dg b=(dg b).take (n-1+1):=by rw[List.take_of_length_le (by omega)]
   conv=>lhs;rw[e]
   rw[zwy _ _ (by omega),zyk,List.length_take,Nat.min_eq_left (by omega),hyt]
  have e3:=val_lt _ ((dg_words b).take (n-1))
  rw[List.length_take,Nat.min_eq_left (by omega)] at e3
  rw[val_dg,h0,Nat.mul_zero] at e2
  rw[<-hn] at e1
  omega
 have H8:=Lz h8
 clear h8
 have HNB:=Lz (λs (h:s=lz y)=>norm_bounds (s:=s) hn (by omega) hyt hyB hy0 h)
 have HL:=Lz (And.intro hk (And.intro hn (And.intro hX (And.intro hn2 (And.intro hn4 (And.intro hle (And.intro hb0 (And.intro hyB hy0))))))))
 have HI:=Lz (And.intro hs (And.intro hN (And.intro h (And.intro h2 (And.intro hap (And.intro hx (And.intro hy (And.intro hxN (And.intro hyN htab)))))))))
 obtain⟨m,hm⟩:∃ m,m=k-n:=⟨_,rfl⟩
 obtain⟨n1,hn1⟩:∃ n1,n1=n-1:=⟨_,rfl⟩
 obtain⟨k1,hk1⟩:∃ k1,k1=k+1:=⟨_,rfl⟩
 obtain⟨m1,hm1⟩:∃ m1,m1=m+1:=⟨_,rfl⟩
 have HM:=Lz (And.intro hm (And.intro hn1 (And.intro hk1 hm1)))
 have W1:=Lz (show wrap64 ((k:Int)-(n:Int))=m from wrapN (by omega) (by omega))
 have W2:=Lz (show wrap64 ((n:Int)-1)=n1 from wrapN (by omega) (by omega))
 have W3:=Lz (show wrap64 ((k:Int)+1)=k1 from wrapN (by omega) (by omega))
 have W4:=Lz (show wrap64 ((m:Int)+1)=m1 from wrapN (by omega) (by omega))
 have i1:(n1:Int)<n:=by omega
 have cy:=hyc n1 (by omega)
 rw[hn1,<-hyt,<-hn1] at cy
 have HSV:=Lz (saveZ hs)
 have HNL:=Lz (nlz y hyB hy0)
 have HST:=Lz (λw (hs:StkZ N st w)=>natZ (n:=n) hs hn2 hn4)
 obtain⟨sh,hsh⟩:∃ sh,sh=lz y:=⟨_,rfl⟩
 rw[<-hsh] at HNL
 have HSH:=Lz hsh
 have w1:=W1.out
 have w2:=W2.out
 have w3:=W3.out
 clear hs hN h h2 hap hx hy hxN hyN htab hxc hyc hyt hb0 hyB hy0 hk hn hX hn2 hn4 hle hm hn1 hk1 hm1 hsh
 unfold wd at *
 go_enter_defers Tryz.func212,Tryz.ntmps212
 go_wp2_with fail
 refine HSV.out.mono ?_
 rintro e wa ⟨rfl,rfl⟩
 go_wp2_with fail
 refine(HNL.out _).mono ?_
 rintro e wa ⟨rfl,rfl⟩
 go_wp2_with fail
 refine(HST.out _ HI.out.1).mono ?_
 rintro e w1' ⟨⟨bv,cv,zs,rfl,x1,x2,x3,x4,x5,x6,x7,x8⟩,x9⟩
 have HV:=Lz (And.intro x1 (And.intro x2 (And.intro x3 (And.intro x4 (And.intro x5 (And.intro x6 (And.intro x7 (And.intro x8 x9))))))))
 have hb2:Buf w1' p2 cs2:=HI.out.2.2.2.1.grow x7 (λb hb=>by
  rcases HI.out.2.2.2.1.1 with⟨rfl,_⟩|⟨c,rfl,hN⟩
  . cases hb
  . cases hb;exact TS.row hN)
 have HMK:=Lz (nat_make p2 l2 k1 cs2 w1' hb2 (by have:=HL.out;have:=HM.out;clear w1 w2 w3;omega))
 clear x1 x2 x3 x4 x5 x6 x7 x8 x9 hb2 HST HNL HSV cy
 go_wp2_with fail
 refine HMK.out.mono ?_
 rintro e w2' ⟨pu,us,rfl,x1,x2,x3,x4⟩
 obtain⟨bu,rfl,hu⟩:=x1.at (by have:=HM.out;clear w1 w2 w3;omega)
 -- where all lies
 have hst2:StkZ N st w2':=HV.out.2.2.2.2.2.2.2.2.kept (Grow.none x3 (λ_=>False)) (λ_ e=>e.elim)
 have g2:Grow wa w2' (TS N wa):=TS.trans HV.out.2.2.2.2.2.2.1 (Grow.none x3 _)
 have hv2:NatB w2' bv zs:=HV.out.2.2.1.kept x3 (by simp)
 have hfu:Fresh wa p2 (some ⟨bu,0,.none⟩):=by
  rcases x4 with⟨e,-,-,-⟩|⟨e,-⟩
  . exact .inl e
  . refine .inr λb hb=>?_
    rw[e] at hb
    cases hb
    exact HV.out.2.2.2.2.2.2.1.size
 have hne:bu≠bv:=by
  rcases x4 with⟨e,-,-,-⟩|⟨e,-⟩
  . have h1:=HI.out.2.2.2.1.lt bu (by rw[<-e];rfl)
    have h2:=HV.out.2.2.2.2.2.1
    clear w1 w2 w3
    omega
  . have h1:=HV.out.2.2.1.lt
    have e2:bu=w1'.heap.size:=congrArg Addr.block (Option.some.inj e)
    clear w1 w2 w3
    omega
 have hxo:NatB w2' bx ds:=HI.out.2.2.2.2.2.2.2.1.stk g2
 have hyo:NatB w2' bq es:=HI.out.2.2.2.2.2.2.2.2.1.stk g2
 have HW:=Lz (And.intro hst2 (And.intro g2 (And.intro hv2 (And.intro hu (And.intro hfu (And.intro hne (And.intro hxo (And.intro hyo (And.intro x1 x2)))))))))
 have htk:(ds.drop 0).take k=dg a:=by rw[List.drop_zero,HL.out.1];exact HI.out.2.2.2.2.2.1.take
 have hty:(es.drop 0).take n=dg b:=by rw[List.drop_zero,HL.out.2.1];exact HI.out.2.2.2.2.2.2.1.take
 have HT:=Lz (And.intro htk hty)
 clear hst2 g2 hv2 hu hfu hne hxo hyo x1 x2 x3 x4 htk hty HMK
 go_upto_if 40 with fail
 go_cut [] from 40 (λwx=>∃ Ys Xs,RowKit.Hid (Scaled a b sh n k Ys Xs/\NatB wx bv (spl zs 0 Ys)/\NatB wx bu (spl us 0 Xs)/\StkZ N st wx/\Grow wa wx (λk=>k=bu\/TS N wa k)))
 case first=>
  by_cases hs0:sh=0
  . have e1:((sh:Int)==0)=true:=by rw[hs0];rfl
    obtain⟨hst2,g2,hv2,hu,hfu,hne,hxo,hyo,hbu,hk1u⟩:=HW.out
    have hks:k<us.length:=by have:=HM.out;clear w1 w2 w3;omega
    have hbv:=HV.out.2.2.2.2.2.1
    have hxl:=HI.out.2.2.2.2.2.2.2.1.lt
    obtain⟨w3',hcp1,z1,y2⟩:=copy_part w2' (some ⟨bv,0,.none⟩) (some ⟨bq,0,.none⟩) bv 0 cv bq 0 es.length n zs es hv2 hyo (by rw[Nat.zero_add];exact HV.out.2.2.2.1) (by rw[Nat.zero_add,HL.out.2.1];exact HI.out.2.2.2.2.2.2.1.le) (λ_=>rfl) (λ_=>rfl) 170 Tryz.underlying170
    have hu3:NatB w3' bu us:=hu.kept y2 (by intro e;exact hne (Option.some.inj e))
    have hx3:NatB w3' bx ds:=hxo.kept y2 (by intro e;have:=Option.some.inj e;clear w1 w2 w3;omega)
    obtain⟨w4',hcp2,z3,z2⟩:=copy_part w3' (some ⟨bu,0,.none⟩) (some ⟨bx,0,.none⟩) bu 0 us.length bx 0 ds.length k us ds hu3 hx3 (by rw[Nat.zero_add];exact Nat.le_of_lt hks) (by rw[Nat.zero_add,HL.out.1];exact HI.out.2.2.2.2.2.1.le) (λ_=>rfl) (λ_=>rfl) 170 Tryz.underlying170
    rw[HT.out.1] at z3
    rw[HT.out.2] at z1
    have i2:(k:Int)<k1:=by have:=HM.out;clear w1 w2 w3;omega
    have i3:(k:Int)<=us.length:=by clear w1 w2 w3;omega
    have i4:(us.length:Int)<=9223372036854775807:=by have:=hbu.2.2;clear w1 w2 w3;omega
    have hXl:(dg a).length=k:=HL.out.1.symm
    have hsz:(spl us 0 (dg a)).length=us.length:=zzk (by rw[hXl,Nat.zero_add];exact Nat.le_of_lt hks)
    have cc:=z3.cell k (by rw[hsz];exact hks)
    have cf:=z3.free k
    have hset:=z3.set k 0
    have e2:=spl_set (zs:=us) (ks:=dg a) (o:=0) (v:=0) (by rw[hXl,Nat.zero_add];exact hks)
    rw[Nat.zero_add,hXl] at e2
    rw[e2] at hset
    have gs:=zzw w4' bu k (wd 0)
    have HF:=Lz (show Scaled a b sh n k (dg b) (dg a ++ [0])/\NatB (w4'.setCell ⟨bu,k,.none⟩ (wd 0)) bv (spl zs 0 (dg b))/\NatB (w4'.setCell ⟨bu,k,.none⟩ (wd 0)) bu (spl us 0 (dg a ++ [0]))/\StkZ N st (w4'.setCell ⟨bu,k,.none⟩ (wd 0))/\Grow wa (w4'.setCell ⟨bu,k,.none⟩ (wd 0)) (λk=>k=bu\/TS N wa k) from by
     refine⟨⟨HL.out.2.1.symm,by rw[List.length_append,hXl];rfl,dg_words b,(dg_words a).append (Words.one (by decide)),by rw[val_dg,hs0,Nat.pow_zero,Nat.mul_one],by rw[zyk,val_dg,hs0,Nat.pow_zero,Nat.mul_one,Nat.mul_zero,Nat.add_zero]⟩,?_,hset,?_,?_⟩
     . exact(z1.kept z2 (by intro e;exact hne (Option.some.inj e).symm)).kept gs (by intro e;exact hne (Option.some.inj e).symm)
     . refine((HW.out.1.kept (Grow.of y2) (λx e=>by obtain rfl:=Option.some.inj e;exact TS.row hv2)).kept (Grow.of z2) (λx e=>?_)).kept (Grow.of gs) (λx e=>?_)
       . obtain rfl:=Option.some.inj e
         exact TS.row hu3
       . obtain rfl:=Option.some.inj e
         exact TS.row z3
     . exact(((HW.out.2.1.weaken (λx _ e=>(.inr e:x=bu\/TS N wa x))).on_new y2 hbv).on_in z2 (.inl rfl)).on_in gs (.inl rfl))
    clear hst2 g2 hv2 hu hfu hne hxo hyo hbu hk1u hks hbv hxl hu3 hx3 z1 y2 z3 z2 hXl hsz hset e2 gs hs0
    unfold wd at *
    go_wp2_with fail
    go_meet
    case rel=>exact⟨_,_,HF.out⟩
  . have e1:((sh:Int)==0)=false:=by rw[beq_eq_false_iff_ne];clear w1 w2 w3;omega
    obtain⟨hst2,g2,hv2,hu,hfu,hne,hxo,hyo,hbu,hk1u⟩:=HW.out
    obtain⟨-,s63,nB,nB2⟩:=lz_facts HL.out.2.2.2.2.2.2.2.1 HL.out.2.2.2.2.2.2.2.2
    rw[<-HSH.out] at s63
    have hks:k<us.length:=by have:=HM.out;clear w1 w2 w3;omega
    have HL1:=lshVU bv 0 n cv bq 0 es.length sh zs es w2' hv2 hyo (by rw[Nat.zero_add];exact HV.out.2.2.2.1) (by rw[Nat.zero_add,HL.out.2.1];exact HI.out.2.2.2.2.2.2.1.le) HI.out.2.2.2.2.2.2.1.buf.2.1 (Nat.pos_of_ne_zero hs0) s63 (.inr (Nat.le_refl _)) (by have:=HL.out;clear w1 w2 w3;omega) (by have:=HL.out;clear w1 w2 w3;omega)
    rw[HT.out.2] at HL1
    have HLA:=Lz HL1
    have H1:=Lz (And.intro s63 hks)
    have i2:(k:Int)<k1:=by have:=HM.out;clear w1 w2 w3;omega
    have i3:(k:Int)<=us.length:=by clear w1 w2 w3;omega
    have i4:(us.length:Int)<=9223372036854775807:=by have:=hbu.2.2;clear w1 w2 w3;omega
    clear hst2 g2 hv2 hu hfu hne hxo hyo hbu hk1u s63 nB nB2 hks HL1 hs0
    go_wp2_with fail
    refine HLA.out.mono ?_
    rintro e w3' ⟨rfl,y1,y2⟩
    obtain⟨hst2,g2,hv2,hu,hfu,hne,hxo,hyo,hbu,hk1u⟩:=HW.out
    have hbv:=HV.out.2.2.2.2.2.1
    have hxl:=HI.out.2.2.2.2.2.2.2.1.lt
    have hu3:NatB w3' bu us:=hu.kept y2 (by intro e;exact hne (Option.some.inj e))
    have hx3:NatB w3' bx ds:=hxo.kept y2 (by intro e;have:=Option.some.inj e;clear w1 w2 w3;omega)
    have HL2:=lshVU bu 0 k us.length bx 0 ds.length sh us ds w3' hu3 hx3 (by rw[Nat.zero_add];exact Nat.le_of_lt H1.out.2) (by rw[Nat.zero_add,HL.out.1];exact HI.out.2.2.2.2.2.1.le) HI.out.2.2.2.2.2.1.buf.2.1 (Nat.pos_of_ne_zero (by rintro rfl;exact absurd e1 (by decide))) H1.out.1 (.inr (Nat.le_refl _)) (by have:=HL.out;clear w1 w2 w3;omega) (by have:=HL.out;clear w1 w2 w3;omega)
    rw[HT.out.1] at HL2
    have HLB:=Lz HL2
    have H3:=Lz (And.intro y1 y2)
    clear hst2 g2 hv2 hu hfu hne hxo hyo hbu hk1u y1 y2 hbv hxl hu3 hx3 HL2 HLA
    unfold wd at *
    go_wp2_with fail
    refine HLB.out.mono ?_
    rintro e w4' ⟨rfl,z1,z2⟩
    obtain⟨c,hc⟩:∃ c,c=shlC sh 0 (dg a):=⟨_,rfl⟩
    rw[<-hc]
    obtain⟨hYw,-⟩:=shl_words H1.out.1 (dg b) 0 (dg_words b) (Nat.pow_pos (by decide))
    obtain⟨hXw,hcs⟩:=shl_words H1.out.1 (dg a) 0 (dg_words a) (Nat.pow_pos (by decide))
    rw[<-hc] at hcs
    have hXl:(shl sh 0 (dg a)).length=k:=by rw[shl_length,HL.out.1]
    have hYl:(shl sh 0 (dg b)).length=n:=by rw[shl_length,HL.out.2.1]
    have hXv:=shl_val H1.out.1 (dg a) 0
    have hYv:=shl_val H1.out.1 (dg b) 0
    rw[val_dg,<-HL.out.1,<-hc,Nat.add_zero] at hXv
    rw[val_dg,<-HL.out.2.1,shlC_zero H1.out.1 (val_dg b) HL.out.2.1.symm (HNB.out sh HSH.out).1,Nat.mul_zero,Nat.add_zero,Nat.add_zero] at hYv
    have hcB:c<B64:=Nat.lt_of_lt_of_le hcs (Nat.le_trans (Nat.pow_le_pow_right (by decide) H1.out.1) (by decide))
    have hsz:(spl us 0 (shl sh 0 (dg a))).length=us.length:=zzk (by rw[hXl,Nat.zero_add];exact Nat.le_of_lt H1.out.2)
    have cc:=z1.cell k (by rw[hsz];exact H1.out.2)
    have cf:=z1.free k
    have hset:=z1.set k c
    have e2:=spl_set (zs:=us) (ks:=shl sh 0 (dg a)) (o:=0) (v:=c) (by rw[hXl,Nat.zero_add];exact H1.out.2)
    rw[Nat.zero_add,hXl] at e2
    rw[e2] at hset
    have gs:=zzw w4' bu k (wd c)
    have hne:=HW.out.2.2.2.2.2.1
    have HF:=Lz (show Scaled a b sh n k (shl sh 0 (dg b)) (shl sh 0 (dg a) ++ [c])/\NatB (w4'.setCell ⟨bu,k,.none⟩ (wd c)) bv (spl zs 0 (shl sh 0 (dg b)))/\NatB (w4'.setCell ⟨bu,k,.none⟩ (wd c)) bu (spl us 0 (shl sh 0 (dg a) ++ [c]))/\StkZ N st (w4'.setCell ⟨bu,k,.none⟩ (wd c))/\Grow wa (w4'.setCell ⟨bu,k,.none⟩ (wd c)) (λk=>k=bu\/TS N wa k) from by
     have hv3:=H3.out.1
     refine⟨⟨hYl,by rw[List.length_append,hXl];rfl,hYw,hXw.append (Words.one hcB),hYv,by rw[zyk,hXl];exact hXv⟩,?_,hset,?_,?_⟩
     . exact(hv3.kept z2 (by intro e;exact hne (Option.some.inj e).symm)).kept gs (by intro e;exact hne (Option.some.inj e).symm)
     . refine((HW.out.1.kept (Grow.of H3.out.2) (λx e=>by obtain rfl:=Option.some.inj e;exact TS.row HW.out.2.2.1)).kept (Grow.of z2) (λx e=>?_)).kept (Grow.of gs) (λx e=>?_)
       . obtain rfl:=Option.some.inj e
         exact TS.row (HW.out.2.2.2.1.kept H3.out.2 (by intro e;exact hne (Option.some.inj e)))
       . obtain rfl:=Option.some.inj e
         exact TS.row z1
     . exact(((HW.out.2.1.weaken (λx _ e=>(.inr e:x=bu\/TS N wa x))).on_new H3.out.2 HV.out.2.2.2.2.2.1).on_in z2 (.inl rfl)).on_in gs (.inl rfl))
    clear z1 z2 hc hYw hXw hcs hXl hYl hXv hYv hcB hsz hset e2 gs hne HLB H3
    unfold wd at *
    go_wp2_with fail
    go_meet
    case rel=>exact⟨_,_,HF.out⟩
 case rest=>
  obtain⟨Ys,Xs,HF⟩:=hcut
  have hpn:p≠some ⟨bu,0,.none⟩/\∀ b,blk p=some b->b≠bu/\b≠bv/\¬TS N wa b:=by
   have key:∀ b,blk p=some b->b≠bu/\b≠bv/\¬TS N wa b:=λb hb=>by
    have hlt:=HI.out.2.2.1.lt b hb
    refine⟨?_,?_,?_⟩
    . rintro rfl
      rcases HW.out.2.2.2.2.1 with e|e
      . exact HI.out.2.2.2.2.1 b hb (by rw[<-e];rfl)
      . have:=e b rfl;clear w1 w2 w3;omega
    . rintro rfl;have:=HV.out.2.2.2.2.2.1;clear w1 w2 w3;omega
    . rcases HI.out.2.2.1.1 with⟨rfl,_⟩|⟨c,rfl,hN⟩
      . cases hb
      . cases hb;exact TS.row hN
   refine⟨λe=>?_,key⟩
   exact(key bu (by rw[e];rfl)).1 rfl
  have hbp:Buf wc p cs:=HI.out.2.2.1.grow HF.out.2.2.2.2 (λb hb=>by
   obtain⟨h1,-,h3⟩:=hpn.2 b hb
   rintro(h|h)
   . exact h1 h
   . exact h3 h)
  have hbu:Buf wc (some ⟨bu,0,.none⟩) (spl us 0 Xs):=⟨.inr ⟨bu,rfl,HF.out.2.2.1⟩,HW.out.2.2.2.2.2.2.2.2.1.2.1.spl HF.out.1.wx,by rw[zzk (by rw[HF.out.1.lx];have:=HW.out.2.2.2.2.2.2.2.2.2;have:=HM.out;clear w1 w2 w3;omega)];exact HW.out.2.2.2.2.2.2.2.2.1.2.2⟩
  have hul:(spl us 0 Xs).length=us.length:=zzk (by rw[HF.out.1.lx];have:=HW.out.2.2.2.2.2.2.2.2.2;have:=HM.out;clear w1 w2 w3;omega)
  have HAL:=nat_alias p (some ⟨bu,0,.none⟩) l k1 cs (spl us 0 Xs) wc hbp hbu
  have hal:al p (some ⟨bu,0,.none⟩) cs=false:=by unfold al;rw[decide_eq_false hpn.1];rfl
  rw[hal,hul] at HAL
  have HALH:=Lz HAL
  have HMK:=Lz (λd=>nat_make p l m1 cs (wc.drewN d) (hbp.kept (zzz wc d .none) (λ_ _=>by simp)) (by have:=HL.out;have:=HM.out;clear w1 w2 w3;omega))
  have HPN:=Lz (And.intro hpn.2 (And.intro hbp (And.intro hbu hul)))
  have ck:wc.cell? ⟨7,0,.none⟩=some (.int .i64 40):=by
   have hc:=HI.out.2.2.2.2.2.2.2.2.2.kdiv
   have hlt:7<wa.heap.size:=World.block_lt_of_cell? _ _ hc
   have e:=HF.out.2.2.2.2.block 7 hlt (by
    rintro(h|h)
    . rcases HW.out.2.2.2.2.1 with e|e
      . rcases HI.out.2.2.2.1.1 with⟨e2,_⟩|⟨c,e2,hN⟩
        . rw[e2] at e;cases e
        . rw[e2] at e
          have:bu=c:=congrArg Addr.block (Option.some.inj e)
          rw[<-h] at this
          subst this
          unfold NatB at hN
          unfold World.cell? at hc
          rw[hN] at hc
          simp[wds] at hc
      . have:=e bu rfl;clear w1 w2 w3;omega
    . have:=h.1;have:=H8.out;clear w1 w2 w3;omega)
   unfold World.cell? at hc ⊢
   rw[e];exact hc
  have w4:=W4.out
  clear hpn hbp hbu hul HAL hal
  go_wp2_with fail
  refine HALH.out.mono ?_
  rintro e w5 ⟨rfl,d,rfl⟩
  go_wp2_with fail
  refine(HMK.out d).mono ?_
  rintro e w6 ⟨pz,qs,rfl,x1,x2,x3,x4⟩
  obtain⟨bz,rfl,hz⟩:=x1.at (by have:=HM.out;clear w1 w2 w3 w4;omega)
  have x3':wc.grownBy w6 .none:=zzx (zzz wc d .none) x3
  have hd1:bz≠bu/\bz≠bv:=by
   rcases x4 with⟨e,-,-,-⟩|⟨e,-⟩
   . have:=HPN.out.1 bz (by rw[<-e];rfl)
     exact⟨this.1,this.2.1⟩
   . have e2:bz=wc.heap.size:=congrArg Addr.block (Option.some.inj e)
     have h1:=HF.out.2.1.lt
     have h2:=HF.out.2.2.1.lt
     clear w1 w2 w3 w4
     omega
  have hfz:Fresh wa p (some ⟨bz,0,.none⟩):=by
   rcases x4 with⟨e,-,-,-⟩|⟨e,-⟩
   . exact .inl e
   . refine .inr λb hb=>?_
     rw[e] at hb
     cases hb
     exact HF.out.2.2.2.2.size
  have hu6:NatB w6 bu (spl us 0 Xs):=HF.out.2.2.1.kept x3' (by simp)
  have hv6:NatB w6 bv (spl zs 0 Ys):=HF.out.2.1.kept x3' (by simp)
  have hs6:StkZ N st w6:=HF.out.2.2.2.1.kept (Grow.none x3' (λ_=>False)) (λ_ e=>e.elim)
  have g6:Grow wa w6 (λk=>k=bu\/TS N wa k):=HF.out.2.2.2.2.trans (Grow.none x3' _)
  have s63:sh<=63:=by rw[HSH.out];exact(lz_facts HL.out.2.2.2.2.2.2.2.1 HL.out.2.2.2.2.2.2.2.2).2.1
  have aB:a<B64^k:=dg_length.1 (by rw[HL.out.1];exact Nat.le_refl _)
  obtain⟨t1,t2⟩:=HF.out.1.tops s63 (by have:=HL.out;clear w1 w2 w3 w4;omega) aB (HNB.out sh HSH.out).2
  have hXl:Xs.length=k1:=by rw[HF.out.1.lx,HM.out.2.2.1]
  have hYl:Ys.length=n:=HF.out.1.ly
  have hkk:k1<=us.length:=HW.out.2.2.2.2.2.2.2.2.2
  have e1:(spl us 0 Xs).take k1=Xs:=by rw[<-hXl];exact spl_zero (by rw[hXl];exact hkk)
  have e2:(spl zs 0 Ys).take n=Ys:=by
   have:=spl_zero (zs:=zs) (ks:=Ys) (by rw[hYl];exact HV.out.2.2.2.1)
   rwa [hYl] at this
  have g1:(spl us 0 Xs).getD (k1-1) 0=Xs.getD k 0:=by rw[HM.out.2.2.1,Nat.add_sub_cancel,spl0_getD (by rw[HF.out.1.lx];exact Nat.lt_succ_self k)]
  have g2:(spl zs 0 Ys).getD (n-1) 0=Ys.getD (n-1) 0:=spl0_getD (by rw[hYl];have:=HL.out;clear w1 w2 w3 w4;omega)
  have hzl:(spl zs 0 Ys).length=zs.length:=zzk (by rw[hYl,Nat.zero_add];exact HV.out.2.2.2.1)
  have HDB0:=divBasic N st bz bu bv n m1 k1 qs.length us.length cv qs (spl us 0 Xs) (spl zs 0 Ys) w6 hs6 (Nat.le_trans HI.out.2.1 g6.size) hz hu6 hv6 ⟨hd1.1,hd1.2,HW.out.2.2.2.2.2.1⟩ HL.out.2.2.2.1 HL.out.2.2.2.2.1
   (by have:=HM.out;clear w1 w2 w3 w4;omega) (by have:=HM.out;have:=HL.out;clear w1 w2 w3 w4;omega) (by have:=HM.out;have:=HL.out;clear w1 w2 w3 w4;omega) x2 (by rw[HPN.out.2.2.2];exact hkk) (by rw[hzl];exact HV.out.2.2.2.1) x2 hkk
   (Nat.le_trans HW.out.2.2.2.2.2.2.2.2.1.2.2 (by decide)) HV.out.1 HPN.out.2.2.1.2.1 (HV.out.2.2.2.2.2.2.2.1.spl HF.out.1.wy) (by rw[g2];exact t1) (by rw[g1,g2];exact t2)
  rw[e1,e2,HF.out.1.vx,HF.out.1.vy] at HDB0
  have HDB:=Lz HDB0
  have ck6:w6.cell? ⟨7,0,.none⟩=some (.int .i64 40):=cell_grown ck x3' (by simp)
  have i5:(n:Int)<40:=by have:=HL.out;clear w1 w2 w3 w4;omega
  have HQ:=Lz (And.intro x1 (And.intro x2 (And.intro hd1 (And.intro hfz (And.intro g6 (And.intro s63 (And.intro hkk HPN.out.2.2)))))))
  clear ck x1 x2 x3 x4 hz x3' hd1 hfz hu6 hv6 hs6 g6 s63 aB t1 t2 hXl hYl hkk e1 e2 g1 g2 hzl HDB0 HALH HMK
  go_wp2_with fail
  refine HDB.out.mono ?_
  rintro e w7 ⟨rfl,ks,rs,d1,d2,d3,d4,d5,d6,d7,d8,d9,d10⟩
  obtain⟨r1,r2⟩:=scaled_rest (by rw[Nat.mul_comm (val ks)] at d7 ⊢;exact d7) d8
  have hql:(spl qs 0 ks).length=qs.length:=zzk (by rw[d2,Nat.zero_add];exact HQ.out.2.1)
  have hBq:Buf w7 (some ⟨bz,0,.none⟩) (spl qs 0 ks):=⟨.inr ⟨bz,rfl,d1⟩,HQ.out.1.2.1.spl d3,by rw[hql];exact HQ.out.1.2.2⟩
  have hqt:(spl qs 0 ks).take m1=ks:=by rw[<-d2];exact spl_zero (by rw[d2];exact HQ.out.2.1)
  have HNQ:=norm_of hBq hqt (by rw[hql];exact HQ.out.2.1) hql
  rw[r1] at HNQ
  have NQ:=num_of hBq hqt
  rw[r1] at NQ
  have hk1:m1+n=k1:=by have:=HM.out;have:=HL.out;clear w1 w2 w3 w4;omega
  rw[hk1] at d5
  have hul:(spl us 0 Xs).length=us.length:=HQ.out.2.2.2.2.2.2.2.2
  have hrl:(spl (spl us 0 Xs) 0 rs).length=us.length:=by rw[zzk (by rw[d5,Nat.zero_add,hul];exact HQ.out.2.2.2.2.2.2.1),hul]
  have hBu:Buf w7 (some ⟨bu,0,.none⟩) (spl (spl us 0 Xs) 0 rs):=⟨.inr ⟨bu,rfl,d4⟩,HQ.out.2.2.2.2.2.2.2.1.2.1.spl d6,by rw[hrl];exact HW.out.2.2.2.2.2.2.2.2.1.2.2⟩
  have hut:(spl (spl us 0 Xs) 0 rs).take k1=rs:=by rw[<-d5];exact spl_zero (by rw[d5,hul];exact HQ.out.2.2.2.2.2.2.1)
  have HNQH:=Lz HNQ
  have HE:=Lz (And.intro NQ (And.intro hBu (And.intro hut (And.intro hrl (And.intro r2 (And.intro d9 (And.intro d10 (And.intro hql (And.intro d1 (And.intro d4 d5))))))))))
  clear d1 d2 d3 d4 d5 d6 d7 d8 d9 d10 r1 r2 hBq hqt HNQ NQ hk1 hul hrl hBu hut hql HDB ck6
  go_wp2_with fail
  refine HNQH.out.mono ?_
  rintro e w7' ⟨rfl,rfl⟩
  -- what the end comes to
  have HFIN:=Lz (show ∀ (w8 w9:World) (L:List Nat),Num w8 (some ⟨bz,0,.none⟩) (dg (a/b)) (spl qs 0 ks)->Num w8 (some ⟨bu,0,.none⟩) (dg (a%b)) L->L.length=us.length->Grow w7 w8 (λk=>(k=bz\/k=bu)\/TS N w7 k)->Stk N st w9->Grow w8 w9 (TS N w8) →
   DivLP N st p p2 a b wa (.returned (.tuple #[.slice (some ⟨bz,0,.none⟩) (dg (a/b)).length qs.length,.slice (some ⟨bu,0,.none⟩) (dg (a%b)).length us.length])) w9 from by
   intro w8 w9 L n1 n2 hL g78 hs9 g89
   obtain⟨-,-,-,-,-,-,d10,hql,-,-,-⟩:=HE.out
   have ga:Grow wa w6 (λk=>(k=bz\/k=bu)\/TS N wa k):=HQ.out.2.2.2.2.1.weaken (λx _ e=>e.elim (λe=>.inl (.inr e)) .inr)
   have gb:=((ga.ts d10).ts g78).ts (g89.weaken (λx _ e=>(.inr e:(x=bz\/x=bu)\/TS N w8 x)))
   have kq:∀ {c:Nat} {X L:List Nat},Num w8 (some ⟨c,0,.none⟩) X L->Num w9 (some ⟨c,0,.none⟩) X L:=λ{c X L} h=>h.grow g89 (λb hb=>by
    cases hb
    rcases h.buf.1 with⟨e,_⟩|⟨b,e,hN⟩
    . cases e
    . cases e;exact TS.row hN)
   refine⟨some ⟨bz,0,.none⟩,spl qs 0 ks,some ⟨bu,0,.none⟩,L,by rw[hql,hL],kq n1,kq n2,gb.weaken (λx hx e=>?_),HQ.out.2.2.2.1,HW.out.2.2.2.2.1,λb hb hb2=>?_,hs9⟩
   . rcases e with(rfl|rfl)|e
     . rcases HQ.out.2.2.2.1 with e|e
       . exact .inl (.inl (by rw[<-e];rfl))
       . have:=e x rfl;clear w1 w2 w3 w4;omega
     . rcases HW.out.2.2.2.2.1 with e|e
       . exact .inl (.inr (by rw[<-e];rfl))
       . have:=e x rfl;clear w1 w2 w3 w4;omega
     . exact .inr e
   . cases hb
     exact HQ.out.2.2.1.1 (Option.some.inj hb2).symm)
  have HSTK:=Lz HE.out.2.2.2.2.2.1
  by_cases hs0:sh=0
  . have e1:((sh:Int) != 0)=false:=by rw[hs0];rfl
    obtain⟨NQ,hBu,hut,hrl,r2,d9,-,-,-,-,-⟩:=HE.out
    rw[hs0,Nat.pow_zero,Nat.div_one] at r2
    have HNU:=norm_of hBu hut (by rw[hrl];exact HQ.out.2.2.2.2.2.2.1) hrl
    have NU:=num_of hBu hut
    rw[r2] at HNU NU
    have HN2:=Lz (And.intro NQ (And.intro NU (And.intro hrl HNU)))
    clear NQ hBu hut hrl r2 d9 HNU NU hs0 w4
    go_wp2_with fail
    refine HN2.out.2.2.2.mono ?_
    rintro e w8 ⟨rfl,rfl⟩
    go_wp2_with fail
    refine leaves_cons (f:=207) (args:=#[.pointer (some ⟨st,0,.none⟩),.int .i64 0]) (by simp) (by simp[go_sem]) ?_
    refine(restoreS HSTK.out .returning).mono ?_
    rintro e9 u9 w9 ⟨rfl,rfl,s1,s2⟩
    have HEND:=HFIN.out _ w9 _ HN2.out.1 HN2.out.2.1 HN2.out.2.2.1 (Grow.refl _ _) s1 s2
    simp[Leaves,settle,results,Tryz.results212,go_sem]
    exact HEND
  . have e1:((sh:Int) != 0)=true:=by rw[bne_iff_ne];clear w1 w2 w3 w4;omega
    obtain⟨NQ,hBu,hut,hrl,r2,d9,-,-,-,hN7,d5⟩:=HE.out
    have HRS:=rshVU bu k1 us.length sh (spl (spl us 0 Xs) 0 rs) w7 hN7 (by rw[hrl];exact HQ.out.2.2.2.2.2.2.1) hBu.2.1 (Nat.pos_of_ne_zero hs0) HQ.out.2.2.2.2.2.1 (by have:=HM.out;clear w1 w2 w3 w4;omega) (by have:=HM.out;have:=HL.out;clear w1 w2 w3 w4;omega)
    have HN2:=Lz (And.intro NQ (And.intro hBu (And.intro hut (And.intro hrl (And.intro r2 HRS)))))
    clear NQ hBu hut hrl r2 d9 hN7 d5 HRS hs0 w4
    go_wp2_with fail
    refine HN2.out.2.2.2.2.2.mono ?_
    rintro e w8 ⟨v8,kr,rfl,f1,f2,f3,f4,f5⟩
    obtain⟨NQ,hBu,hut,hrl,r2,-⟩:=HN2.out
    rw[hut,r2] at f4
    have hL8:(spl (spl (spl us 0 Xs) 0 rs) 0 kr).length=us.length:=by rw[zzk (by rw[f2,Nat.zero_add,hrl];exact HQ.out.2.2.2.2.2.2.1),hrl]
    have hB8:Buf w8 (some ⟨bu,0,.none⟩) (spl (spl (spl us 0 Xs) 0 rs) 0 kr):=⟨.inr ⟨bu,rfl,f1⟩,hBu.2.1.spl f3,by rw[hL8,<-hrl];exact hBu.2.2⟩
    have ht8:(spl (spl (spl us 0 Xs) 0 rs) 0 kr).take k1=kr:=by rw[<-f2];exact spl_zero (by rw[f2,hrl];exact HQ.out.2.2.2.2.2.2.1)
    have HNU:=norm_of hB8 ht8 (by rw[hL8];exact HQ.out.2.2.2.2.2.2.1) hL8
    have NU:=num_of hB8 ht8
    rw[f4] at HNU NU
    have NQ8:Num w8 (some ⟨bz,0,.none⟩) (dg (a/b)) (spl qs 0 ks):=NQ.kept f5 (λc hc e=>by cases hc;exact HQ.out.2.2.1.1 (Option.some.inj e).symm)
    have g78:Grow w7 w8 (λk=>(k=bz\/k=bu)\/TS N w7 k):=(Grow.of f5).weaken (λx _ e=>.inl (.inr (Option.some.inj e).symm))
    have hs8:Stk N st w8:=HSTK.out.kept (Grow.of f5) (λx e=>by obtain rfl:=Option.some.inj e;exact TS.row HE.out.2.2.2.2.2.2.2.2.2.1)
    have HN3:=Lz (And.intro NQ8 (And.intro NU (And.intro hL8 (And.intro g78 (And.intro hs8 HNU)))))
    clear NQ hBu hut hrl r2 f1 f2 f3 f4 f5 hL8 hB8 ht8 HNU NU NQ8 g78 hs8
    go_wp2_with fail
    refine HN3.out.2.2.2.2.2.mono ?_
    rintro e w8' ⟨rfl,rfl⟩
    go_wp2_with fail
    refine leaves_cons (f:=207) (args:=#[.pointer (some ⟨st,0,.none⟩),.int .i64 0]) (by simp) (by simp[go_sem]) ?_
    refine(restoreS HN3.out.2.2.2.2.1 .returning).mono ?_
    rintro e9 u9 w9 ⟨rfl,rfl,s1,s2⟩
    have HEND:=HFIN.out _ w9 _ HN3.out.1 HN3.out.2.1 HN3.out.2.2.1 HN3.out.2.2.2.1 s1 s2
    simp[Leaves,settle,results,Tryz.results212,go_sem]
    exact HEND
end Go.Proofs.YtohhkjamddojmaaGreatDoor.Big
