/- The law FnNamedMult: its beginning. -/
import Derived.Test.YtohhkjamddojmaaGreatDoorQS
import Derived.Test.YtohhkjamddojmaaGreatDoorBY
import Derived.Test.YtohhkjamddojmaaGreatDoorCJ
import Derived.Test.YtohhkjamddojmaaGreatDoorCM
set_option maxRecDepth 100000
set_option maxHeartbeats 16000000
namespace Go.Proofs.YtohhkjamddojmaaGreatDoor.Bit
open Go.RowKit
open Big EcLaw
attribute [local go_sem] ptr
attribute [local irreducible] Sz
section
variable {R : Nat → Prop} {w0 w w' : World} {L L' : List (Nat × Int)}
theorem rowUK {R:Nat->Prop} {p:Option Addr} {c:Nat} {ks:List Nat} (h:RowU w p c ks) (k:Kept R w w') (hR:∀ b o,p=some ⟨b,o,.none⟩->0<ks.length->R b):RowU w' p c ks:=
 ⟨h.1,h.2.1,h.2.2.1,λb o e i hi=>k.cell (hR b o e (by omega)) (h.2.2.2.1 b o e i hi),h.2.2.2.2⟩
theorem Four.p9 {b:Nat} {c:Nums} (h:Four b c):8<c.p:=by
 cases h <;> decide +kernel
theorem Four.bp {b:Nat} {c:Nums} (h:Four b c):c.b<c.p:=by
 cases h <;> decide +kernel
theorem mul_aff {c:Nums} (hc:Grp c) {n:Nat} (h0:0<n) (h1:n<c.n):∃ X Y:Nat,EcLaw.mul c.p 0 n c.G=.aff X Y:=by
 have hne:=hc.ne h0 h1
 have ho:=mul_on hc.prm hc.on n
 match e:EcLaw.mul c.p 0 n c.G,hne,ho with
 | .inf,hne,_=>exact absurd rfl hne
 | .aff x y,_,ho=>
  have hx:=ho.1
  have hy:=ho.2.2.1
  exact⟨x.toNat,y.toNat,by rw[Int.toNat_of_nonneg hx,Int.toNat_of_nonneg hy]⟩
theorem constD {b:Nat} {c:Nums} (hf:Four b c) (w:World):Calls Tryz.prog 24 #[.int .i64 (b:Nat)] w (DgP c.b w):=(constO hf w).mono λ_ _ h=>Dg.of h
structure MIv (w1 w:World) (P B X Y X' Y':Nat) (b1 b2 b4 b5 b8 b11 b12 b14 b15 b16:Bool) (u51 u52 u54 u55 u58 u61 u62 u64 u9:Value) (p9:Nat):Prop where
 g:w1.grownBy w .none
 v1:b1=true->Dg w u51 P
 v2:b2=true->b1=true/\u52=.agg #[u51]
 v4:b4=true->Dg w u54 B
 v5:b5=true->b1=true/\b4=true/\u55=.agg #[u51,.slice .none 0 0,u54]
 v8:b8=true->Dg w u58 X
 v11:b11=true->Dg w u61 Y
 v12:b12=true->b8=true/\b11=true/\u62=.agg #[u58,u61,.bool false]
 v14:b14=true->∃ a b,u64=.agg #[a,b,.bool false]/\Dg w a X'/\Dg w b Y'
 v15:b15=true->u9=.pointer (some ⟨p9,0,.none⟩)/\w1.heap.size<=p9/\p9<w.heap.size
 h15:b15=true->b16=false->w.heap[p9]? = some (.cells #[.slice .none 0 0,.slice .none 0 0,.bool false] 45 (0,0))
 i16:b16=true->b14=true/\b15=true
 f16:b16=true->∃ a b,u64=.agg #[a,b,.bool false]/\w.heap[p9]? = some (.cells #[a,b,.bool false] 45 (0,0))
theorem MIv.grow {u:World} {w1 w:World} {P B X Y X' Y':Nat} {b1 b2 b4 b5 b8 b11 b12 b14 b15 b16:Bool} {u51 u52 u54 u55 u58 u61 u62 u64 u9:Value} {p9:Nat} (h:MIv w1 w P B X Y X' Y' b1 b2 b4 b5 b8 b11 b12 b14 b15 b16 u51 u52 u54 u55 u58 u61 u62 u64 u9 p9) (k:w.grownBy u .none):MIv w1 u P B X Y X' Y' b1 b2 b4 b5 b8 b11 b12 b14 b15 b16 u51 u52 u54 u55 u58 u61 u62 u64 u9 p9:=
 ⟨h.g.trans k,λe=>(h.v1 e).kept k,h.v2,λe=>(h.v4 e).kept k,h.v5,λe=>(h.v8 e).kept k,λe=>(h.v11 e).kept k,h.v12,λe=>by obtain⟨a,b,e1,d1,d2⟩:=h.v14 e;exact⟨a,b,e1,d1.kept k,d2.kept k⟩,
  λe=>⟨(h.v15 e).1,(h.v15 e).2.1,Nat.lt_of_lt_of_le (h.v15 e).2.2 k.size⟩,λe e6=>blk_keep (h.h15 e e6) k,h.i16,λe=>by obtain⟨a,b,e1,d⟩:=h.f16 e;exact⟨a,b,e1,blk_keep d k⟩⟩
theorem MIv.st {w1 w:World} {P B X Y X' Y':Nat} {b1 b2 b4 b5 b8 b11 b12:Bool} {u51 u52 u54 u55 u58 u61 u62 u9 a b:Value} {p9:Nat} (h:MIv w1 w P B X Y X' Y' b1 b2 b4 b5 b8 b11 b12 true true false u51 u52 u54 u55 u58 u61 u62 (.agg #[a,b,.bool false]) u9 p9) :
 MIv w1 (((w.setCell ⟨p9,0,.none⟩ a).setCell ⟨p9,1,.none⟩ b).setCell ⟨p9,2,.none⟩ (.bool false)) P B X Y X' Y' b1 b2 b4 b5 b8 b11 b12 true true true u51 u52 u54 u55 u58 u61 u62 (.agg #[a,b,.bool false]) u9 p9:=by
 obtain⟨s1,s2,s3⟩:=store3 (vx:=a) (vy:=b) (vz:=.bool false) h.g (h.h15 rfl rfl) (λk=>⟨by simp,by simp,by simp⟩) (h.v15 rfl).2.1
 have sz:w.heap.size<=(((w.setCell ⟨p9,0,.none⟩ a).setCell ⟨p9,1,.none⟩ b).setCell ⟨p9,2,.none⟩ (.bool false)).heap.size:=(((zzw w p9 0 a).trans (zzw _ p9 1 b)).trans (zzw _ p9 2 (.bool false))).size
 refine⟨s2,λe=>s3 _ _ (h.v1 e),h.v2,λe=>s3 _ _ (h.v4 e),h.v5,λe=>s3 _ _ (h.v8 e),λe=>s3 _ _ (h.v11 e),h.v12,λ_=>?_,λ_=>⟨(h.v15 rfl).1,(h.v15 rfl).2.1,Nat.lt_of_lt_of_le (h.v15 rfl).2.2 sz⟩,λ_ e=>(by cases e),λ_=>⟨rfl,rfl⟩,λ_=>⟨a,b,rfl,s1⟩⟩
 obtain⟨x,y,e,d1,d2⟩:=h.v14 rfl
 exact⟨x,y,e,s3 _ _ d1,s3 _ _ d2⟩
def MIn (w1:World) (P B X Y X' Y':Nat) (F:Value->Value->Value->Value->Value->Value->Value->Value->Value->Act) (listed:Array Bool) (a:Act) (w:World):Prop:=
 ∃ (b1 b2 b4 b5 b8 b11 b12 b14 b15 b16:Bool) (u51 u52 u54 u55 u58 u61 u62 u64 u9:Value) (p9:Nat),(listed.getD 1 false=b1/\listed.getD 2 false=b2/\listed.getD 4 false=b4/\listed.getD 5 false=b5/\listed.getD 8 false=b8/\listed.getD 11 false=b11/\listed.getD 12 false=b12/\listed.getD 14 false=b14/\listed.getD 15 false=b15/\listed.getD 16 false=b16)/\(∀ k∈([0,3,6,7,9,10,13]:List Nat),listed.getD k false=true)/\a=F u51 u52 u54 u55 u58 u61 u62 u64 u9/\MIv w1 w P B X Y X' Y' b1 b2 b4 b5 b8 b11 b12 b14 b15 b16 u51 u52 u54 u55 u58 u61 u62 u64 u9 p9
theorem sameG {w:World} {g n:Nat} {v:Value} {p:Option Addr} {c:Nat} {ls:List Nat} (h:ByV w g v n) (h2:RowU w p c ls) (e:bev ls=n) (z:0<ls.length->ls.getD 0 0≠0) :
 Calls Tryz.prog 26 #[v,.slice p ls.length c] w (λe w'=>e=.returned (.bool true)/\w.grownBy w' .none):=by
 obtain⟨o,ks,rfl,hs,e',c'⟩:=h
 obtain rfl:=canon hs.2.1 h2.2.2.2.2 c' z (e'.trans e.symm)
 refine(sameS _ _ _ _ _ w hs.rowU h2).mono ?_
 rintro e w' ⟨rfl,d,rfl⟩
 exact⟨rfl,zzz w d .none⟩
theorem rowIK {w w':World} {R:Nat->Prop} {p:Option Addr} {c:Nat} {xs:List Nat} (h:RowI w p c xs) (k:Kept R w w') (hR:∀ b o,p=some ⟨b,o,.none⟩->0<xs.length->R b):RowI w' p c xs:=
 ⟨h.1,h.2.1,h.2.2.1,λb o e i hi=>k.cell (hR b o e (by omega)) (h.2.2.2 b o e i hi)⟩
theorem Four.small {b:Nat} {c:Nums} (hf:Four b c) {x:Nat} (h:x<c.p):(bd x).length<=100000:=by
 have:=dg_len (Nat.lt_trans (hf.fd.le h) (by decide +kernel:B16^16<B16^40))
 omega
theorem mult_start {K K9:Nat->Prop} {wc w3:World} {t p9 gX gY kb ko cb X' Y':Nat} {ae:Addr} {cs27:Array Value} {va vb:Value} {pa pb:Option Addr} {ca cb':Nat} {ks:List Nat} (hK9:K9=λk=>K k\/k=p9\/(∃ o,pa=some ⟨k,o,.none⟩/\0<(bd X').length)\/∃ o,pb=some ⟨k,o,.none⟩/\0<(bd Y').length)
 (S:St R K w w3 t cs27 ae) (g:w3.grownBy wc .none) (h9:wc.heap[p9]? = some (.cells #[va,vb,.bool false] 45)) (ra:RowI wc pa ca (bd X')) (rb:RowI wc pb cb' (bd Y')) (ru:RowU w3 (some ⟨kb,ko,.none⟩) cb ks) (h0:0<ks.length) (h40:ks.length<=40) (hk:K kb) (kX:K gX) (kY:K gY) :
 St R K9 w wc t cs27 ae/\Sl wc kb ko ks/\K9 gX/\K9 gY/\K9 kb/\K9 p9/\(∀ b o,pa=some ⟨b,o,.none⟩->0<(bd X').length->K9 b)/\∀ b o,pb=some ⟨b,o,.none⟩->0<(bd Y').length->K9 b:=by
 subst hK9
 have ru:=ru.kept g
 refine⟨(S.keep (Grow.none g _)).wide (λk hk=>.inl hk) ?_,⟨λi hi=>ru.2.2.2.1 kb ko rfl i hi,ru.2.2.2.2,by omega,?_⟩,.inl kX,.inl kY,.inl hk,.inr (.inl rfl),λb o e hl=>.inr (.inr (.inl ⟨o,e,hl⟩)),λb o e hl=>.inr (.inr (.inr ⟨o,e,hl⟩))⟩
 . rintro k (hk|rfl|⟨o,rfl,hl⟩|⟨o,rfl,hl⟩)
   . exact(S.keep (Grow.none g _)).own.old hk
   . exact(Array.getElem?_eq_some_iff.1 h9).1
   . exact ra.blk hl
   . exact rb.blk hl
 . exact World.block_lt_of_cell? wc ⟨kb,ko+0,.none⟩ (ru.2.2.2.1 kb ko rfl 0 h0)
theorem lawMultO (h:Own R w0 w []) (ae:Addr) (he:w.cell? ⟨2,0,.none⟩=some (eofV ae)) (x:Int) (h0:0<=x) (h1:x<256) (p:Option Addr) (ck:Nat) (ks:List Nat) (hk:RowU w p ck ks) (hR:∀ b o,p=some ⟨b,o,.none⟩->0<ks.length->R b) :
 Calls Tryz.prog 4 #[.int .u8 x,.slice p ks.length ck] w (λe w'=>e=.returned (.bool true)/\Own R w0 w' []):=by
 obtain⟨nk,hnk⟩:∃ n,n=ks.length:=⟨_,rfl⟩
 have S:=Lz (sizeO x w h0 h1)
 have HS0:=Lz (And.intro h he)
 have HKR:=Lz (And.intro hk (And.intro hR hnk))
 rw[<-hnk]
 by_cases hbig:2147483647<nk
 . have q:(2147483647:Int)<nk:=by omega
   clear h he h0 h1 hk hR hnk hbig S
   go_enter Tryz.func4,Tryz.ntmps4
   go_wp2_with fail
   go_ret
   exact⟨rfl,HS0.out.1⟩
 have q:¬(2147483647:Int)<nk:=by omega
 have HBG:=Lz (show nk<=2147483647 by omega)
 clear h he h0 h1 hk hR hnk hbig
 go_enter Tryz.func4,Tryz.ntmps4
 go_wp2_with fail
 refine S.out.mono ?_
 rintro en w1 ⟨b,c,hf,rfl,g1⟩
 have H1:=Lz (And.intro (HS0.out.1.grownN g1) (g1.cell HS0.out.2 (by simp)))
 have N:=Lz (curveNamedO hf H1.out.1 ae H1.out.2)
 have HF:=Lz hf
 have HG1:=Lz g1
 clear S g1 hf q
 go_wp2_with fail
 refine N.out.mono ?_
 rintro en w2 ⟨vP,vN,vB,vX,vY,gP,gN,gB,gX,gY,rfl,k2,o2,⟨bP,bN,bB,bX,bY⟩,z1,z2,z3,z4,z5⟩
 obtain⟨oN,ns,rN,sN,eN,-⟩:=id bN
 obtain⟨oP,ps,rfl,-⟩:=bP
 obtain⟨oB,bs,rfl,-⟩:=bB
 obtain⟨oX,xs,rX,-⟩:=id bX
 obtain⟨oY,ys,rY,-⟩:=id bY
 have hln:0<ns.length:=by
  rcases Nat.eq_zero_or_pos ns.length with e|e
  . rw[List.eq_nil_of_length_eq_zero e] at eN
    have:=HF.out.grp.n5
    simp[bev] at eN
    omega
  . exact e
 generalize ns.length=ln at rN hln
 generalize xs.length=lx at rX
 generalize ys.length=ly at rY
 generalize ps.length=lp
 generalize bs.length=lb
 subst rX rY rN
 obtain⟨K,hK⟩:∃ K:Nat->Prop,K=λk=>R k\/k=gX\/k=gY\/k=w2.heap.size:=⟨_,rfl⟩
 have S3:=Lz (named_start (cs27:=#[.slice (some ⟨gP,oP,.none⟩) lp lp,.slice (some ⟨gN,oN,.none⟩) ln ln,.slice (some ⟨gB,oB,.none⟩) lb lb,.slice (some ⟨gX,oX,.none⟩) lx lx,.slice (some ⟨gY,oY,.none⟩) ly ly,.int .i64 (b:Nat)]) hK HS0.out.1 (Grow.none HG1.out _) k2 o2 bX bY HS0.out.2)
 have BN:=Lz (show ByV (w2.alloc (.cells #[.slice (some ⟨gP,oP,.none⟩) lp lp,.slice (some ⟨gN,oN,.none⟩) ln ln,.slice (some ⟨gB,oB,.none⟩) lb lb,.slice (some ⟨gX,oX,.none⟩) lx lx,.slice (some ⟨gY,oY,.none⟩) ly ly,.int .i64 (b:Nat)] 27)) gN (.slice (some ⟨gN,oN,.none⟩) ln ln) c.n from bN.kept (R:=λ_=>True) (Grow.none (zzy w2 _ _) _) trivial)
 have hln0:((ln:Int)==0)=false:=by rw[beq_eq_false_iff_ne];omega
 have RW:=Lz (show RowU (w2.alloc (.cells #[.slice (some ⟨gP,oP,.none⟩) lp lp,.slice (some ⟨gN,oN,.none⟩) ln ln,.slice (some ⟨gB,oB,.none⟩) lb lb,.slice (some ⟨gX,oX,.none⟩) lx lx,.slice (some ⟨gY,oY,.none⟩) ly ly,.int .i64 (b:Nat)] 27)) p ck ks from rowUK HKR.out.1 S3.out.1.kept HKR.out.2.1)
 have HKK:=Lz (show ∀ k,R k->K k from by rw[hK];exact λk hk=>.inl hk)
 clear hK k2 o2 bX bY bN sN eN hln z1 z2 z3 z4 z5 N H1 HG1
 go_upto_region 5 with fail
 generalize hw3:w2.alloc (.cells #[.slice (some ⟨gP,oP,.none⟩) lp lp,.slice (some ⟨gN,oN,.none⟩) ln ln,.slice (some ⟨gB,oB,.none⟩) lb lb,.slice (some ⟨gX,oX,.none⟩) lx lx,.slice (some ⟨gY,oY,.none⟩) ly ly,.int .i64 (b:Nat)] 27)=w3 at *
 generalize hcs:(#[.slice (some ⟨gP,oP,.none⟩) lp lp,.slice (some ⟨gN,oN,.none⟩) ln ln,.slice (some ⟨gB,oB,.none⟩) lb lb,.slice (some ⟨gX,oX,.none⟩) lx lx,.slice (some ⟨gY,oY,.none⟩) ly ly,.int .i64 (b:Nat)]:Array Value)=cs27 at *
 have HC:=Lz (show cs27[1]? = some (.slice (some ⟨gN,oN,.none⟩) ln ln)/\cs27[3]? = some (.slice (some ⟨gX,oX,.none⟩) lx lx)/\cs27[4]? = some (.slice (some ⟨gY,oY,.none⟩) ly ly) from by rw[<-hcs];exact⟨rfl,rfl,rfl⟩)
 clear hcs hw3
 have QQ:=Lz (λ(w':World) (k:w3.grownBy w' .none)=>(⟨k.cell (zzv (k:=1) S3.out.1.blk HC.out.1) (by simp),k.cell (zzv (k:=3) S3.out.1.blk HC.out.2.1) (by simp),k.cell (zzv (k:=4) S3.out.1.blk HC.out.2.2) (by simp)⟩:w'.cell? ⟨w2.heap.size,1,.none⟩=some (.slice (some ⟨gN,oN,.none⟩) ln ln)/\w'.cell? ⟨w2.heap.size,3,.none⟩=some (.slice (some ⟨gX,oX,.none⟩) lx lx)/\w'.cell? ⟨w2.heap.size,4,.none⟩=some (.slice (some ⟨gY,oY,.none⟩) ly ly)))
 have HKO:=Lz (λ(w':World) (k:w3.grownBy w' .none)=>HS0.out.1.turned (S3.out.1.kept.trans (Grow.none k _)))
 have FK:=Lz (fromBytesS p ck ks w3 RW.out (by have:=HBG.out;have:=HKR.out.2.2;omega))
 rw[<-HKR.out.2.2] at FK
 obtain⟨n,hn⟩:∃ n,n=bev ks:=⟨_,rfl⟩
 rw[<-hn] at FK
 have HN:=Lz hn
 clear hn
 go_wp2_with fail
 refine FK.out.mono ?_
 rintro en u1 ⟨pn,cn,rfl,rn,gr1⟩
 obtain⟨q1,q3,q4⟩:=QQ.out _ gr1
 have A1:=Lz (And.intro gr1 rn)
 clear gr1 rn FK
 go_upto_region 8 with fail
 by_cases h40:40<nk
 . have q:(40:Int)<nk:=by omega
   clear h40
   go_wp2_with fail
   go_ret
   exact⟨rfl,HKO.out _ A1.out.1⟩
 have q:¬(40:Int)<nk:=by omega
 have H40:=Lz (show nk<=40 by omega)
 clear h40
 by_cases hn0:n=0
 . have iz:(((bd n).length:Int)==0)=true:=by rw[one_len];exact decide_eq_true hn0
   clear hn0
   go_wp2_with fail
   go_ret
   exact⟨rfl,HKO.out _ A1.out.1⟩
 have iz:(((bd n).length:Int)==0)=false:=by rw[one_len];exact decide_eq_false hn0
 have HN0:=Lz (show 0<n by omega)
 clear hn0
 have FN:=Lz (fromBy (BN.out.kept (R:=λ_=>True) (Grow.none A1.out.1 _) trivial))
 go_wp2_with fail
 refine FN.out.mono ?_
 rintro en u2 ⟨pN,cN,rfl,rN,gr2⟩
 have T1:=dg_small (n:=1) (by decide) (by decide) (heap_alloc_new u2 one3)
 obtain⟨pT,cT,eT,rT⟩:=T1
 rw[bd_small (n:=1) (by decide) (by decide)] at eT
 injection eT with eT1 eT2 eT3
 subst eT1 eT3
 have MN:=minusS pN (some ⟨u2.heap.size,0,.none⟩) cN 1 c.n 1 (u2.alloc one3) (rN.kept (zzy _ _ .none)) rT (by have:=HF.out.grp.n5;omega) (by have:=dg_len (n:=c.n) (by have:=HF.out.grp.nB;exact Nat.lt_trans this (by decide +kernel));omega)
 rw[bd_small (n:=1) (by decide) (by decide)] at MN
 have MH:=Lz MN
 have A2:=Lz (show w3.grownBy (u2.alloc one3) .none/\RowI (u2.alloc one3) pn cn (bd n) from⟨(A1.out.1.trans gr2).trans (zzy _ _ .none),(A1.out.2.kept gr2).kept (zzy _ _ .none)⟩)
 obtain⟨q1,q3,q4⟩:=QQ.out _ (A1.out.1.trans gr2)
 clear MN rN gr2 eT2 rT FN
 go_wp2_with fail
 refine MH.out.mono ?_
 rintro en u3 ⟨pM,cM,rfl,rM,gr3⟩
 have CH:=Lz (compareS pn pM cn cM n (c.n-1) u3 (A2.out.2.kept gr3) rM)
 obtain⟨q1,q3,q4⟩:=QQ.out _ (A2.out.1.trans gr3)
 have A3:=Lz (And.intro (A2.out.1.trans gr3) (A2.out.2.kept gr3))
 clear rM gr3 MH
 go_wp2_with fail
 refine CH.out.mono ?_
 rintro en u4 ⟨rfl,dd,hdd⟩
 have A4:=Lz (show w3.grownBy u4 .none/\RowI u4 pn cn (bd n) from⟨A3.out.1.trans (hdd ▸ zzz u3 dd .none),A3.out.2.kept (hdd ▸ zzz u3 dd .none:u3.grownBy u4 .none)⟩)
 clear hdd CH
 by_cases hge:c.n-1<=n
 . have hsg:sgn n (c.n-1)=0\/sgn n (c.n-1)=1:=by
    rcases Nat.lt_or_ge (c.n-1) n with h|h
    . exact .inr (sgn_gt1 h)
    . exact .inl (by rw[show c.n-1=n by omega];exact sgn_eq1 _)
   clear hge
   rcases hsg with hsg|hsg
   all_goals
    rw[hsg]
    clear hsg
    go_wp2_with fail
    go_ret
    exact⟨rfl,HKO.out _ A4.out.1⟩
 rw[sgn_lt1 (by omega)]
 have HNB:=Lz (show n<c.n-1 by omega)
 clear hge
 obtain⟨q1,q3,q4⟩:=QQ.out _ A4.out.1
 obtain⟨X',Y',hm⟩:∃ X' Y':Nat,EcLaw.mul c.p 0 n c.G=.aff X' Y':=mul_aff HF.out.grp HN0.out (by have:=HNB.out;omega)
 have HM:=Lz hm
 have KL:=Lz (show(bd n).length<=100000 from by have:=dg_len (n:=n) (Nat.lt_trans (show n<2^256 by have:=HNB.out;have:=HF.out.grp.nB;omega) (by decide +kernel));omega)
 have BXY:=Lz (λ(w':World) (k:u4.grownBy w' .none)=>(⟨S3.out.2.1.kept (R:=λ_=>True) (Grow.none (A4.out.1.trans k) _) trivial,S3.out.2.2.1.kept (R:=λ_=>True) (Grow.none (A4.out.1.trans k) _) trivial⟩:ByV w' gX (.slice (some ⟨gX,oX,.none⟩) lx lx) c.x/\ByV w' gY (.slice (some ⟨gY,oY,.none⟩) ly ly) c.y))
 have RN:=Lz (λ(w':World) (k:u4.grownBy w' .none)=>(⟨_,_,rfl,A4.out.2.kept k⟩:Dg w' (.slice pn (bd n).length cn) n))
 clear hm q iz
 go_upto_region 10 with fail
 go_cut [9] from 50 to 64 (λv9 wx=>∃ p9:Nat,v9=.pointer (some ⟨p9,0,.none⟩)/\RowKit.Hid (u4.grownBy wx .none/\∃ a b,wx.heap[p9]? = some (.cells #[a,b,.bool false] 45 (0,0))/\Dg wx a X'/\Dg wx b Y'))
 case first=>
  refine wp_region_noPanic ?_
  refine wp_region_held_drew (S:=(λw'=>w'.cell? ⟨w2.heap.size,3,.none⟩=some (.slice (some ⟨gX,oX,.none⟩) lx lx)/\w'.cell? ⟨w2.heap.size,4,.none⟩=some (.slice (some ⟨gY,oY,.none⟩) ly ly))) (by kernel_rfl) ?_ (λhHeld=>?_)
  . exact⟨q3,q4⟩
  refine wpAnyH_take (i:=0) (v:=?v0) rfl (by kernel_rfl) (by kernel_rfl) (by kernel_rfl) (λ_ _ _ h=>h) (Or.inl ⟨by rfl,?hy0⟩) (by assumption) ?r0
  case hy0=>(intro w hSw;(try dsimp only at hSw);go_simp;(try with_reducible rfl))
  simp only[Act.put]
  refine wpAnyH_take (i:=3) (v:=?v3) rfl (by kernel_rfl) (by kernel_rfl) (by kernel_rfl) (λ_ _ _ h=>h) (Or.inl ⟨by rfl,?hy3⟩) (by assumption) ?r3
  case hy3=>(intro w hSw;(try dsimp only at hSw);go_simp;(try with_reducible rfl))
  simp only[Act.put]
  refine wpAnyH_take (i:=6) (v:=?v6) rfl (by kernel_rfl) (by kernel_rfl) (by kernel_rfl) (λ_ _ _ h=>h) (Or.inl ⟨by rfl,?hy6⟩) (by assumption) ?r6
  case hy6=>(intro w hSw;(try dsimp only at hSw);go_simp;(try with_reducible rfl))
  simp only[Act.put]
  refine wpAnyH_take (i:=7) (v:=?v7) rfl (by kernel_rfl) (by kernel_rfl) (by kernel_rfl) (λ_ _ _ h=>h) (Or.inl ⟨by rfl,?hy7⟩) (by assumption) ?r7
  case hy7=>(intro w hSw;(try dsimp only at hSw);go_simp;(try with_reducible rfl))
  simp only[Act.put]
  refine wpAnyH_take (i:=9) (v:=?v9) rfl (by kernel_rfl) (by kernel_rfl) (by kernel_rfl) (λ_ _ _ h=>h) (Or.inl ⟨by rfl,?hy9⟩) (by assumption) ?r9
  case hy9=>(intro w hSw;(try dsimp only at hSw);go_simp;(try with_reducible rfl))
  simp only[Act.put]
  refine wpAnyH_take (i:=10) (v:=?v10) rfl (by kernel_rfl) (by kernel_rfl) (by kernel_rfl) (λ_ _ _ h=>h) (Or.inl ⟨by rfl,?hy10⟩) (by assumption) ?r10
  case hy10=>(intro w hSw;(try dsimp only at hSw);go_simp;(try with_reducible rfl))
  simp only[Act.put]
  refine wpAnyH_take (i:=13) (v:=?v13) rfl (by kernel_rfl) (by kernel_rfl) (by kernel_rfl) (λ_ _ _ h=>h) (Or.inl ⟨by rfl,?hy13⟩) (by assumption) ?r13
  case hy13=>(intro w hSw;(try dsimp only at hSw);go_simp;(try with_reducible rfl))
  simp only[Act.put]
  clear q1 q3 q4 hHeld
  have KS:=Lz (λ(w':World) (k:u4.grownBy w' .none)=>(QQ.out _ (A4.out.1.trans k)).2)
  refine wpAnyH_inv (MIn u4 c.p c.b c.x c.y X' Y' (λu51 u52 u54 u55 u58 u61 u62 u64 u9=>⟨#[.int .u8 x,.slice p nk ck,undef,undef,.bool false,.int .i64 (b:Nat),.pointer (some ⟨w2.heap.size,0,.none⟩),.bool true,.slice pn (bd n).length cn,u9,undef,undef,.slice p nk ck,.int .i64 (nk:Nat),.bool false,.int .u8 x,.int .i64 (b:Nat),.tuple #[.agg cs27,.bool true],.int .i64 (b:Nat),.tuple #[.agg cs27,.bool true],.agg cs27,.bool true,.slice p nk ck,.slice pn (bd n).length cn,.bool true,.bool false,.bool false,.pointer (some ⟨w2.heap.size,1,.none⟩),.slice (some ⟨gN,oN,.none⟩) ln ln,.int .i64 (ln:Nat),.bool false,.bool false,.slice p nk ck,.int .i64 (nk:Nat),.bool false,.bool false,.slice pn (bd n).length cn,.int .i64 ((bd n).length:Nat),.bool false,.bool false,.bool false,.slice pn (bd n).length cn,.pointer (some ⟨w2.heap.size,1,.none⟩),.slice (some ⟨gN,oN,.none⟩) ln ln,.slice pN (bd c.n).length cN,.slice (some ⟨u2.heap.size,0,.none⟩) 1 1,.slice pM (bd (c.n-1)).length cM,.int .i64 (-1),.bool false,.bool false,.int .i64 (b:Nat),u51,u52,.int .i64 (b:Nat),u54,u55,.pointer (some ⟨w2.heap.size,3,.none⟩),.slice (some ⟨gX,oX,.none⟩) lx lx,u58,.pointer (some ⟨w2.heap.size,4,.none⟩),.slice (some ⟨gY,oY,.none⟩) ly ly,u61,u62,.slice pn (bd n).length cn,u64,undef,undef,undef,undef,undef,undef,undef,undef,undef,undef,undef,undef,undef,undef,undef,undef,undef,undef,undef,undef,undef,undef,undef,undef,undef,undef,undef,undef,undef,undef,undef],[]⟩)) (low_of (by kernel_rfl)) ?step ?fin _ _ _ _ (by rfl) (Nat.le_of_eq (by kernel_rfl)) ?init
  case init=>
   exact⟨false,false,false,false,false,false,false,false,false,false,undef,undef,undef,undef,undef,undef,undef,undef,undef,0,⟨rfl,rfl,rfl,rfl,rfl,rfl,rfl,rfl,rfl,rfl⟩,statics_of (by rfl),rfl,⟨zxj u4 .none,(λh=>by cases h),(λh=>by cases h),(λh=>by cases h),(λh=>by cases h),(λh=>by cases h),(λh=>by cases h),(λh=>by cases h),(λh=>by cases h),(λh=>by cases h),(λh=>by cases h),(λh=>by cases h),(λh=>by cases h)⟩⟩
  case step=>
   intro listed a w' i hs hun hpre hI
   unfold MIn at hI
   obtain⟨b1,b2,b4,b5,b8,b11,b12,b14,b15,b16,u51,u52,u54,u55,u58,u61,u62,u64,u9,p9,⟨e1,e2,e4,e5,e8,e11,e12,e14,e15,e16⟩,hst,rfl,J⟩:=hI
   have hls:i<listed.size:=lt_of_unlisted hun
   have hlt:i<17:=by rw[hs] at hls;exact hls
   have hno:∀ k∈([0,3,6,7,9,10,13]:List Nat),i≠k:=λk hk e=>by have h1:=hst k hk;rw[<-e,getD_unl hun] at h1;cases h1
   have hi:i=1\/i=2\/i=4\/i=5\/i=8\/i=11\/i=12\/i=14\/i=15\/i=16:=by
    simp only[List.mem_cons,List.not_mem_nil,or_false,forall_eq_or_imp,forall_eq] at hno
    omega
   have hst2:∀ k∈([0,3,6,7,9,10,13]:List Nat),(listed.setIfInBounds i true).getD k false=true:=λk hk=>lset (hst k hk) (λe=>hno k hk e)
   clear hno hlt hs
   rcases hi with rfl|rfl|rfl|rfl|rfl|rfl|rfl|rfl|rfl|rfl
   . have hb:b1=false:=by rw[<-e1];exact getD_unl hun
     subst hb
     have f2:b2=false:=Bool.eq_false_iff.2 λh=>by have:=(J.v2 h).1;cases this
     subst f2
     have f5:b5=false:=Bool.eq_false_iff.2 λh=>by have:=(J.v5 h).1;cases this
     subst f5
     have HJ:=Lz J
     clear J
     refine wpOp_step rfl (λK' hK=>?_)
     have HK:=Lz hK
     clear hK hun hpre
     go_wp2_with fail
     refine(primeD HF.out _).mono ?_
     rintro en x ⟨v,rfl,d,gr⟩
     obtain⟨pv,cv,rfl,rv⟩:=d
     have HV:=Lz (And.intro rv gr)
     clear rv gr
     go_wp2_with fail
     have J:=HJ.out.grow HV.out.2
     exact HK.out _ _ ⟨KS.out _ J.g,true,false,b4,false,b8,b11,b12,b14,b15,b16,_,u52,u54,u55,u58,u61,u62,u64,u9,p9,⟨lself hls,lset e2 (by decide),lset e4 (by decide),lset e5 (by decide),lset e8 (by decide),lset e11 (by decide),lset e12 (by decide),lset e14 (by decide),lset e15 (by decide),lset e16 (by decide)⟩,hst2,rfl,⟨J.g,λ_=>⟨_,_,rfl,HV.out.1⟩,(λh=>by cases h),J.v4,(λh=>by cases h),J.v8,J.v11,J.v12,J.v14,J.v15,J.h15,J.i16,J.f16⟩⟩
   . have hb:b2=false:=by rw[<-e2];exact getD_unl hun
     subst hb
     have t1:b1=true:=by rw[<-e1];exact hpre _ rfl ⟨1,.data⟩ (by simp) rfl
     subst t1
     obtain⟨pf,cf,rfl,rf⟩:=J.v1 rfl
     have HJ:=Lz J
     clear J rf
     refine wpOp_step rfl (λK' hK=>?_)
     have HK:=Lz hK
     clear hK hun hpre
     go_wp2_with fail
     have J:=HJ.out
     exact HK.out _ _ ⟨KS.out _ J.g,true,true,b4,b5,b8,b11,b12,b14,b15,b16,_,_,u54,u55,u58,u61,u62,u64,u9,p9,⟨lset e1 (by decide),lself hls,lset e4 (by decide),lset e5 (by decide),lset e8 (by decide),lset e11 (by decide),lset e12 (by decide),lset e14 (by decide),lset e15 (by decide),lset e16 (by decide)⟩,hst2,rfl,⟨J.g,J.v1,λ_=>⟨rfl,rfl⟩,J.v4,J.v5,J.v8,J.v11,J.v12,J.v14,J.v15,J.h15,J.i16,J.f16⟩⟩
   . have hb:b4=false:=by rw[<-e4];exact getD_unl hun
     subst hb
     have f5:b5=false:=Bool.eq_false_iff.2 λh=>by have:=(J.v5 h).2.1;cases this
     subst f5
     have HJ:=Lz J
     clear J
     refine wpOp_step rfl (λK' hK=>?_)
     have HK:=Lz hK
     clear hK hun hpre
     go_wp2_with fail
     refine(constD HF.out _).mono ?_
     rintro en x ⟨v,rfl,d,gr⟩
     obtain⟨pv,cv,rfl,rv⟩:=d
     have HV:=Lz (And.intro rv gr)
     clear rv gr
     go_wp2_with fail
     have J:=HJ.out.grow HV.out.2
     exact HK.out _ _ ⟨KS.out _ J.g,b1,b2,true,false,b8,b11,b12,b14,b15,b16,u51,u52,_,u55,u58,u61,u62,u64,u9,p9,⟨lset e1 (by decide),lset e2 (by decide),lself hls,lset e5 (by decide),lset e8 (by decide),lset e11 (by decide),lset e12 (by decide),lset e14 (by decide),lset e15 (by decide),lset e16 (by decide)⟩,hst2,rfl,⟨J.g,J.v1,J.v2,λ_=>⟨_,_,rfl,HV.out.1⟩,(λh=>by cases h),J.v8,J.v11,J.v12,J.v14,J.v15,J.h15,J.i16,J.f16⟩⟩
   . have hb:b5=false:=by rw[<-e5];exact getD_unl hun
     subst hb
     have t2:b2=true:=by rw[<-e2];exact hpre _ rfl ⟨2,.data⟩ (by simp) rfl
     subst t2
     have t4:b4=true:=by rw[<-e4];exact hpre _ rfl ⟨4,.data⟩ (by simp) rfl
     subst t4
     obtain⟨rfl,rfl⟩:=J.v2 rfl
     obtain⟨pf,cf,rfl,rf⟩:=J.v1 rfl
     obtain⟨pb,cb,rfl,rb⟩:=J.v4 rfl
     have HJ:=Lz J
     clear J rf rb
     refine wpOp_step rfl (λK' hK=>?_)
     have HK:=Lz hK
     clear hK hun hpre
     go_wp2_with fail
     have J:=HJ.out
     exact HK.out _ _ ⟨KS.out _ J.g,true,true,true,true,b8,b11,b12,b14,b15,b16,_,_,_,_,u58,u61,u62,u64,u9,p9,⟨lset e1 (by decide),lset e2 (by decide),lset e4 (by decide),lself hls,lset e8 (by decide),lset e11 (by decide),lset e12 (by decide),lset e14 (by decide),lset e15 (by decide),lset e16 (by decide)⟩,hst2,rfl,⟨J.g,J.v1,J.v2,J.v4,λ_=>⟨rfl,rfl,rfl⟩,J.v8,J.v11,J.v12,J.v14,J.v15,J.h15,J.i16,J.f16⟩⟩
   . have hb:b8=false:=by rw[<-e8];exact getD_unl hun
     subst hb
     have f12:b12=false:=Bool.eq_false_iff.2 λh=>by have:=(J.v12 h).1;cases this
     subst f12
     have HJ:=Lz J
     clear J
     refine wpOp_step rfl (λK' hK=>?_)
     have HK:=Lz hK
     clear hK hun hpre
     go_wp2_with fail
     refine(fromD (BXY.out _ HJ.out.g).1).mono ?_
     rintro en x ⟨v,rfl,d,gr⟩
     obtain⟨pv,cv,rfl,rv⟩:=d
     have HV:=Lz (And.intro rv gr)
     clear rv gr
     go_wp2_with fail
     have J:=HJ.out.grow HV.out.2
     exact HK.out _ _ ⟨KS.out _ J.g,b1,b2,b4,b5,true,b11,false,b14,b15,b16,u51,u52,u54,u55,_,u61,u62,u64,u9,p9,⟨lset e1 (by decide),lset e2 (by decide),lset e4 (by decide),lset e5 (by decide),lself hls,lset e11 (by decide),lset e12 (by decide),lset e14 (by decide),lset e15 (by decide),lset e16 (by decide)⟩,hst2,rfl,⟨J.g,J.v1,J.v2,J.v4,J.v5,λ_=>⟨_,_,rfl,HV.out.1⟩,J.v11,(λh=>by cases h),J.v14,J.v15,J.h15,J.i16,J.f16⟩⟩
   . have hb:b11=false:=by rw[<-e11];exact getD_unl hun
     subst hb
     have f12:b12=false:=Bool.eq_false_iff.2 λh=>by have:=(J.v12 h).2.1;cases this
     subst f12
     have HJ:=Lz J
     clear J
     refine wpOp_step rfl (λK' hK=>?_)
     have HK:=Lz hK
     clear hK hun hpre
     go_wp2_with fail
     refine(fromD (BXY.out _ HJ.out.g).2).mono ?_
     rintro en x ⟨v,rfl,d,gr⟩
     obtain⟨pv,cv,rfl,rv⟩:=d
     have HV:=Lz (And.intro rv gr)
     clear rv gr
     go_wp2_with fail
     have J:=HJ.out.grow HV.out.2
     exact HK.out _ _ ⟨KS.out _ J.g,b1,b2,b4,b5,b8,true,false,b14,b15,b16,u51,u52,u54,u55,u58,_,u62,u64,u9,p9,⟨lset e1 (by decide),lset e2 (by decide),lset e4 (by decide),lset e5 (by decide),lset e8 (by decide),lself hls,lset e12 (by decide),lset e14 (by decide),lset e15 (by decide),lset e16 (by decide)⟩,hst2,rfl,⟨J.g,J.v1,J.v2,J.v4,J.v5,J.v8,λ_=>⟨_,_,rfl,HV.out.1⟩,(λh=>by cases h),J.v14,J.v15,J.h15,J.i16,J.f16⟩⟩
   . have hb:b12=false:=by rw[<-e12];exact getD_unl hun
     subst hb
     have t8:b8=true:=by rw[<-e8];exact hpre _ rfl ⟨8,.data⟩ (by simp) rfl
     subst t8
     have t11:b11=true:=by rw[<-e11];exact hpre _ rfl ⟨11,.data⟩ (by simp) rfl
     subst t11
     obtain⟨px,cx,rfl,rx⟩:=J.v8 rfl
     obtain⟨py,cy,rfl,ry⟩:=J.v11 rfl
     have HJ:=Lz J
     clear J rx ry
     refine wpOp_step rfl (λK' hK=>?_)
     have HK:=Lz hK
     clear hK hun hpre
     go_wp2_with fail
     have J:=HJ.out
     exact HK.out _ _ ⟨KS.out _ J.g,b1,b2,b4,b5,true,true,true,b14,b15,b16,u51,u52,u54,u55,_,_,_,u64,u9,p9,⟨lset e1 (by decide),lset e2 (by decide),lset e4 (by decide),lset e5 (by decide),lset e8 (by decide),lset e11 (by decide),lself hls,lset e14 (by decide),lset e15 (by decide),lset e16 (by decide)⟩,hst2,rfl,⟨J.g,J.v1,J.v2,J.v4,J.v5,J.v8,J.v11,λ_=>⟨rfl,rfl,rfl⟩,J.v14,J.v15,J.h15,J.i16,J.f16⟩⟩
   . have hb:b14=false:=by rw[<-e14];exact getD_unl hun
     subst hb
     have f16:b16=false:=Bool.eq_false_iff.2 λh=>by have:=(J.i16 h).1;cases this
     subst f16
     have t5:b5=true:=by rw[<-e5];exact hpre _ rfl ⟨5,.data⟩ (by simp) rfl
     subst t5
     have t12:b12=true:=by rw[<-e12];exact hpre _ rfl ⟨12,.data⟩ (by simp) rfl
     subst t12
     obtain⟨rfl,rfl,rfl⟩:=J.v5 rfl
     obtain⟨rfl,rfl,rfl⟩:=J.v12 rfl
     obtain⟨pf,cf,rfl,-⟩:=id (J.v1 rfl)
     obtain⟨pb,cb,rfl,-⟩:=id (J.v4 rfl)
     obtain⟨px,cx,rfl,-⟩:=id (J.v8 rfl)
     obtain⟨py,cy,rfl,-⟩:=id (J.v11 rfl)
     have TS:=Lz (timesS HF.out.grp HF.out.fd HF.out.p9 rfl rfl rfl rfl HM.out HF.out.bp KL.out (J.v1 rfl) (dg_nil _) (J.v4 rfl) (J.v8 rfl) (J.v11 rfl) (RN.out _ J.g))
     have HJ:=Lz J
     clear J
     refine wpOp_step rfl (λK' hK=>?_)
     have HK:=Lz hK
     clear hK hun hpre
     go_wp2_with fail
     refine TS.out.mono ?_
     rintro en x ⟨a,d,rfl,d1,d2,gr⟩
     have HV:=Lz (And.intro d1 (And.intro d2 gr))
     clear d1 d2 gr
     go_wp2_with fail
     have J:=HJ.out.grow HV.out.2.2
     exact HK.out _ _ ⟨KS.out _ J.g,true,b2,true,true,true,true,true,true,b15,false,_,u52,_,_,_,_,_,_,u9,p9,⟨lset e1 (by decide),lset e2 (by decide),lset e4 (by decide),lset e5 (by decide),lset e8 (by decide),lset e11 (by decide),lset e12 (by decide),lself hls,lset e15 (by decide),lset e16 (by decide)⟩,hst2,rfl,⟨J.g,J.v1,J.v2,J.v4,J.v5,J.v8,J.v11,J.v12,λ_=>⟨a,d,rfl,HV.out.1,HV.out.2.1⟩,J.v15,J.h15,(λh=>by cases h),(λh=>by cases h)⟩⟩
   . have hb:b15=false:=by rw[<-e15];exact getD_unl hun
     subst hb
     have f16:b16=false:=Bool.eq_false_iff.2 λh=>by have:=(J.i16 h).2;cases this
     subst f16
     have HJ:=Lz J
     clear J
     refine wpOp_step rfl (λK' hK=>?_)
     have HK:=Lz hK
     clear hK hun hpre
     go_wp2_with fail
     have J:=HJ.out.grow (zzy w' (.cells #[.slice .none 0 0,.slice .none 0 0,.bool false] 45) .none)
     have sz:(w'.alloc (.cells #[.slice .none 0 0,.slice .none 0 0,.bool false] 45)).heap.size=w'.heap.size+1:=Array.size_push _
     exact HK.out _ _ ⟨KS.out _ J.g,b1,b2,b4,b5,b8,b11,b12,b14,true,false,u51,u52,u54,u55,u58,u61,u62,u64,_,w'.heap.size,⟨lset e1 (by decide),lset e2 (by decide),lset e4 (by decide),lset e5 (by decide),lset e8 (by decide),lset e11 (by decide),lset e12 (by decide),lset e14 (by decide),lself hls,lset e16 (by decide)⟩,hst2,rfl,⟨J.g,J.v1,J.v2,J.v4,J.v5,J.v8,J.v11,J.v12,J.v14,λ_=>⟨rfl,HJ.out.g.size,by rw[sz];omega⟩,λ_ _=>heap_alloc_new w' (.cells #[.slice .none 0 0,.slice .none 0 0,.bool false] 45),(λh=>by cases h),(λh=>by cases h)⟩⟩
   . have hb:b16=false:=by rw[<-e16];exact getD_unl hun
     subst hb
     have t14:b14=true:=by rw[<-e14];exact hpre _ rfl ⟨14,.data⟩ (by simp) rfl
     subst t14
     have t15:b15=true:=by rw[<-e15];exact hpre _ rfl ⟨15,.data⟩ (by simp) rfl
     subst t15
     obtain⟨a,d,rfl,⟨pa,ca,rfl,-⟩,⟨pd,cd,rfl,-⟩⟩:=id (J.v14 rfl)
     obtain⟨rfl,-⟩:=J.v15 rfl
     have HJ:=Lz J
     have hb:=J.h15 rfl rfl
     have r0:=zzv (k:=0) hb rfl
     have r1:=zzv (k:=1) hb rfl
     have r2:=zzv (k:=2) hb rfl
     have x0:=zxq hb 0
     have x1:=zxq hb 1
     have x2:=zxq hb 2
     clear J hb
     refine wpOp_step rfl (λK' hK=>?_)
     have HK:=Lz hK
     clear hK hun hpre
     go_wp2_with fail
     have J:=HJ.out.st
     exact HK.out _ _ ⟨KS.out _ J.g,b1,b2,b4,b5,b8,b11,b12,true,true,true,u51,u52,u54,u55,u58,u61,u62,_,_,p9,⟨lset e1 (by decide),lset e2 (by decide),lset e4 (by decide),lset e5 (by decide),lset e8 (by decide),lset e11 (by decide),lset e12 (by decide),lset e14 (by decide),lset e15 (by decide),lself hls⟩,hst2,rfl,J⟩
  case fin=>
   intro listed a w' hs hall hI
   unfold MIn at hI
   obtain⟨b1,b2,b4,b5,b8,b11,b12,b14,b15,b16,u51,u52,u54,u55,u58,u61,u62,u64,u9,p9,⟨e1,e2,e4,e5,e8,e11,e12,e14,e15,e16⟩,hst,rfl,J⟩:=hI
   have hal:∀ k,k<17->listed.getD k false=true:=λk hk=>getD_all (hall k (by simpa using hk)) (by rw[hs];simpa using hk)
   obtain rfl:b14=true:=by rw[<-e14];exact hal 14 (by decide)
   obtain rfl:b15=true:=by rw[<-e15];exact hal 15 (by decide)
   obtain rfl:b16=true:=by rw[<-e16];exact hal 16 (by decide)
   obtain⟨a,d,rfl,d1,d2⟩:=J.v14 rfl
   obtain⟨a',d',e',hb⟩:=J.f16 rfl
   injection e' with e'
   have e2:=congrArg Array.toList e'
   simp at e2
   obtain⟨rfl,rfl⟩:=e2
   obtain⟨rfl,-⟩:=J.v15 rfl
   have HL:=Lz (show u4.grownBy w' .none/\∃ a b,w'.heap[p9]? = some (.cells #[a,b,.bool false] 45 (0,0))/\Dg w' a X'/\Dg w' b Y' from⟨J.g,a,d,hb,d1,d2⟩)
   clear J d1 d2 hb e' hst hall hal hs e1 e2 e4 e5 e8 e11 e12 e14 e15 e16
   refine NoPanic.normal ?_
   go_wp2_with fail
   go_meet
   exact⟨p9,rfl,HL.out⟩
 case rest=>
  as_aux_lemma=>
   obtain⟨p9,rfl,HL⟩:=hcut
   obtain⟨gr9,va,vb,h9,dX,dY⟩:=HL.out
   have LX:=coords_lt HF.out.grp HM.out
   obtain⟨pa,ca,rfl,ra⟩:=id dX
   obtain⟨pb,cb,rfl,rb⟩:=id dY
   have hl0:0<ks.length:=by
    rcases Nat.eq_zero_or_pos ks.length with e|e
    . have h1:=HN.out
      rw[List.eq_nil_of_length_eq_zero e] at h1
      have:=HN0.out
      simp[bev] at h1
      omega
    . exact e
   obtain⟨kb,ko,rfl⟩:=RW.out.2.2.1 hl0
   obtain⟨K9,hK9⟩:∃ K9:Nat->Prop,K9=λk=>K k\/k=p9\/(∃ o,pa=some ⟨k,o,.none⟩/\0<(bd X').length)\/∃ o,pb=some ⟨k,o,.none⟩/\0<(bd Y').length:=⟨_,rfl⟩
   have GW:=A4.out.1.trans gr9
   have S9:=Lz (mult_start hK9 S3.out.1 GW h9 ra rb RW.out hl0 (by have:=H40.out;have:=HKR.out.2.2;omega) (HKK.out _ (HKR.out.2.1 kb ko rfl hl0)) S3.out.2.2.2.1 S3.out.2.2.2.2)
   have NM:=namedMultO HF.out S9.out.1.own ae S9.out.1.eof gX gY _ _ kb ko ck ks (BXY.out _ gr9).1 (BXY.out _ gr9).2 S9.out.2.2.1 S9.out.2.2.2.1 S9.out.2.1 S9.out.2.2.2.2.1 (by have:=HN0.out;have:=HN.out;omega) (by have:=HNB.out;have:=HN.out;omega)
   rw[<-HKR.out.2.2] at NM
   have NM:=Lz NM
   have q3:=zzv (k:=3) S9.out.1.blk HC.out.2.1
   have q4:=zzv (k:=4) S9.out.1.blk HC.out.2.2
   have H9:=Lz (And.intro h9 (And.intro ra (And.intro rb (And.intro (HF.out.small LX.1) (HF.out.small LX.2)))))
   clear hK9 GW h9 dX dY ra rb gr9 HL LX hl0
   go_wp2_with fail
   refine NM.out.mono ?_
   rintro en w14 hq
   obtain⟨X4,Y4,v7,v8,g7,g8,rfl,p4,k14,s14,b7,b8,z1,z2⟩:=S9.out.1.great hq
   have EQ:X4=X'/\Y4=Y':=by
    have e:=HM.out
    rw[HN.out,p4] at e
    injection e with e1 e2
    omega
   obtain⟨rfl,rfl⟩:=EQ
   have h14:w14.heap[p9]? = some (.cells #[.slice pa (bd X4).length ca,.slice pb (bd Y4).length cb,.bool false] 45 (0,0)):=(k14.block p9 (Array.getElem?_eq_some_iff.1 H9.out.1).1 (λe=>e S9.out.2.2.2.2.2.1)).trans H9.out.1
   have RA:=Lz (rowIK H9.out.2.1 k14 S9.out.2.2.2.2.2.2.1)
   have RB:=Lz (rowIK H9.out.2.2.1 k14 S9.out.2.2.2.2.2.2.2)
   have CC:=Lz (λ(w':World) (k:w14.grownBy w' .none)=>(three (blk_keep h14 k) (zyz _ _):w'.cell? ⟨p9,0,.none⟩=some (.slice pa (bd X4).length ca)/\w'.cell? ⟨p9,1,.none⟩=some (.slice pb (bd Y4).length cb)/\w'.cell? ⟨p9,2,.none⟩=some (.bool false)))
   have BB:=Lz (λ(w':World) (k:w14.grownBy w' .none)=>(⟨b7.kept (R:=λ_=>True) (Grow.none k _) trivial,b8.kept (R:=λ_=>True) (Grow.none k _) trivial⟩:ByV w' g7 v7 X4/\ByV w' g8 v8 Y4))
   have KE:=Lz s14.kept
   obtain⟨o7,ks7,rfl,-⟩:=id b7
   obtain⟨o8,ks8,rfl,-⟩:=id b8
   have CA:=Lz (bytesBigS pa ca X4 w14 RA.out H9.out.2.2.2.1)
   obtain⟨s0,s1,s2⟩:=CC.out w14 (zyz _ _)
   clear hq p4 k14 s14 b7 b8 z1 z2 h14 q3 q4
   go_wp2_with fail
   refine CA.out.mono ?_
   rintro en w15 ⟨pr,cr,kr,rfl,ru,ev,zr,gr⟩
   obtain⟨s0,s1,s2⟩:=CC.out w15 gr
   have G15:=Lz gr
   have SA:=Lz (sameG (BB.out _ gr).1 ru ev zr)
   clear ru ev zr gr CA
   go_wp2_with fail
   refine SA.out.mono ?_
   rintro en w16 ⟨rfl,gr⟩
   have G16:=Lz (G15.out.trans gr)
   obtain⟨s0,s1,s2⟩:=CC.out w16 G16.out
   have CB:=Lz (bytesBigS pb cb Y4 w16 (RB.out.kept G16.out) H9.out.2.2.2.2)
   clear gr SA
   go_wp2_with fail
   refine CB.out.mono ?_
   rintro en w17 ⟨pr2,cr2,kr2,rfl,ru,ev,zr,gr⟩
   have G17:=Lz (G16.out.trans gr)
   have SB:=Lz (sameG (BB.out _ G17.out).2 ru ev zr)
   clear ru ev zr gr CB
   go_wp2_with fail
   refine SB.out.mono ?_
   rintro en w18 ⟨rfl,gr⟩
   have HE:=Lz (HS0.out.1.turned (KE.out.trans (Grow.none (G17.out.trans gr) _)))
   clear gr SB
   go_wp2_with fail
   go_ret
   exact⟨rfl,HE.out⟩
end
end Go.Proofs.YtohhkjamddojmaaGreatDoor.Bit
