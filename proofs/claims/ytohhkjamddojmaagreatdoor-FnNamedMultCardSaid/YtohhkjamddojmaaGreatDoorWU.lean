/- A row divided by a word: 'divWVW', 'divW'. 'div' of natural numbers: by one word; of a smaller number. Ints in memory: a family of them, each a struct of two cells and its words. Sums and differences of Ints. -/
import Derived.Test.YtohhkjamddojmaaGreatDoorWR
set_option maxRecDepth 100000
set_option maxHeartbeats 16000000
namespace Go.Proofs.YtohhkjamddojmaaGreatDoor.Big
open Go.RowKit
def DivVP (bz n:Nat) (zs X:List Nat) (y:Nat) (w:World) (e:Ending) (w':World):Prop:=
 ∃ ks r,e=.returned (wd r)/\NatB w' bz (spl zs 0 ks)/\ks.length=n/\Words ks/\val ks*y+r=val X/\r<y/\w.grownBy w' (some bz)
theorem spl_set_ahead {zs ks:List Nat} {k q:Nat} (h:k+1+ks.length<=zs.length):(spl zs (k+1) ks).set k q=spl zs k (q :: ks):=by
 unfold spl
 have e:(zs.take (k+1)).length=k+1:=by simp;omega
 rw[List.append_assoc,List.set_append_left _ _ (by omega)]
 have e2:(zs.take (k+1)).set k q=zs.take k ++ [q]:=by
  rw[List.take_succ_eq_append_getElem (by omega),List.set_append_right _ _ (by simp;omega),List.length_take,Nat.min_eq_left (by omega),Nat.sub_self]
  rfl
 rw[e2,List.length_cons]
 simp[Nat.add_assoc,Nat.add_comm 1]
theorem spl_getD_ahead {zs ks:List Nat} {k i:Nat} (h:i<k) (hk:k<=zs.length):(spl zs k ks).getD i 0=zs.getD i 0:=by
 unfold spl
 have e:(zs.take k).length=k:=by simp;omega
 simp only[List.getD]
 rw[List.append_assoc,List.getElem?_append_left (by omega),List.getElem?_take,if_pos h]
structure DVInv (bz:Nat) (zs X:List Nat) (y k:Nat) (ks:List Nat) (r:Nat) (w wr:World):Prop where
 row:NatB wr bz (spl zs k ks)
 len:k+ks.length=X.length
 words:Words ks
 eq:val ks*y+r=val (X.drop k)
 lt:r<y
 grown:w.grownBy wr (some bz)
theorem dv_step {ks X:List Nat} {y k r x:Nat} (h:val ks*y+r=val (X.drop (k+1))) (hk:k<X.length) (hx:X.getD k 0=x) (_hy:0<y):val ((r*B64+x)/y :: ks)*y+(r*B64+x)%y=val (X.drop k):=by
 have e:X.drop k=x :: X.drop (k+1):=by
  rw[List.drop_eq_getElem_cons hk]
  congr 1
  simpa [List.getD,hk] using hx
 rw[e]
 show((r*B64+x)/y+B64*val ks)*y+(r*B64+x)%y=x+B64*val (X.drop (k+1))
 rw[<-h,Nat.add_mul,Nat.mul_add,Nat.mul_assoc B64]
 have:=Nat.div_add_mod (r*B64+x) y
 rw[Nat.mul_comm] at this
 rw[Nat.mul_comm B64 r]
 omega
theorem dv_lt {r x y:Nat} (hr:r<y) (hx:x<B64):(r*B64+x)/y<B64:=by
 rw[Nat.div_lt_iff_lt_mul (by omega)]
 have:(r+1)*B64<=y*B64:=Nat.mul_le_mul_right _ hr
 rw[Nat.add_mul,Nat.one_mul,Nat.mul_comm y] at this
 omega
theorem divWVW (bz n cz bx cx:Nat) (zs xs:List Nat) (y:Nat) (w:World) (hz:NatB w bz zs) (hx:NatB w bx xs) (hzn:n<=zs.length) (hxn:n<=xs.length)
 (hwx:Words xs) (hy:y<B64) (hy0:0<y) (h1:1<=n) (hn:n<=1000000) :
 Calls Tryz.prog 233 #[.slice (some ⟨bz,0,.none⟩) n cz,wd 0,.slice (some ⟨bx,0,.none⟩) n cx,wd y] w (DivVP bz n zs (xs.take n) y w):=by
 by_cases hn1:n=1
 . subst hn1
   have hc:=hx.cell 0 (by omega)
   have hw0:=hwx.getD 0
   have HD:=Lz (bitsDiv 0 (xs.getD 0 0) y hw0 hy hy0 w)
   have hxt:xs.take 1 = [xs.getD 0 0]:=by
    match xs,hxn with
    | _ :: _,_=>rfl
   rw[hxt]
   have hzc:∀ k,(w.drewN k).cell? ⟨bz,0,.none⟩=some (wd (zs.getD 0 0)):=λk=>hz.cell 0 (by omega)
   have hzf:∀ k,(w.drewN k).frozen? ⟨bz,0,.none⟩=false:=λk=>hz.free 0
   generalize xs.getD 0 0=x at *
   generalize zs.getD 0 0=z0 at *
   have HZ:=Lz hz
   have HY:=Lz hy
   have HY0:=Lz hy0
   have HW:=Lz hw0
   clear hz hx hwx hy hxt hw0 hy0
   go_enter Tryz.func233,Tryz.ntmps233
   go_wp2_with fail
   refine HD.out.mono ?_
   rintro e w1 ⟨rfl,k,rfl⟩
   rw[Nat.zero_mul,Nat.zero_add]
   have hs:=(HZ.out.drewN k).set 0 (x/y)
   have e:zs.set 0 (x/y)=spl zs 0 [x/y]:=by
    have:=spl_set (zs:=zs) (ks:=[]) (o:=0) (v:=x/y) (by simp;omega)
    rw[spl_nil] at this
    exact this
   rw[e] at hs
   have HS:=Lz hs
   have HE:=Lz (Nat.div_add_mod x y)
   have HL:=Lz (show x/y<B64 from Nat.lt_of_le_of_lt (Nat.div_le_self _ _) HW.out)
   have HM:=Lz (Nat.mod_lt x HY0.out)
   clear hs e
   generalize x/y=q at *
   generalize x%y=r at *
   go_wp2_with fail
   go_ret
   exact⟨[q],r,rfl,HS.out,rfl,Words.one HL.out,by rw[val_one,val_one,Nat.mul_comm];exact HE.out,HM.out,zzx (zzz _ _ _) (zzw _ _ _ _)⟩
 . have HR:=Lz (reciprocalWord y hy (by omega) w)
   have HZ:=Lz hz
   have HX:=Lz hx
   have HWX:=Lz hwx
   have HY:=Lz hy
   have HY0:=Lz hy0
   have hxl:(xs.take n).length=n:=by simp;omega
   have hn1z:((n:Int)==1)=false:=by rw[beq_eq_false_iff_ne];omega
   have HXL:=Lz hxl
   clear hz hx hwx hy hy0 hxl
   go_enter Tryz.func233,Tryz.ntmps233
   go_wp2_with fail
   refine HR.out.mono ?_
   rintro e w1 ⟨rfl,k0,rfl⟩
   go_wp2_with fail
   go_loopw [8,12] (λrv iv wr=>∃ k:Nat,k<=n/\iv=.int .i64 ((k:Int)-1)/\∃ ks r,rv=wd r/\DVInv bz zs (xs.take n) y k ks r w wr) (λ_ iv _=>(intOf iv+1).toNat)
   case atStart=>
    refine⟨n,Nat.le_refl _,by rfl,[],0,rfl,by rw[spl_nil];exact HZ.out.drewN _,by rw[HXL.out];rfl,Words.nil,?_,HY0.out,zzz _ _ _⟩
    rw[List.drop_eq_nil_of_le (by have:=HXL.out;omega)];simp[val]
   case round=>
    obtain⟨k,hk,rfl,ks,r,rfl,S⟩:=hrel
    by_cases hk0:k=0
    . subst hk0
      go_wp2_with fail
      go_ret
      have hl:=S.len
      have he:=S.eq
      rw[Nat.zero_add] at hl
      rw[List.drop_zero] at he
      exact⟨ks,r,rfl,S.row,by rw[hl,HXL.out],S.words,he,S.lt,S.grown⟩
    . obtain⟨j,rfl⟩:∃ j,k=j+1:=⟨k-1,by omega⟩
      have hj:(((j+1:Nat):Int)-1)=(j:Int):=by omega
      rw[hj]
      have hsl:(j+1)+ks.length<=zs.length:=by have:=S.len;rw[HXL.out] at this;omega
      have hrl:(spl zs (j+1) ks).length=zs.length:=zzk hsl
      have hxc:wr.cell? ⟨bx,j,.none⟩=some (wd (xs.getD j 0)):=by
       by_cases hne:bx=bz
       . subst hne
         obtain rfl:=HX.out.inj HZ.out
         rw[S.row.cell j (by omega),spl_getD_ahead (by omega) (by omega)]
       . exact(HX.out.kept S.grown (by simpa using hne)).cell j (by omega)
      have hzc:=S.row.cell j (by omega)
      have hzf:=S.row.free j
      have hw:=HWX.out.getD j
      have hxt:(xs.take n).getD j 0=xs.getD j 0:=by
       simp only[List.getD,List.getElem?_take];rw[if_pos (by omega)]
      generalize xs.getD j 0=x at *
      generalize (spl zs (j+1) ks).getD j 0=zold at *
      have hD:=divWW r x y hw HY.out S.lt wr
      unfold DivP at hD
      have HD:=Lz hD
      clear hD
      have HST:=Lz (dv_step (x:=x) S.eq (by rw[HXL.out];omega) hxt HY0.out)
      have HQL:=Lz (dv_lt S.lt hw)
      have HML:=Lz (Nat.mod_lt (r*B64+x) HY0.out)
      have HRow:=Lz (λd q=>by have:=(S.row.drewN d).set j q;rwa [spl_set_ahead hsl] at this:∀ d q,NatB ((wr.drewN d).setCell ⟨bz,j,.none⟩ (wd q)) bz (spl zs j (q :: ks)))
      generalize (r*B64+x)/y=q at *
      generalize (r*B64+x)%y=r2 at *
      have hjn:(j:Int)<(n:Int):=by omega
      have hj0:(0:Int)<=(j:Int):=by omega
      clear hw hxt hsl hrl hk0 hj
      go_wp2_with fail
      refine HD.out.mono ?_
      rintro e w2 ⟨rfl,d,rfl⟩
      go_wp2_with fail
      go_roundw
      case rel=>exact⟨j,by omega,rfl,q :: ks,r2,rfl,HRow.out _ _,by rw[List.length_cons];have:=S.len;omega,λz hz=>by rcases List.mem_cons.1 hz with rfl|hz;exact HQL.out;exact S.words z hz,HST.out,HML.out,zzx S.grown (zzx (zzz _ _ _) (zzw _ _ _ _))⟩
      case measure=>simp[intOf]
def DivWP (p:Option Addr) (a y:Nat) (w:World) (e:Ending) (w':World):Prop:=
 ∃ p' cs',e=.returned (.tuple #[.slice p' (dg (a/y)).length cs'.length,wd (a%y)])/\Num w' p' (dg (a/y)) cs'/\w.grownBy w' (blk p)/\Fresh w p p'
theorem nat_divW (p q:Option Addr) (l a y:Nat) (cs ds:List Nat) (w:World) (h:Buf w p cs) (hx:Num w q (dg a) ds) (hX:(dg a).length<=80000) (hy:y<B64) (hy0:0<y) :
 Calls Tryz.prog 211 #[.slice p l cs.length,.slice q (dg a).length ds.length,wd y] w (DivWP p a y w):=by
 by_cases h1:y=1
 . subst h1
   have HS:=Lz (nat_set p q l cs (dg a) ds w h hx hX)
   unfold DivWP
   rw[Nat.div_one,Nat.mod_one]
   clear h hx hy hy0
   generalize dg a=X at *
   go_enter Tryz.func211,Tryz.ntmps211
   go_wp2_with fail
   refine HS.out.mono ?_
   rintro e w1 ⟨p',cs',rfl,hn⟩
   have HN:=Lz hn
   clear hn
   go_wp2_with fail
   go_ret2
   exact⟨p',cs',rfl,HN.out⟩
 . have hz0:((y:Int)==0)=false:=by rw[beq_eq_false_iff_ne];omega
   have hz1:((y:Int)==1)=false:=by rw[beq_eq_false_iff_ne];omega
   by_cases h0:a=0
   . subst h0
     have K:DivWP p 0 y w (.returned (.tuple #[.slice p 0 cs.length,wd 0])) w:=⟨p,cs,by rw[Nat.zero_div,zyv,Nat.zero_mod];rfl,⟨h,by rw[Nat.zero_div,zyv];rfl,by rw[Nat.zero_div,zyv];exact Nat.zero_le _⟩,zyz _ _,.inl rfl⟩
     have HK:=Lz K
     have HP:=Lz h.shape
     rw[zyv] at *
     clear h hx K hX hy hy0 h1
     rcases HP.out with rfl|⟨b,rfl⟩
     all_goals
      go_enter Tryz.func211,Tryz.ntmps211
      go_wp2_with fail
      go_ret2
      exact HK.out
   . have hl:=zyw h0
     have HV:=Lz (val_dg a)
     have hxl:=hx.le
     have HB:=Lz h
     have HX:=Lz hx
     have HY:=Lz hy
     have HY0:=Lz hy0
     have hz2:(((dg a).length:Int)==0)=false:=by rw[beq_eq_false_iff_ne];omega
     clear h hx h0 hy hy0 h1
     generalize dg a=X at *
     go_enter Tryz.func211,Tryz.ntmps211
     go_wp2_with fail
     refine(nat_make p l X.length cs w HB.out (by omega)).mono ?_
     rintro e w1 ⟨p',cs',rfl,hb,hn,hg,hor⟩
     obtain⟨bz,rfl,hzN⟩:=hb.at (by omega)
     have hx1:=HX.out.kept hg (λ_ _=>by simp)
     obtain⟨bx,rfl,hxN,-⟩:=hx1.cell (by omega)
     have hD:=divWVW bz X.length cs'.length bx ds.length cs' ds y w1 hzN hxN (by omega) (by omega) hx1.buf.2.1 HY.out HY0.out (by omega) (by omega)
     rw[hx1.take] at hD
     have H10:=Lz hD
     have HBN:=Lz hb
     have HG:=Lz hg
     have HO:=Lz hor
     clear hzN hxN hb hx1 hg hor hD
     go_wp2_with fail
     refine H10.out.mono ?_
     rintro e w2 ⟨ks,r,rfl,hN2,hkl,hkw,hkv,hr,hG2⟩
     rw[HV.out] at hkv
     have hqv:val ks=a/y/\r=a%y:=by
      have h1:a/y=val ks:=by rw[<-hkv,Nat.add_comm,Nat.add_mul_div_right _ _ HY0.out,Nat.div_eq_of_lt hr,Nat.zero_add]
      have h2:a%y=r:=by rw[<-hkv,Nat.add_comm,Nat.add_mul_mod_self_right,Nat.mod_eq_of_lt hr]
      exact⟨h1.symm,h2.symm⟩
     have hl5:(spl cs' 0 ks).length=cs'.length:=zzk (by omega)
     have hB5:Buf w2 (some ⟨bz,0,.none⟩) (spl cs' 0 ks):=HBN.out.spl hN2 hkw (by omega)
     have ht5:(spl cs' 0 ks).take X.length=ks:=by
      have:=spl_zero (zs:=cs') (ks:=ks) (by omega)
      rwa [hkl] at this
     obtain⟨hl6,hN6⟩:=Num.of_norm hB5 ht5 hqv.1 (by rw[hl5];omega)
     have HNM:=Lz (nat_norm (some ⟨bz,0,.none⟩) X.length _ _ hB5 (by rw[hl5];omega))
     rw[hl5] at HNM
     have HL5:=Lz hl5
     have HL6:=Lz hl6
     have HN6:=Lz hN6
     have HGF:=Lz (grown_or (zwz HG.out _) (p':=some ⟨bz,0,.none⟩) hG2 (MakeP.or HO.out))
     have HR:=Lz hqv.2
     clear hkl hl5 hB5 ht5 hl6 hN6 hN2 hkw hkv hr hG2 hqv
     go_wp2_with fail
     refine HNM.out.mono ?_
     rintro e w4 ⟨rfl,rfl⟩
     rw[HL5.out,HL6.out]
     go_wp2_with fail
     go_ret2
     exact⟨some ⟨bz,0,.none⟩,_,by rw[HL5.out,<-HR.out];rfl,HN6.out,HGF.out,MakeP.or HO.out⟩
end Go.Proofs.YtohhkjamddojmaaGreatDoor.Big
namespace Go.Proofs.YtohhkjamddojmaaGreatDoor.Big
open Go.RowKit
structure Grow (w w':World) (S:Nat->Prop):Prop where
 os:w'.os=w.os
 tape:w'.tape=w.tape
 output:w'.output=w.output
 size:w.heap.size<=w'.heap.size
 block:∀ k,k<w.heap.size->¬S k->w'.heap[k]? = w.heap[k]?
theorem Grow.refl (w:World) (S:Nat->Prop):Grow w w S:=⟨rfl,rfl,rfl,Nat.le_refl _,λ_ _ _=>rfl⟩
theorem Grow.trans {a b c:World} {S:Nat->Prop} (h:Grow a b S) (k:Grow b c S):Grow a c S:=
 ⟨k.os.trans h.os,k.tape.trans h.tape,k.output.trans h.output,Nat.le_trans h.size k.size,λi hi hr=>(k.block i (Nat.lt_of_lt_of_le hi h.size) hr).trans (h.block i hi hr)⟩
theorem Grow.weaken {a b:World} {S T:Nat->Prop} (h:Grow a b S) (hs:∀ k,k<a.heap.size->S k->T k):Grow a b T:=
 ⟨h.os,h.tape,h.output,h.size,λi hi hr=>h.block i hi (λe=>hr (hs i hi e))⟩
theorem Grow.of {w w':World} {row:Option Nat} (h:w.grownBy w' row):Grow w w' (λk=>row=some k):=
 ⟨h.os,h.tape,h.output,h.size,λk hk hr=>h.block k hk (λe=>hr e.symm)⟩
theorem Grow.none {w w':World} (h:w.grownBy w' .none) (S:Nat->Prop):Grow w w' S:=(Grow.of h).weaken (λ_ _ e=>by cases e)
theorem NatB.grow {w w':World} {b:Nat} {cs:List Nat} {S:Nat->Prop} (h:NatB w b cs) (hg:Grow w w' S) (hne:¬S b):NatB w' b cs:=by
 have hlt:=h.lt
 unfold NatB at *
 rw[hg.block b hlt hne,h]
theorem Buf.grow {w w':World} {p:Option Addr} {cs:List Nat} {S:Nat->Prop} (h:Buf w p cs) (hg:Grow w w' S) (hne:∀ b,blk p=some b->¬S b):Buf w' p cs:=by
 refine⟨?_,h.2⟩
 rcases h.1 with h1|⟨b,rfl,hb⟩
 . exact .inl h1
 . exact .inr ⟨b,rfl,hb.grow hg (hne b rfl)⟩
theorem Num.grow {w w':World} {q:Option Addr} {X ds:List Nat} {S:Nat->Prop} (h:Num w q X ds) (hg:Grow w w' S) (hne:∀ b,blk q=some b->¬S b):Num w' q X ds:=⟨h.buf.grow hg hne,h.take,h.le⟩
def Apart (p q:Option Addr):Prop:=∀ b,blk p=some b->blk q≠some b
theorem Apart.symm {p q:Option Addr} (h:Apart p q):Apart q p:=λb h1 h2=>h b h2 h1
def DivNP (p p2:Option Addr) (a b:Nat) (w:World) (e:Ending) (w':World):Prop:=
 ∃ p' cs' q' ds',e=.returned (.tuple #[.slice p' (dg (a/b)).length cs'.length,.slice q' (dg (a%b)).length ds'.length]) ∧
  Num w' p' (dg (a/b)) cs'/\Num w' q' (dg (a%b)) ds'/\Grow w w' (λk=>blk p=some k\/blk p2=some k)/\Fresh w p p'/\Fresh w p2 q'/\Apart p' q'
theorem Num.lt {w:World} {q:Option Addr} {X ds:List Nat} (h:Num w q X ds):∀ b,blk q=some b->b<w.heap.size:=h.buf.lt
theorem apart_of {w w1:World} {p p2 p' q':Option Addr} (h:Apart p p2) (hp:∀ b,blk p=some b->b<w.heap.size) (hp2:∀ b,blk p2=some b->b<w.heap.size) (hs:w.heap.size<=w1.heap.size) (h1:Fresh w p p') (h1l:∀ b,blk p'=some b->b<w1.heap.size) (h2:Fresh w1 p2 q'):Apart p' q':=by
 intro b hb hq
 rcases h1 with rfl|h1
 . rcases h2 with rfl|h2
   . exact h b hb hq
   . have:=h2 b hq;have:=hp b hb;omega
 . rcases h2 with rfl|h2
   . have:=h1 b hb;have:=hp2 b hq;omega
   . have:=h2 b hq;have:=h1l b hb;omega
theorem nat_div_word (p p2 q q2:Option Addr) (s:Value) (l l2 a b:Nat) (cs cs2 ds es:List Nat) (w:World) (h:Buf w p cs) (h2:Buf w p2 cs2) (hap:Apart p p2) (hx:Num w q (dg a) ds) (hy:Num w q2 (dg b) es) (hX:(dg a).length<=80000)
 (hb1:(dg b).length=1) :
 Calls Tryz.prog 178 #[.slice p l cs.length,s,.slice p2 l2 cs2.length,.slice q (dg a).length ds.length,.slice q2 (dg b).length es.length] w (DivNP p p2 a b w):=by
 obtain⟨e0,hb⟩:=dg_of_one hb1
 obtain⟨by',rfl,-,hyc⟩:=hy.cell (by omega)
 have hc:=hyc 0 (by omega)
 rw[e0] at hc
 have hb0:0<b:=by
  rcases Nat.eq_zero_or_pos b with rfl|h
  . rw[zyv] at hb1;simp at hb1
  . exact h
 have HS:=Lz (nat_divW p q l a b cs ds w h hx hX hb hb0)
 have HM:=Lz (Nat.lt_trans (Nat.mod_lt a hb0) hb)
 have HH:=Lz h
 have HH2:=Lz h2
 have HAP:=Lz hap
 rw[hb1]
 clear h h2 hap hx hy e0 hyc hb hb1 hb0 hX
 generalize dg a=X at *
 go_enter Tryz.func178,Tryz.ntmps178
 go_wp2_with fail
 refine HS.out.mono ?_
 rintro e w1 ⟨p',cs',rfl,hn,hg,hf⟩
 have hB2:Buf w1 p2 cs2:=HH2.out.kept hg (λb hb e=>HAP.out b e hb)
 have HN:=Lz hn
 have HG:=Lz hg
 have HF:=Lz hf
 have HW:=Lz (nat_setWord p2 l2 (a%b) cs2 w1 hB2 HM.out)
 clear hn hg hf hB2
 go_wp2_with fail
 refine HW.out.mono ?_
 rintro e w2 ⟨q',ds',rfl,hn2,hg2,hf2⟩
 have hap':=apart_of HAP.out HH.out.lt HH2.out.lt HG.out.size HF.out HN.out.lt hf2
 have hgg:Grow w w2 (λk=>blk p=some k\/blk p2=some k):=((Grow.of HG.out).weaken (λ_ _ e=>.inl e)).trans ((Grow.of hg2).weaken (λ_ _ e=>.inr e))
 have hn':Num w2 p' (dg (a/b)) cs':=HN.out.kept hg2 (λc hc e=>by
  rcases HF.out with rfl|hf
  . exact HAP.out c hc e
  . have:=hf c hc;have:=HH2.out.lt c e;omega)
 have HN2:=Lz hn2
 have HN':=Lz hn'
 have HA':=Lz hap'
 have HGG:=Lz hgg
 have HF2:=Lz (Fresh.older HG.out.size hf2)
 have HD:=Lz (dg_one HM.out)
 clear hn2 hg2 hf2 hap' hgg hn'
 go_wp2_with fail
 go_ret2
 exact⟨p',cs',q',ds',by rw[HD.out];rfl,HN'.out,by rw[HD.out];exact HN2.out,HGG.out,HF.out,HF2.out,HA'.out⟩
theorem less_end {p p2 q':Option Addr} {cs cs2 ds' X:List Nat} {w w2:World} {n:Nat} (h:Buf w p cs) (h2:Buf w p2 cs2) (hap:Apart p p2) (hn2:Num w2 q' X ds') (hg2:(w.drewN n).grownBy w2 (blk p2)) (hf2:Fresh (w.drewN n) p2 q') :
 Num w2 p [] cs/\Num w2 q' X ds'/\Grow w w2 (λk=>blk p=some k\/blk p2=some k)/\Fresh w p p/\Fresh w p2 q'/\Apart p q':=
 ⟨⟨(h.kept (zzz w n .none) (λ_ _=>by simp)).kept hg2 (λb hb e=>hap b hb e),rfl,Nat.zero_le _⟩,hn2,(Grow.none (zzz w n .none) _).trans ((Grow.of hg2).weaken (λ_ _ e=>.inr e)),Fresh.refl w p,hf2,
  apart_of (w1:=w.drewN n) hap h.lt h2.lt (Nat.le_refl _) (Fresh.refl w _) h.lt hf2⟩
theorem sgn_lt {a b:Nat} (h:a<b):sgn a b=-1:=by unfold sgn;rw[if_pos h]
theorem nat_div_less (p p2 q q2:Option Addr) (s:Value) (l l2 a b:Nat) (cs cs2 ds es:List Nat) (w:World) (h:Buf w p cs) (h2:Buf w p2 cs2) (hap:Apart p p2) (hx:Num w q (dg a) ds) (hy:Num w q2 (dg b) es) (hX:(dg a).length<=80000)
 (hb1:2<=(dg b).length) (hlt:a<b) :
 Calls Tryz.prog 178 #[.slice p l cs.length,s,.slice p2 l2 cs2.length,.slice q (dg a).length ds.length,.slice q2 (dg b).length es.length] w (DivNP p p2 a b w):=by
 have hC:=nat_cmp q q2 a b ds es w hx hy hX
 rw[sgn_lt hlt] at hC
 have HC:=Lz hC
 have HS:=Lz λn=>nat_set p2 q l2 cs2 (dg a) ds (w.drewN n) (h2.kept (zzz _ _ .none) (λ_ _=>by simp)) (hx.kept (zzz _ _ .none) (λ_ _=>by simp)) hX
 have HH:=Lz h
 have HH2:=Lz h2
 have HAP:=Lz hap
 have HP:=Lz h.shape
 have hz0:(((dg b).length:Int)==0)=false:=by rw[beq_eq_false_iff_ne];omega
 have hz1:(((dg b).length:Int)==1)=false:=by rw[beq_eq_false_iff_ne];omega
 unfold DivNP
 rw[Nat.div_eq_of_lt hlt,Nat.mod_eq_of_lt hlt,zyv]
 clear h h2 hap hx hy hX hb1 hlt hC
 generalize dg a=X at *
 generalize dg b=Y at *
 rcases HP.out with rfl|⟨c,rfl⟩
 all_goals
  go_enter Tryz.func178,Tryz.ntmps178
  go_wp2_with fail
  refine HC.out.mono ?_
  rintro e w1 ⟨rfl,n,rfl⟩
  go_wp2_with fail
  refine(HS.out n).mono ?_
  rintro e w2 ⟨q',ds',rfl,hn2,hg2,hf2⟩
  have HE:=Lz (less_end HH.out HH2.out HAP.out hn2 hg2 hf2)
  clear hn2 hg2 hf2
  go_wp2_with fail
  go_ret2
  exact⟨_,cs,q',ds',rfl,HE.out⟩
end Go.Proofs.YtohhkjamddojmaaGreatDoor.Big
namespace Go.Proofs.YtohhkjamddojmaaGreatDoor.Big
open Go.RowKit
def StrB (w:World) (z:Nat) (neg:Bool) (p:Option Addr) (l c:Nat):Prop:=w.heap[z]? = some (.cells #[.bool neg,.slice p l c] 172 (0,0))
theorem StrB.lt {w:World} {z:Nat} {neg:Bool} {p:Option Addr} {l c:Nat} (h:StrB w z neg p l c):z<w.heap.size:=(Array.getElem?_eq_some_iff.1 h).1
theorem StrB.cell0 {w:World} {z:Nat} {neg:Bool} {p:Option Addr} {l c:Nat} (h:StrB w z neg p l c):w.cell? ⟨z,0,.none⟩=some (.bool neg):=by unfold StrB at h;simp[World.cell?,h]
theorem StrB.cell1 {w:World} {z:Nat} {neg:Bool} {p:Option Addr} {l c:Nat} (h:StrB w z neg p l c):w.cell? ⟨z,1,.none⟩=some (.slice p l c):=by unfold StrB at h;simp[World.cell?,h]
theorem StrB.free {w:World} {z:Nat} {neg:Bool} {p:Option Addr} {l c:Nat} (h:StrB w z neg p l c) (i:Nat):w.frozen? ⟨z,i,.none⟩=false:=by unfold StrB at h;simp[World.frozen?,h]
theorem StrB.set0 {w:World} {z:Nat} {neg:Bool} {p:Option Addr} {l c:Nat} (h:StrB w z neg p l c) (b:Bool):StrB (w.setCell ⟨z,0,.none⟩ (.bool b)) z b p l c:=by
 unfold StrB at *;simp only[World.setCell,Array.getElem?_modify,if_true];rw[h];simp
theorem StrB.set1 {w:World} {z:Nat} {neg:Bool} {p:Option Addr} {l c:Nat} (h:StrB w z neg p l c) (p':Option Addr) (l' c':Nat):StrB (w.setCell ⟨z,1,.none⟩ (.slice p' l' c')) z neg p' l' c':=by
 unfold StrB at *;simp only[World.setCell,Array.getElem?_modify,if_true];rw[h];simp
theorem StrB.grow {w w':World} {z:Nat} {neg:Bool} {p:Option Addr} {l c:Nat} {S:Nat->Prop} (h:StrB w z neg p l c) (hg:Grow w w' S) (hne:¬S z):StrB w' z neg p l c:=by
 have hlt:=h.lt
 unfold StrB at *
 rw[hg.block z hlt hne,h]
structure One (w:World) (z:Nat) (v:Int) (p:Option Addr) (ds:List Nat):Prop where
 str:StrB w z (decide (v<0)) p (dg v.natAbs).length ds.length
 num:Num w p (dg v.natAbs) ds
theorem One.grow {w w':World} {z:Nat} {v:Int} {p:Option Addr} {ds:List Nat} {S:Nat->Prop} (h:One w z v p ds) (hg:Grow w w' S) (hz:¬S z) (hp:∀ b,blk p=some b->¬S b):One w' z v p ds:=⟨h.str.grow hg hz,h.num.grow hg hp⟩
structure Fam (R:Nat->Prop) (w:World) (zs:List Nat) (vs:List Int) (ps:List (Option Addr)) (qs:List (List Nat)):Prop where
 old:∀ k,R k->k<w.heap.size
 lenV:vs.length=zs.length
 lenP:ps.length=zs.length
 lenQ:qs.length=zs.length
 one:∀ (i z:Nat) (v:Int) (p:Option Addr) (q:List Nat),zs[i]? = some z->vs[i]? = some v->ps[i]? = some p->qs[i]? = some q->One w z v p q
 own:∀ (i z:Nat) (p:Option Addr),zs[i]? = some z->ps[i]? = some p->¬R z->∀ b,blk p=some b->¬R b
 zz:∀ (i j z:Nat),zs[i]? = some z->zs[j]? = some z->i=j
 pp:∀ (i j:Nat) (p q:Option Addr) (b:Nat),ps[i]? = some p->ps[j]? = some q->blk p=some b->blk q=some b->i=j
 zp:∀ (i j z:Nat) (p:Option Addr),zs[i]? = some z->ps[j]? = some p->blk p≠some z
def Ints (R:Nat->Prop) (w:World) (zs:List Nat) (vs:List Int):Prop:=∃ ps qs,Fam R w zs vs ps qs
theorem Fam.at {R:Nat->Prop} {w:World} {zs:List Nat} {vs:List Int} {ps:List (Option Addr)} {qs:List (List Nat)} (h:Fam R w zs vs ps qs) {i z:Nat} (hi:zs[i]? = some z):∃ v p q,vs[i]? = some v/\ps[i]? = some p/\qs[i]? = some q/\One w z v p q:=by
 have hlt:i<zs.length:=(List.getElem?_eq_some_iff.1 hi).1
 have e1:vs[i]? = some (vs[i]'(by rw[h.lenV];exact hlt)):=List.getElem?_eq_getElem _
 have e2:ps[i]? = some (ps[i]'(by rw[h.lenP];exact hlt)):=List.getElem?_eq_getElem _
 have e3:qs[i]? = some (qs[i]'(by rw[h.lenQ];exact hlt)):=List.getElem?_eq_getElem _
 exact⟨_,_,_,e1,e2,e3,h.one i z _ _ _ hi e1 e2 e3⟩
def Kept (R:Nat->Prop) (w w':World):Prop:=Grow w w' (λk=>¬R k)
theorem Kept.refl (R:Nat->Prop) (w:World):Kept R w w:=Grow.refl _ _
theorem Kept.trans {R:Nat->Prop} {a b c:World} (h:Kept R a b) (k:Kept R b c):Kept R a c:=Grow.trans h k
theorem Fam.write {R:Nat->Prop} {w w':World} {zs:List Nat} {vs:List Int} {ps:List (Option Addr)} {qs:List (List Nat)} (h:Fam R w zs vs ps qs) {i z:Nat} {p p':Option Addr} {v:Int} {q':List Nat}
 (hi:zs[i]? = some z) (hp:ps[i]? = some p) (hR:¬R z) (hg:Grow w w' (λk=>k=z\/blk p=some k)) (ho:One w' z v p' q') (hf:Fresh w p p') :
 Fam R w' zs (vs.set i v) (ps.set i p') (qs.set i q')/\Kept R w w':=by
 have hlt:i<zs.length:=(List.getElem?_eq_some_iff.1 hi).1
 have hpl:∀ b,blk p'=some b->b<w'.heap.size:=ho.num.lt
 have hzlt:∀ j x,zs[j]? = some x->x<w.heap.size:=λj x hj=>by
  obtain⟨_,_,_,_,_,_,o⟩:=h.at hj;exact o.str.lt
 have hplt:∀ j x b,ps[j]? = some x->blk x=some b->b<w.heap.size:=λj x b hj hb=>by
  have hj2:j<zs.length:=by rw[<-h.lenP];exact(List.getElem?_eq_some_iff.1 hj).1
  obtain⟨_,_,_,_,e,_,o⟩:=h.at (List.getElem?_eq_getElem hj2)
  rw[hj] at e;cases e
  exact o.num.lt b hb
 have hset:∀ {α : Type} (l:List α) (j:Nat) (a x:α),(l.set i a)[j]? = some x->(j=i/\x=a)\/(j≠i/\l[j]? = some x):=by
  intro α l j a x hx
  by_cases hj:j=i
  . subst hj
    rw[List.getElem?_set_self' ] at hx
    left
    cases hl:l[j]? with
    | none=>rw[hl] at hx;simp at hx
    | some y=>rw[hl] at hx;simp at hx;exact⟨rfl,hx.symm⟩
  . right
    rw[List.getElem?_set_ne (Ne.symm hj)] at hx
    exact⟨hj,hx⟩
 -- the new memory is no other Int's
 have hnew:∀ b,blk p'=some b->blk p=some b\/w.heap.size<=b:=λb hb=>by
  rcases hf with rfl|hf
  . exact .inl hb
  . exact .inr (hf b hb)
 refine⟨⟨λk hk=>Nat.lt_of_lt_of_le (h.old k hk) hg.size,by simp[h.lenV],by simp[h.lenP],by simp[h.lenQ],?_,?_,h.zz,?_,?_⟩,?_⟩
 . intro j x u s t hj hv hs ht
   rcases hset _ _ _ _ hv with⟨rfl,rfl⟩|⟨hne,hv⟩
   . rcases hset _ _ _ _ hs with⟨_,rfl⟩|⟨hne,_⟩
     . rcases hset _ _ _ _ ht with⟨_,rfl⟩|⟨hne,_⟩
       . rw[hi] at hj;cases hj;exact ho
       . exact absurd rfl hne
     . exact absurd rfl hne
   . rcases hset _ _ _ _ hs with⟨e,_⟩|⟨_,hs⟩
     . exact absurd e hne
     . rcases hset _ _ _ _ ht with⟨e,_⟩|⟨_,ht⟩
       . exact absurd e hne
       . refine(h.one j x u s t hj hv hs ht).grow hg ?_ ?_
         . rintro(rfl|e)
           . exact hne (h.zz j i x hj hi)
           . exact h.zp j i x p hj hp e
         . rintro b hb (rfl|e)
           . exact h.zp i j _ s hi hs hb
           . exact hne (h.pp j i s p b hs hp hb e)
 . intro j x s hj hs hx b hb
   rcases hset _ _ _ _ hs with⟨rfl,rfl⟩|⟨hne,hs⟩
   . rcases hnew b hb with e|e
     . exact h.own j x p hj hp hx b e
     . intro hr;have:=h.old b hr;omega
   . exact h.own j x s hj hs hx b hb
 . intro j k s t b hs ht hb hb2
   rcases hset _ _ _ _ hs with⟨e1,e2⟩|⟨hne,hs2⟩
   . rcases hset _ _ _ _ ht with⟨e3,e4⟩|⟨hne,ht2⟩
     . rw[e1,e3]
     . subst e1 e2
       rcases hnew b hb with e|e
       . exact h.pp j k p t b hp ht2 e hb2
       . have:=hplt k t b ht2 hb2;omega
   . rcases hset _ _ _ _ ht with⟨e3,e4⟩|⟨hne2,ht2⟩
     . subst e3 e4
       rcases hnew b hb2 with e|e
       . exact h.pp j k s p b hs2 hp hb e
       . have:=hplt j s b hs2 hb;omega
     . exact h.pp j k s t b hs2 ht2 hb hb2
 . intro j k x s hj hs hb
   rcases hset _ _ _ _ hs with⟨rfl,rfl⟩|⟨hne,hs⟩
   . rcases hnew x hb with e|e
     . exact h.zp j k x p hj hp e
     . have:=hzlt j x hj;omega
   . exact h.zp j k x s hj hs hb
 . refine hg.weaken ?_
   rintro k _ (rfl|e)
   . exact hR
   . exact h.own i z p hi hp hR k e
end Go.Proofs.YtohhkjamddojmaaGreatDoor.Big
namespace Go.Proofs.YtohhkjamddojmaaGreatDoor.Big
open Go.RowKit
def ptr (z:Nat):Value:=.pointer (some ⟨z,0,.none⟩)
def IntP (R:Nat->Prop) (zs:List Nat) (vs:List Int) (z:Nat) (w:World) (e:Ending) (w':World):Prop:=e=.returned (ptr z)/\Ints R w' zs vs/\Kept R w w'
def zxy (w:World) (z:Nat) (p:Option Addr) (nz:Bool) (r:Nat) (wx:World):Prop:=
 ∃ p' q',StrB wx z nz p' (dg r).length q'.length/\Num wx p' (dg r) q'/\Grow w wx (λk=>k=z\/blk p=some k)/\Fresh w p p'/\blk p'≠some z
theorem zxy.of {w w0 w1:World} {z:Nat} {p p':Option Addr} {nz:Bool} {l c r:Nat} {q':List Nat} (hs:StrB w z nz p l c) (hpz:blk p≠some z) (h0:w.grownBy w0 .none) (hn:Num w1 p' (dg r) q') (hg:w0.grownBy w1 (blk p)) (hf:Fresh w0 p p') :
 zxy w z p nz r (w1.setCell ⟨z,1,.none⟩ (.slice p' (dg r).length q'.length)):=by
 have hg':Grow w w1 (λk=>blk p=some k):=(Grow.none h0 _).trans (Grow.of hg)
 have hs1:=hs.grow hg' hpz
 have hp':blk p'≠some z:=λe=>by
  rcases hf with rfl|hf
  . exact hpz e
  . have:=hf z e;have:=hs.lt;have:=h0.size;omega
 have hset:Grow w1 (w1.setCell ⟨z,1,.none⟩ (.slice p' (dg r).length q'.length)) (λk=>k=z):=(Grow.of (zzw w1 z 1 _)).weaken (λk _ e=>by cases e;rfl)
 refine⟨p',q',hs1.set1 _ _ _,hn.grow hset (λb hb e=>hp' (e ▸ hb)),(hg'.weaken (λ_ _ e=>.inr e)).trans (hset.weaken (λ_ _ e=>.inl e)),Fresh.older h0.size hf,hp'⟩
theorem zxy.drew {w wx:World} {z:Nat} {p:Option Addr} {nz:Bool} {r:Nat} (h:zxy w z p nz r wx) (n:Nat):zxy w z p nz r (wx.drewN n):=by
 obtain⟨p',q',h1,h2,h3,h4,h5⟩:=h
 exact⟨p',q',h1,h2.kept (zzz _ _ .none) (λ_ _=>by simp),h3.trans (Grow.none (zzz _ _ .none) _),h4,h5⟩
theorem zxy.finish {R:Nat->Prop} {w wx:World} {zs:List Nat} {vs:List Int} {ps:List (Option Addr)} {qs:List (List Nat)} (h:Fam R w zs vs ps qs) {i z:Nat} {p:Option Addr} {nz b:Bool} {r:Nat} {v:Int}
 (hi:zs[i]? = some z) (hp:ps[i]? = some p) (hR:¬R z) (ha:zxy w z p nz r wx) (hv:v.natAbs=r) (hb:b=decide (v<0)):Ints R (wx.setCell ⟨z,0,.none⟩ (.bool b)) zs (vs.set i v)/\Kept R w (wx.setCell ⟨z,0,.none⟩ (.bool b)):=by
 obtain⟨p',q',h1,h2,h3,h4,h5⟩:=ha
 have hset:Grow wx (wx.setCell ⟨z,0,.none⟩ (.bool b)) (λk=>k=z):=(Grow.of (zzw wx z 0 _)).weaken (λk _ e=>by cases e;rfl)
 have ho:One (wx.setCell ⟨z,0,.none⟩ (.bool b)) z v p' q':=by
  subst hv hb
  exact⟨h1.set0 _,h2.grow hset (λb hb e=>h5 (e ▸ hb))⟩
 obtain⟨hF,hK⟩:=h.write hi hp hR (h3.trans (hset.weaken (λ_ _ e=>.inl e))) ho h4
 exact⟨⟨_,_,hF⟩,hK⟩
end Go.Proofs.YtohhkjamddojmaaGreatDoor.Big
