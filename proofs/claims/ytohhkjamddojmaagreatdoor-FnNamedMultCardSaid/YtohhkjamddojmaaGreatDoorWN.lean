/- The schoolbook's product. 'alias' in one law; squares and products of natural numbers. Products of natural numbers. -/
import Derived.Test.YtohhkjamddojmaaGreatDoorWG
import Derived.Lib.SliceRun
set_option maxRecDepth 100000
set_option maxHeartbeats 16000000
namespace Go.Proofs.YtohhkjamddojmaaGreatDoor.Big
open Go.RowKit
theorem setCells_words {b:Nat}:∀ (vs:List Nat) (o:Nat) (w:World) (zs:List Nat),NatB w b zs->o+vs.length<=zs.length->NatB (w.setCells b o (vs.map wd)) b (spl zs o vs)/\w.grownBy (w.setCells b o (vs.map wd)) (some b)
 | [],o,w,zs,h,_=>⟨by rw[spl_nil];exact h,zyz _ _⟩
 | v :: r,o,w,zs,h,hl=>by
  rw[List.length_cons] at hl
  have h1:=h.set o v
  have e:zs.set o v=spl zs o ([] ++ [v]):=by rw[<-spl_set (by simp;omega),spl_nil];rfl
  obtain⟨h2,h3⟩:=setCells_words r (o+1) _ _ h1 (by simp;omega)
  refine⟨?_,zzx (zzw _ _ _ _) h3⟩
  rw[e,spl_spl (by simp) (by omega)] at h2
  exact h2
theorem zero199 (w:World):(zeroValue 199).run Tryz.prog w=.ok (.int .u64 0) w:=by
 obtain⟨i,hi,hz,_⟩:=info_parts info199
 simp[zeroValue,typeInfo,hi,hz]
theorem clear_words (w:World) (p:Option Addr) (b o n c:Nat) (zs:List Nat) (hz:NatB w b zs) (hn:o+n<=zs.length) (hp:0<n->p=some ⟨b,o,.none⟩) (T:TypeId) (hT:Tryz.prog.underlying T=some (.slice 199)) :
 ∃ w1,(∀ ty,(Builtin.clear_ #[T] ty #[.slice p n c]).run Tryz.prog w=.ok (.tuple #[]) w1)/\NatB w1 b (spl zs o (List.replicate n 0))/\w.grownBy w1 (some b):=by
 rcases Nat.eq_zero_or_pos n with rfl|h0
 . refine⟨w,λty=>?_,by rw[List.replicate_zero,spl_nil];exact hz,zyz _ _⟩
   cases p <;> simp[Builtin.clear_,run_underlying hT]
 . rw[hp h0]
   have h:=setCells_words (List.replicate n 0) o w zs hz (by simpa using hn)
   refine⟨_,λty=>Go.Lib.run_clear_slice (P:=Tryz.prog) w T 199 ty (.int .u64 0) hT zero199 (by rfl) (by rfl) b o n c h0 (λj hj=>?_) (λj _=>hz.free _),?_⟩
   . rw[hz.cell (o+j) (by omega)];rfl
   . have e:(List.replicate n 0).map wd=List.replicate n (Value.int .u64 0):=by simp[wd]
     rw[<-e];exact h
theorem spl_zero_eq (zs A:List Nat):spl zs 0 A=A++zs.drop A.length:=by simp[spl]
theorem rep_cons {n k:Nat} (h:k<n):List.replicate (n-k) 0=0 :: List.replicate (n-(k+1)) 0:=by
 rw[<-List.replicate_succ];congr 1;omega
theorem val_zeros:∀ n,val (List.replicate n 0)=0
 | 0=>rfl
 | n+1=>by rw[List.replicate_succ];show 0+B64*val (List.replicate n 0)=0;rw[val_zeros n,Nat.mul_zero]
theorem ne_blk {a b:Nat} (h:a≠b):∀ c,blk (some ⟨b,0,.none⟩)=some c->some a≠some c:=λc hc e=>by cases hc;cases e;exact h rfl
theorem mul_row {zs L ks2:List Nat} {m n k c:Nat} (hL:L.length=m+k) (hk2:ks2.length=m) (hk:k<n) :
 (spl (spl zs 0 (L++List.replicate (n-k) 0)) k ks2).set (m+k) c=spl zs 0 ((L.take k++ks2 ++ [c])++List.replicate (n-(k+1)) 0):=by
 rw[spl_zero_eq,spl_zero_eq]
 have e1:(L++List.replicate (n-k) 0).length=m+n:=by simp[hL];omega
 have e2:((L.take k++ks2 ++ [c])++List.replicate (n-(k+1)) 0).length=m+n:=by simp[hL,hk2];omega
 rw[e1,e2]
 unfold spl
 have e3:((L++List.replicate (n-k) 0)++zs.drop (m+n)).take k=L.take k:=by
  rw[List.append_assoc,List.take_append_of_le_length (by omega)]
 have e4:((L++List.replicate (n-k) 0)++zs.drop (m+n)).drop (k+ks2.length)=List.replicate (n-k) 0++zs.drop (m+n):=by
  rw[hk2,Nat.add_comm k m,<-hL,List.append_assoc,List.drop_left]
 rw[e3,e4,rep_cons hk]
 have e5:(L.take k++ks2).length=m+k:=by simp[hL,hk2];omega
 rw[List.set_append_right _ _ (by omega),e5,Nat.sub_self]
 simp
theorem mul_mid {zs L:List Nat} {m n k:Nat} (hL:L.length=m+k):((spl zs 0 (L++List.replicate (n-k) 0)).drop k).take m=L.drop k:=by
 rw[spl_zero_eq,List.append_assoc,List.drop_append_of_le_length (by omega),List.take_append_of_le_length (by simp;omega),List.take_of_length_le (by simp;omega)]
theorem mul_val {L ks2 X Y:List Nat} {m k d c:Nat} (h1:val L=val X*val (Y.take k)) (hL:L.length=m+k) (hk2:ks2.length=m) (h2:val ks2+B64^m*c=val (L.drop k)+val X*d+0) (hkY:k<Y.length) (hd:Y.getD k 0=d) :
 val (L.take k++ks2 ++ [c])=val X*val (Y.take (k+1)):=by
 have e:val L=val (L.take k)+B64^k*val (L.drop k):=by
  conv=>lhs;rw[<-List.take_append_drop k L]
  rw[val_append,List.length_take,Nat.min_eq_left (by omega)]
 rw[zyk,val_append,List.length_append,List.length_take,Nat.min_eq_left (by omega),hk2,zwy _ _ hkY,zyk,hd,List.length_take,Nat.min_eq_left (by omega)]
 have e2:B64^(k+m)*c=B64^k*(B64^m*c):=by rw[Nat.pow_add,Nat.mul_assoc]
 have e3:B64^k*(val ks2+B64^m*c)=B64^k*(val (L.drop k)+val X*d+0):=by rw[h2]
 have e4:val X*(B64^k*d)=B64^k*(val X*d):=by rw[<-Nat.mul_assoc,Nat.mul_comm (val X),Nat.mul_assoc]
 rw[Nat.mul_add,Nat.mul_add,Nat.mul_add,Nat.mul_zero,Nat.add_zero] at e3
 rw[Nat.mul_add,e4]
 omega
theorem mul_val0 {L X Y:List Nat} {k:Nat} (h1:val L=val X*val (Y.take k)) (hkY:k<Y.length) (hd:Y.getD k 0=0):val (L ++ [0])=val X*val (Y.take (k+1)):=by
 rw[zyk,zwy _ _ hkY,zyk,hd,Nat.mul_zero,Nat.mul_zero,Nat.add_zero,Nat.add_zero,h1]
def BMulP (bz:Nat) (zs X Y:List Nat) (w:World) (e:Ending) (w':World):Prop:=
 ∃ ks,e=.returned (.tuple #[])/\NatB w' bz (spl zs 0 ks)/\ks.length=X.length+Y.length/\Words ks/\val ks=val X*val Y/\w.grownBy w' (some bz)
structure BMInv (bz:Nat) (zs X Y:List Nat) (k:Nat) (L:List Nat) (w wr:World):Prop where
 row:NatB wr bz (spl zs 0 (L++List.replicate (Y.length-k) 0))
 len:L.length=X.length+k
 words:Words L
 eq:val L=val X*val (Y.take k)
 grown:w.grownBy wr (some bz)
theorem basicMul (bz bx b2:Nat) (zs X ds Y es:List Nat) (w:World) (hz:NatB w bz zs) (hwz:Words zs) (hx:Num w (some ⟨bx,0,.none⟩) X ds) (hy:Num w (some ⟨b2,0,.none⟩) Y es) (hne:bz≠bx) (hne2:bz≠b2)
 (hX0:0<X.length) (hY0:0<Y.length) (hX:X.length<=40000) (hY:Y.length<=40000) (hzl:X.length+Y.length<=zs.length) :
 Calls Tryz.prog 200 #[.slice (some ⟨bz,0,.none⟩) (X.length+Y.length) zs.length,.slice (some ⟨bx,0,.none⟩) X.length ds.length,.slice (some ⟨b2,0,.none⟩) Y.length es.length] w (BMulP bz zs X Y w):=by
 obtain⟨w1,hcl,hN1,hG1⟩:=clear_words w (some ⟨bz,0,.none⟩) bz 0 (X.length+Y.length) zs.length zs hz (by omega) (λ_=>rfl) 170 Tryz.underlying170
 have hxl:=hx.le
 have hyl:=hy.le
 have HZ:=Lz hz
 have HX:=Lz hx
 have HY:=Lz hy
 have HNE:=Lz hne
 have HNE2:=Lz hne2
 have HN1:=Lz hN1
 have HG1:=Lz hG1
 have HWZ:=Lz hwz
 have hov:(X.length:Int)+(Y.length:Int)<=(zs.length:Int):=by omega
 clear hz hx hy hne hne2 hN1 hG1 hwz
 go_enter Tryz.func200,Tryz.ntmps200
 go_wp2_with fail
 clear hcl
 go_loopw [17] (λi wr=>∃ k:Nat,k<=Y.length/\i=.int .i64 k/\∃ L,BMInv bz zs X Y k L w wr)
  (λi _=>Y.length-(intOf i).toNat)
 case atStart=>
  refine⟨0,Nat.zero_le _,rfl,List.replicate X.length 0,?_,by simp,words_zero _,by rw[val_zeros];simp[val],HG1.out⟩
  rw[List.replicate_append_replicate]
  exact HN1.out
 case round=>
  obtain⟨k,hk,rfl,L,S⟩:=hrel
  by_cases hlt:k<Y.length
  . have hy2:=HY.out.kept S.grown (ne_blk HNE2.out)
    have hx2:=HX.out.kept S.grown (ne_blk HNE.out)
    have hyc:=(hy2.buf.nat (by omega)).cell k (by omega)
    rw[hy2.getD hlt] at hyc
    have hd:=hy2.words.getD k
    obtain⟨d,hdv⟩:∃ d,d=Y.getD k 0:=⟨_,rfl⟩
    rw[<-hdv] at hyc hd
    have HDV:=Lz hdv
    have HY2:=Lz hy2
    have HX2:=Lz hx2
    have HD:=Lz hd
    have hke:k<es.length:=by omega
    clear hdv hy2 hx2 hd
    by_cases hd0:d=0
    . subst hd0
      go_wp2_with fail
      go_roundw
      case rel=>
       refine⟨k+1,by omega,by go_num,L ++ [0],?_,by simp[S.len];omega,S.words.append (Words.one zxw),mul_val0 S.eq hlt HDV.out.symm,S.grown⟩
       have:=S.row
       rw[rep_cons hlt] at this
       simpa using this
      case measure=>simp[intOf];omega
    . have hd2:((d:Int)==0)=false:=by rw[beq_eq_false_iff_ne];omega
      have hrl:(spl zs 0 (L++List.replicate (Y.length-k) 0)).length=zs.length:=zzk (by have:=S.len;simp;omega)
      have H5:=Lz (addMulVVWW bz k X.length (zs.length-k) bz k (zs.length-k) bx 0 ds.length _ _ ds d 0 wr.drew S.row S.row (HX2.out.buf.nat (by omega)) (by rw[hrl];omega) (by rw[hrl];omega) (by omega) (HWZ.out.spl (S.words.append (words_zero _))) HX2.out.buf.2.1 HD.out zxw (.inr (Nat.le_refl _)) (.inl (Ne.symm HNE.out)) (by omega))
      have s1:(X.length:Int)+(k:Int)<=(zs.length:Int):=by omega
      have s2:(k:Int)<=(k:Int)+(X.length:Int):=by omega
      have s3:(k:Int)+(X.length:Int)<=(zs.length:Int):=by omega
      have s4:(X.length:Int)+(k:Int)<(X.length:Int)+(Y.length:Int):=by omega
      have q1:¬zs.length=k:=by omega
      have q2:0<=(X.length:Int)+(k:Int):=by omega
      have q3:0<=(k:Int)+(X.length:Int):=by omega
      have w3:IntKind.i64.wrap ((X.length:Int)+(k:Int))=(X.length:Int)+(k:Int):=IntWalk.i64_in _ (by omega)
      have w4:IntKind.i64.wrap ((k:Int)+(X.length:Int))=(k:Int)+(X.length:Int):=IntWalk.i64_in _ (by omega)
      have t1:((k:Int)+(X.length:Int)).toNat-k=X.length:=by omega
      have t2:((X.length:Int)+(k:Int)).toNat=X.length+k:=by omega
      have HRL:=Lz hrl
      clear hd0 hrl
      go_wp2_with fail
      go_region_with (go_at_call 226;refine H5.out.mono ?_;rintro e w2 ⟨ks2,c,rfl,hN2,hkl,hkw,hkv,hc,hG2⟩;have hc4:=hN2.cell (X.length+k) (by rw[zzk (by have:=HRL.out;omega),HRL.out];omega);have hf4:=hN2.free (X.length+k);have HST:=Lz (hN2.set (X.length+k) c);generalize (spl (spl zs 0 (L++List.replicate (Y.length-k) 0)) k ks2).getD (X.length+k) 0=old at *;have HKL:=Lz hkl;have HKW:=Lz hkw;have HKV:=Lz hkv;have HC:=Lz hc;have HG2:=Lz hG2;clear hN2 hkl hkw hkv hc hG2)
      go_wp2_with fail
      go_roundw
      case rel=>
       refine⟨k+1,by omega,by go_num,L.take k++ks2 ++ [c],?_,by simp[S.len,HKL.out];omega,((S.words.take _).append HKW.out).append (Words.one HC.out),?_,zzx S.grown (zzx (zxj _ _) (zzx HG2.out (zzw _ _ _ _)))⟩
       . rw[<-mul_row S.len HKL.out hlt]
         exact HST.out
       . have hv:=HKV.out
         rw[mul_mid S.len,List.drop_zero,HX2.out.take] at hv
         exact mul_val S.eq S.len HKL.out hv hlt HDV.out.symm
      case measure=>simp[intOf];omega
  . go_wp2_with fail
    go_end0
    obtain rfl:k=Y.length:=by omega
    have hr:=S.row
    rw[Nat.sub_self,List.replicate_zero,List.append_nil] at hr
    exact⟨L,rfl,hr,S.len,S.words,by have:=S.eq;rwa [List.take_length] at this,S.grown⟩
end Go.Proofs.YtohhkjamddojmaaGreatDoor.Big
namespace Go.Proofs.YtohhkjamddojmaaGreatDoor.Big
open Go.RowKit
def al (p q:Option Addr) (cs:List Nat):Bool:=decide (p=q)&&decide (0<cs.length)
theorem nat_alias (p q:Option Addr) (lx ly:Nat) (cs ds:List Nat) (w:World) (h:Buf w p cs) (h2:Buf w q ds) :
 Calls Tryz.prog 156 #[.slice p lx cs.length,.slice q ly ds.length] w λe w'=>e=.returned (.bool (al p q cs))/\∃ n,w'=w.drewN n:=by
 unfold al
 rcases Nat.eq_zero_or_pos cs.length with h0|h0
 . rw[h0]
   simpa using alias_x0 p q lx ly ds.length w
 . obtain⟨b,rfl,hb⟩:=h.at h0
   rcases Nat.eq_zero_or_pos ds.length with h1|h1
   . have hne:some (⟨b,0,.none⟩:Addr)≠q:=by rintro rfl;rw[h.same h2] at h0;omega
     rw[h1]
     simpa [hne] using alias_y0 (some ⟨b,0,.none⟩) q lx ly cs.length h0 w
   . obtain⟨b2,rfl,hb2⟩:=h2.at h1
     by_cases hbb:b=b2
     . subst hbb
       obtain rfl:=h.same h2
       simpa [h0] using alias_yes b lx ly cs.length h0 h.2.2 w
     . simpa [hbb] using alias_no b b2 lx ly cs.length ds.length h0 h.2.2 h1 h2.2.2 hbb w cs ds hb hb2
structure Tab (w:World):Prop where
 sqr:w.cell? ⟨4,0,.none⟩=some (.int .i64 12)
 ksqr:w.cell? ⟨5,0,.none⟩=some (.int .i64 80)
 kmul:w.cell? ⟨6,0,.none⟩=some (.int .i64 40)
 kdiv:w.cell? ⟨7,0,.none⟩=some (.int .i64 40)
theorem cell_grown {w w':World} {row:Option Nat} {a:Addr} {v:Value} (h:w.cell? a=some v) (hg:w.grownBy w' row) (hne:row≠some a.block):w'.cell? a=some v:=by
 have hlt:a.block<w.heap.size:=by
  rcases Nat.lt_or_ge a.block w.heap.size with h'|h'
  . exact h'
  . simp[World.cell?,Array.getElem?_eq_none h'] at h
 rw[<-h]
 unfold World.cell?
 rw[hg.block a.block hlt (λe=>hne e.symm)]
theorem Tab.kept {w w':World} {row:Option Nat} (h:Tab w) (hg:w.grownBy w' row) (hr:∀ b,row=some b->8<=b):Tab w':=
 ⟨cell_grown h.sqr hg λe=>by have:=hr _ e;simp at this,cell_grown h.ksqr hg λe=>by have:=hr _ e;simp at this,cell_grown h.kmul hg λe=>by have:=hr _ e;simp at this,cell_grown h.kdiv hg λe=>by have:=hr _ e;simp at this⟩
theorem wds_one {d:Nat} (X:List Nat) (h:X.length=1) (hd:X.getD 0 0=d):X = [d]:=by
 match X,h with
 | [x],_=>simp at hd;rw[hd]
theorem nat_sqr_small (p q:Option Addr) (s:Value) (l a:Nat) (cs ds:List Nat) (w:World) (h:Buf w p cs) (hx:Num w q (dg a) ds) (hX:(dg a).length<=1) :
 Calls Tryz.prog 176 #[.slice p l cs.length,s,.slice q (dg a).length ds.length] w (NumP p (dg (a*a)) w):=by
 by_cases h0:a=0
 . subst h0
   have K:NumP p (dg (0*0)) w (.returned (.slice p 0 cs.length)) w:=⟨p,cs,by rw[Nat.mul_zero,zyv];rfl,⟨h,by rw[Nat.mul_zero,zyv];rfl,by rw[Nat.mul_zero,zyv];exact Nat.zero_le _⟩,zyz _ _,.inl rfl⟩
   have HK:=Lz K
   have HP:=Lz h.shape
   rw[zyv] at *
   clear h hx K hX
   rcases HP.out with rfl|⟨b,rfl⟩
   all_goals
    go_enter Tryz.func176,Tryz.ntmps176
    go_wp2_with fail
    go_ret
    exact HK.out
 . have hl:(dg a).length=1:=by
    have:(dg a).length≠0:=λe=>h0 (dg_eq_nil.1 (List.eq_nil_of_length_eq_zero e))
    omega
   obtain⟨bx,rfl,hxN,hxc⟩:=hx.cell (by omega)
   have hc0:=hxc 0 (by omega)
   have hdw:=(dg_words a).getD 0
   have hda:(dg a).getD 0 0=a:=by
    have:=wds_one (dg a) hl rfl
    have hv:=val_dg a
    rw[this,val_one] at hv
    exact hv
   rw[hda] at hc0 hdw
   rw[hl]
   have HB:=Lz h
   have HW:=Lz hdw
   clear h hx hX h0 hxN hxc hda hl hdw
   go_enter Tryz.func176,Tryz.ntmps176
   go_wp2_with fail
   refine(nat_make p l 2 cs w HB.out (by omega)).mono ?_
   rintro e w1 ⟨p',cs',rfl,hb,hn,hg,hor⟩
   obtain⟨bz,rfl,hzN⟩:=hb.at (by omega)
   have HBN:=Lz hb
   have HG:=Lz hg
   have HO:=Lz hor
   have HZN:=Lz hzN
   clear hb hg hor hzN
   go_wp2_with fail
   refine(mulWW a a HW.out HW.out w1).mono ?_
   rintro e w2 ⟨h,lo,rfl,hw,he,hlo,hh⟩
   obtain rfl:w1=w2:=hw
   have hc1:=HZN.out.cell 1 (by omega)
   have hf1:=HZN.out.free 1
   have hN1:=HZN.out.set 1 h
   have hc2:=hN1.cell 0 (by simp;omega)
   have hf2:=hN1.free 0
   have hB1:Buf (w1.setCell ⟨bz,1,.none⟩ (wd h)) (some ⟨bz,0,.none⟩) (cs'.set 1 h):=HBN.out.set hh (by omega)
   have hB2:=hB1.set (i:=0) hlo (by simp;omega)
   have ht:((cs'.set 1 h).set 0 lo).take 2 = [lo,h]:=by
    match cs',hn with
    | _ :: _ :: _,_=>rfl
   have hv:val [lo,h]=a*a:=by rw[<-he];simp[val,Nat.mul_comm]
   have hl5:((cs'.set 1 h).set 0 lo).length=cs'.length:=by simp
   obtain⟨hl6,hN6⟩:=Num.of_norm hB2 ht hv (by rw[hl5];omega)
   have HNM:=Lz (nat_norm (some ⟨bz,0,.none⟩) 2 _ _ hB2 (by rw[hl5];omega))
   rw[hl5] at HNM
   have HL5:=Lz hl5
   have HL6:=Lz hl6
   have HN6:=Lz hN6
   have HGF:=Lz (grown_or (zwz HG.out _) (p':=some ⟨bz,0,.none⟩) (zzx (zzw w1 bz 1 (wd h)) (zzw _ bz 0 (wd lo))) (MakeP.or HO.out))
   generalize cs'.getD 1 0=old1 at *
   generalize (cs'.set 1 h).getD 0 0=old2 at *
   clear hN1 hB1 hB2 ht hv hl5 hl6 hN6 he hlo hh
   go_wp2_with fail
   refine HNM.out.mono ?_
   rintro e w4 ⟨rfl,rfl⟩
   rw[HL5.out,HL6.out]
   go_wp2_with fail
   go_ret
   exact⟨some ⟨bz,0,.none⟩,_,by rw[HL5.out];rfl,HN6.out,HGF.out,MakeP.or HO.out⟩
theorem make_apart {p1 p':Option Addr} {cs1 cs':List Nat} {n bz bx:Nat} {w w':World} (hor:(p'=p1/\cs'=cs1/\w'=w/\n<=cs1.length)\/(p'=some ⟨w.heap.size,0,.none⟩/\cs1.length<n)) (hp:p'=some ⟨bz,0,.none⟩) (hbx:bx<w.heap.size) (hne:p1=some ⟨bx,0,.none⟩->cs1.length<n):bz≠bx:=by
 rintro rfl
 rcases hor with⟨h1,_,_,h2⟩|⟨h1,_⟩
 . have:=hne (h1 ▸ hp);omega
 . rw[hp] at h1;cases h1;omega
theorem nat_sqr_big (p q:Option Addr) (s:Value) (l a:Nat) (cs ds:List Nat) (w:World) (h:Buf w p cs) (hx:Num w q (dg a) ds) (hX2:2<=(dg a).length) (hX:(dg a).length<=11) (htab:Tab w) :
 Calls Tryz.prog 176 #[.slice p l cs.length,s,.slice q (dg a).length ds.length] w (NumP p (dg (a*a)) w):=by
 have HA:=Lz (nat_alias p q l (dg a).length cs ds w h hx.buf)
 obtain⟨bx,rfl,hxN,-⟩:=hx.cell (by omega)
 have HB:=Lz h
 have HX:=Lz hx
 have HT:=Lz htab
 have hbx:=hxN.lt
 have HV:=Lz (val_dg a)
 have hw2:IntKind.i64.wrap (2*((dg a).length:Int))=2*((dg a).length:Int):=IntWalk.i64_in _ (by omega)
 have hz0:(((dg a).length:Int)==0)=false:=by rw[beq_eq_false_iff_ne];omega
 have hz1:(((dg a).length:Int)==1)=false:=by rw[beq_eq_false_iff_ne];omega
 have hl12:((dg a).length:Int)<12:=by omega
 have hl80:((dg a).length:Int)<80:=by omega
 clear h hx htab hxN
 generalize dg a=X at *
 cases hal:al p (some ⟨bx,0,.none⟩) cs
 . have HNE:=Lz ((λe=>by subst e;simp[al] at hal;rw[hal];simp;omega):p=some ⟨bx,0,.none⟩->(cs).length<2*X.length)
   rw[hal] at HA
   clear hal
   go_enter Tryz.func176,Tryz.ntmps176
   go_wp2_with fail
   refine HA.out.mono ?_
   rintro e w0 ⟨rfl,n0,rfl⟩
   go_wp2_with fail
   have hmk:=nat_make p l (2*X.length) cs (w.drewN n0) (HB.out.kept (zzz _ _ .none) (λ_ _=>by simp)) (by omega)
   rw[show((2*X.length:Nat):Int)=2*(X.length:Int) by omega] at hmk
   refine hmk.mono ?_
   rintro e w1 ⟨p',cs',rfl,hb,hn,hg,hor⟩
   obtain⟨bz,rfl,hzN⟩:=hb.at (by omega)
   have hne:=make_apart hor rfl hbx HNE.out
   have hg2:w.grownBy w1 .none:=zzx (zzz _ _ _) hg
   have hx1:=HX.out.kept hg2 (λ_ _=>by simp)
   have ht1:=HT.out.kept hg2 (λ_ e=>by cases e)
   have g4:=ht1.sqr
   have g5:=ht1.ksqr
   have HF:=Lz (Fresh.older (w:=w) (w1:=w.drewN n0) (Nat.le_refl _) (MakeP.or hor):Fresh w p (some ⟨bz,0,.none⟩))
   have H10:=Lz (basicMul bz bx bx cs' X ds X ds w1 hzN hb.2.1 hx1 hx1 hne hne (by omega) (by omega) (by omega) (by omega) (by omega))
   rw[<-Nat.two_mul] at H10
   have HBN:=Lz hb
   have HG:=Lz hg2
   clear hzN hb hx1 hg hg2 hor ht1 hne hmk
   go_wp2_with fail
   refine H10.out.mono ?_
   rintro e w2 ⟨ks,rfl,hN2,hkl,hkw,hkv,hG2⟩
   have hB5:Buf w2 (some ⟨bz,0,.none⟩) (spl cs' 0 ks):=HBN.out.spl hN2 hkw (by omega)
   have hl5:(spl cs' 0 ks).length=cs'.length:=zzk (by omega)
   have ht5:(spl cs' 0 ks).take (2*X.length)=ks:=by
    have:=spl_zero (zs:=cs') (ks:=ks) (by omega)
    rwa [hkl,<-Nat.two_mul] at this
   rw[HV.out] at hkv
   obtain⟨hl6,hN6⟩:=Num.of_norm hB5 ht5 hkv (by rw[hl5];omega)
   have HNM:=Lz (nat_norm (some ⟨bz,0,.none⟩) (2*X.length) _ _ hB5 (by rw[hl5];omega))
   rw[hl5] at HNM
   have HL5:=Lz hl5
   have HL6:=Lz hl6
   have HN6:=Lz hN6
   have HGF:=Lz (grown_or (zwz HG.out _) hG2 HF.out)
   clear hB5 hl5 ht5 hkv hl6 hN6 hN2 hkl hkw hG2
   go_wp2_with fail
   refine HNM.out.mono ?_
   rintro e w4 ⟨rfl,rfl⟩
   rw[HL5.out,HL6.out]
   go_wp2_with fail
   go_ret
   exact⟨some ⟨bz,0,.none⟩,_,by rw[HL5.out];rfl,HN6.out,HGF.out,HF.out⟩
 . have HNE:=Lz ((λe=>by cases e):(Option.none:Option Addr)=some ⟨bx,0,.none⟩->(([]:List Nat)).length<2*X.length)
   rw[hal] at HA
   clear hal
   go_enter Tryz.func176,Tryz.ntmps176
   go_wp2_with fail
   refine HA.out.mono ?_
   rintro e w0 ⟨rfl,n0,rfl⟩
   go_wp2_with fail
   have hmk:=nat_make (Option.none:Option Addr) 0 (2*X.length) ([]:List Nat) (w.drewN n0) (Buf.nil _) (by omega)
   rw[show((2*X.length:Nat):Int)=2*(X.length:Int) by omega] at hmk
   refine hmk.mono ?_
   rintro e w1 ⟨p',cs',rfl,hb,hn,hg,hor⟩
   obtain⟨bz,rfl,hzN⟩:=hb.at (by omega)
   have hne:=make_apart hor rfl hbx HNE.out
   have hg2:w.grownBy w1 .none:=zzx (zzz _ _ _) hg
   have hx1:=HX.out.kept hg2 (λ_ _=>by simp)
   have ht1:=HT.out.kept hg2 (λ_ e=>by cases e)
   have g4:=ht1.sqr
   have g5:=ht1.ksqr
   have HF:=Lz ((Fresh.older (w:=w) (w1:=w.drewN n0) (Nat.le_refl _) (MakeP.or hor)).from_none p:Fresh w p (some ⟨bz,0,.none⟩))
   have H10:=Lz (basicMul bz bx bx cs' X ds X ds w1 hzN hb.2.1 hx1 hx1 hne hne (by omega) (by omega) (by omega) (by omega) (by omega))
   rw[<-Nat.two_mul] at H10
   have HBN:=Lz hb
   have HG:=Lz hg2
   clear hzN hb hx1 hg hg2 hor ht1 hne hmk
   go_wp2_with fail
   refine H10.out.mono ?_
   rintro e w2 ⟨ks,rfl,hN2,hkl,hkw,hkv,hG2⟩
   have hB5:Buf w2 (some ⟨bz,0,.none⟩) (spl cs' 0 ks):=HBN.out.spl hN2 hkw (by omega)
   have hl5:(spl cs' 0 ks).length=cs'.length:=zzk (by omega)
   have ht5:(spl cs' 0 ks).take (2*X.length)=ks:=by
    have:=spl_zero (zs:=cs') (ks:=ks) (by omega)
    rwa [hkl,<-Nat.two_mul] at this
   rw[HV.out] at hkv
   obtain⟨hl6,hN6⟩:=Num.of_norm hB5 ht5 hkv (by rw[hl5];omega)
   have HNM:=Lz (nat_norm (some ⟨bz,0,.none⟩) (2*X.length) _ _ hB5 (by rw[hl5];omega))
   rw[hl5] at HNM
   have HL5:=Lz hl5
   have HL6:=Lz hl6
   have HN6:=Lz hN6
   have HGF:=Lz (grown_or (zwz HG.out _) hG2 HF.out)
   clear hB5 hl5 ht5 hkv hl6 hN6 hN2 hkl hkw hG2
   go_wp2_with fail
   refine HNM.out.mono ?_
   rintro e w4 ⟨rfl,rfl⟩
   rw[HL5.out,HL6.out]
   go_wp2_with fail
   go_ret
   exact⟨some ⟨bz,0,.none⟩,_,by rw[HL5.out];rfl,HN6.out,HGF.out,HF.out⟩
end Go.Proofs.YtohhkjamddojmaaGreatDoor.Big
namespace Go.Proofs.YtohhkjamddojmaaGreatDoor.Big
open Go.RowKit
theorem zyw {a:Nat} (h:a≠0):0<(dg a).length:=Nat.pos_of_ne_zero λe=>h (dg_eq_nil.1 (List.eq_nil_of_length_eq_zero e))
theorem dg_of_one {a:Nat} (h:(dg a).length=1):(dg a).getD 0 0=a/\a<B64:=by
 have:=wds_one (dg a) h rfl
 have hv:=val_dg a
 rw[this,val_one] at hv
 exact⟨hv,by have:=dg_length.1 (Nat.le_of_eq h);simpa using this⟩
theorem nat_mul_none (p q q2:Option Addr) (s:Value) (l m:Nat) (cs ds es:List Nat) (w:World) (h:Buf w p cs) :
 Calls Tryz.prog 177 #[.slice p l cs.length,s,.slice q m ds.length,.slice q2 0 es.length] w (NumP p (dg 0) w):=by
 have K:NumP p (dg 0) w (.returned (.slice p 0 cs.length)) w:=⟨p,cs,by rw[zyv];rfl,⟨h,by rw[zyv];rfl,by rw[zyv];exact Nat.zero_le _⟩,zyz _ _,.inl rfl⟩
 have HK:=Lz K
 have HP:=Lz h.shape
 clear h K
 by_cases hm:m=0
 . subst hm
   rcases HP.out with rfl|⟨b,rfl⟩
   all_goals
    go_enter Tryz.func177,Tryz.ntmps177
    go_wp2_with fail
    go_ret
    exact HK.out
 . have hz:((m:Int)==0)=false:=by rw[beq_eq_false_iff_ne];omega
   rcases HP.out with rfl|⟨b,rfl⟩
   all_goals
    go_enter Tryz.func177,Tryz.ntmps177
    go_wp2_with fail
    go_ret
    exact HK.out
theorem nat_mul_one (p q q2:Option Addr) (s:Value) (l a b:Nat) (cs ds es:List Nat) (w:World) (h:Buf w p cs) (hx:Num w q (dg a) ds) (hy:Num w q2 (dg b) es) (hX:(dg a).length<=80000) (ha:a≠0) (hb1:(dg b).length=1) :
 Calls Tryz.prog 177 #[.slice p l cs.length,s,.slice q (dg a).length ds.length,.slice q2 1 es.length] w (NumP p (dg (a*b)) w):=by
 obtain⟨e0,hb⟩:=dg_of_one hb1
 obtain⟨by',rfl,-,hyc⟩:=hy.cell (by omega)
 have hc:=hyc 0 (by omega)
 rw[e0] at hc
 have hl:=zyw ha
 have HS:=Lz (nat_mulAddWW p q l a b 0 cs ds w h hx hX hb zxw)
 have hz:(((dg a).length:Int)==0)=false:=by rw[beq_eq_false_iff_ne];omega
 have hlt:¬((dg a).length:Int)<1:=by omega
 clear h hx hy e0 hyc hb ha hb1 hX
 generalize dg a=X at *
 go_enter Tryz.func177,Tryz.ntmps177
 go_wp2_with fail
 refine HS.out.mono ?_
 rintro e w1 ⟨p',cs',rfl,hn⟩
 rw[Nat.add_zero]  at hn
 have HN:=Lz hn
 clear hn
 go_wp2_with fail
 go_ret
 exact⟨p',cs',by rfl,HN.out⟩
theorem nat_mul_big (p q q2:Option Addr) (s:Value) (l a b:Nat) (cs ds es:List Nat) (w:World) (h:Buf w p cs) (hx:Num w q (dg a) ds) (hy:Num w q2 (dg b) es) (hX:(dg a).length<=40000) (hle:(dg b).length<=(dg a).length) (hY2:2<=(dg b).length) (hY:(dg b).length<=39) (htab:Tab w) :
 Calls Tryz.prog 177 #[.slice p l cs.length,s,.slice q (dg a).length ds.length,.slice q2 (dg b).length es.length] w (NumP p (dg (a*b)) w):=by
 have HA:=Lz (nat_alias p q l (dg a).length cs ds w h hx.buf)
 have HA2:=Lz λn=>nat_alias p q2 l (dg b).length cs es (w.drewN n) (h.kept (zzz _ _ .none) (λ_ _=>by simp)) (hy.buf.kept (zzz _ _ .none) (λ_ _=>by simp))
 obtain⟨bx,rfl,hxN,-⟩:=hx.cell (by omega)
 obtain⟨b2,rfl,hyN,-⟩:=hy.cell (by omega)
 have HB:=Lz h
 have HX:=Lz hx
 have HY:=Lz hy
 have HT:=Lz htab
 have hbx:=hxN.lt
 have hb2:=hyN.lt
 have HV:=Lz (val_dg a)
 have HV2:=Lz (val_dg b)
 have hlt:¬((dg a).length:Int)<((dg b).length:Int):=by omega
 have hz0:(((dg a).length:Int)==0)=false:=by rw[beq_eq_false_iff_ne];omega
 have hz1:(((dg b).length:Int)==0)=false:=by rw[beq_eq_false_iff_ne];omega
 have hz2:(((dg b).length:Int)==1)=false:=by rw[beq_eq_false_iff_ne];omega
 have hl40:((dg b).length:Int)<40:=by omega
 have hw2:IntKind.i64.wrap (((dg a).length:Int)+((dg b).length:Int))=((dg a).length:Int)+((dg b).length:Int):=IntWalk.i64_in _ (by omega)
 clear h hx hy htab hxN hyN
 generalize dg a=X at *
 generalize dg b=Y at *
 cases hal:al p (some ⟨bx,0,.none⟩) cs
 . cases hal2:al p (some ⟨b2,0,.none⟩) cs
   . have HNE:=Lz ((λe=>by subst e;simp[al] at hal;rw[hal];simp;omega):p=some ⟨bx,0,.none⟩->cs.length<X.length+Y.length)
     have HNE2:=Lz ((λe=>by subst e;simp[al] at hal2;rw[hal2];simp;omega):p=some ⟨b2,0,.none⟩->cs.length<X.length+Y.length)
     rw[hal] at HA
     rw[hal2] at HA2
     clear hal hal2
     go_enter Tryz.func177,Tryz.ntmps177
     go_wp2_with fail
     refine HA.out.mono ?_
     rintro e w0 ⟨rfl,n0,rfl⟩
     go_wp2_with fail
     refine(HA2.out n0).mono ?_
     rintro e w0 ⟨rfl,n1,rfl⟩
     rw[drewN_drewN]
     go_wp2_with fail
     have hmk:=nat_make p l (X.length+Y.length) cs (w.drewN (n0+n1)) (HB.out.kept (zzz _ _ .none) (λ_ _=>by simp)) (by omega)
     rw[show((X.length+Y.length:Nat):Int)=(X.length:Int)+(Y.length:Int) by omega] at hmk
     refine hmk.mono ?_
     rintro e w1 ⟨p',cs',rfl,hb,hn,hg,hor⟩
     obtain⟨bz,rfl,hzN⟩:=hb.at (by omega)
     have hne:=make_apart hor rfl hbx HNE.out
     have hne2:=make_apart hor rfl hb2 HNE2.out
     have hg2:w.grownBy w1 .none:=zzx (zzz _ _ _) hg
     have hx1:=HX.out.kept hg2 (λ_ _=>by simp)
     have hy1:=HY.out.kept hg2 (λ_ _=>by simp)
     have ht1:=HT.out.kept hg2 (λ_ e=>by cases e)
     have g6:=ht1.kmul
     have HF:=Lz ((Fresh.older (w:=w) (w1:=(w.drewN (n0+n1))) (Nat.le_refl _) (MakeP.or hor)):Fresh w p (some ⟨bz,0,.none⟩))
     have H10:=Lz (basicMul bz bx b2 cs' X ds Y es w1 hzN hb.2.1 hx1 hy1 hne hne2 (by omega) (by omega) (by omega) (by omega) (by omega))
     have HBN:=Lz hb
     have HG:=Lz hg2
     clear hzN hb hx1 hy1 hg hg2 hor ht1 hne hne2 hmk
     go_wp2_with fail
     refine H10.out.mono ?_
     rintro e w2 ⟨ks,rfl,hN2,hkl,hkw,hkv,hG2⟩
     have hB5:Buf w2 (some ⟨bz,0,.none⟩) (spl cs' 0 ks):=HBN.out.spl hN2 hkw (by omega)
     have hl5:(spl cs' 0 ks).length=cs'.length:=zzk (by omega)
     have ht5:(spl cs' 0 ks).take (X.length+Y.length)=ks:=by
      have:=spl_zero (zs:=cs') (ks:=ks) (by omega)
      rwa [hkl] at this
     rw[HV.out,HV2.out] at hkv
     obtain⟨hl6,hN6⟩:=Num.of_norm hB5 ht5 hkv (by rw[hl5];omega)
     have HNM:=Lz (nat_norm (some ⟨bz,0,.none⟩) (X.length+Y.length) _ _ hB5 (by rw[hl5];omega))
     rw[hl5] at HNM
     have HL5:=Lz hl5
     have HL6:=Lz hl6
     have HN6:=Lz hN6
     have HGF:=Lz (grown_or (zwz HG.out _) hG2 HF.out)
     clear hB5 hl5 ht5 hkv hl6 hN6 hN2 hkl hkw hG2
     go_wp2_with fail
     refine HNM.out.mono ?_
     rintro e w4 ⟨rfl,rfl⟩
     rw[HL5.out,HL6.out]
     go_wp2_with fail
     go_ret
     exact⟨some ⟨bz,0,.none⟩,_,by rw[HL5.out];rfl,HN6.out,HGF.out,HF.out⟩
   . have HNE:=Lz ((λe=>by cases e):(Option.none:Option Addr)=some ⟨bx,0,.none⟩->([]:List Nat).length<X.length+Y.length)
     have HNE2:=Lz ((λe=>by cases e):(Option.none:Option Addr)=some ⟨b2,0,.none⟩->([]:List Nat).length<X.length+Y.length)
     rw[hal] at HA
     rw[hal2] at HA2
     clear hal hal2
     go_enter Tryz.func177,Tryz.ntmps177
     go_wp2_with fail
     refine HA.out.mono ?_
     rintro e w0 ⟨rfl,n0,rfl⟩
     go_wp2_with fail
     refine(HA2.out n0).mono ?_
     rintro e w0 ⟨rfl,n1,rfl⟩
     rw[drewN_drewN]
     go_wp2_with fail
     have hmk:=nat_make (Option.none:Option Addr) 0 (X.length+Y.length) ([]:List Nat) (w.drewN (n0+n1)) (Buf.nil _) (by omega)
     rw[show((X.length+Y.length:Nat):Int)=(X.length:Int)+(Y.length:Int) by omega] at hmk
     refine hmk.mono ?_
     rintro e w1 ⟨p',cs',rfl,hb,hn,hg,hor⟩
     obtain⟨bz,rfl,hzN⟩:=hb.at (by omega)
     have hne:=make_apart hor rfl hbx HNE.out
     have hne2:=make_apart hor rfl hb2 HNE2.out
     have hg2:w.grownBy w1 .none:=zzx (zzz _ _ _) hg
     have hx1:=HX.out.kept hg2 (λ_ _=>by simp)
     have hy1:=HY.out.kept hg2 (λ_ _=>by simp)
     have ht1:=HT.out.kept hg2 (λ_ e=>by cases e)
     have g6:=ht1.kmul
     have HF:=Lz ((Fresh.older (w:=w) (w1:=(w.drewN (n0+n1))) (Nat.le_refl _) (MakeP.or hor)).from_none p:Fresh w p (some ⟨bz,0,.none⟩))
     have H10:=Lz (basicMul bz bx b2 cs' X ds Y es w1 hzN hb.2.1 hx1 hy1 hne hne2 (by omega) (by omega) (by omega) (by omega) (by omega))
     have HBN:=Lz hb
     have HG:=Lz hg2
     clear hzN hb hx1 hy1 hg hg2 hor ht1 hne hne2 hmk
     go_wp2_with fail
     refine H10.out.mono ?_
     rintro e w2 ⟨ks,rfl,hN2,hkl,hkw,hkv,hG2⟩
     have hB5:Buf w2 (some ⟨bz,0,.none⟩) (spl cs' 0 ks):=HBN.out.spl hN2 hkw (by omega)
     have hl5:(spl cs' 0 ks).length=cs'.length:=zzk (by omega)
     have ht5:(spl cs' 0 ks).take (X.length+Y.length)=ks:=by
      have:=spl_zero (zs:=cs') (ks:=ks) (by omega)
      rwa [hkl] at this
     rw[HV.out,HV2.out] at hkv
     obtain⟨hl6,hN6⟩:=Num.of_norm hB5 ht5 hkv (by rw[hl5];omega)
     have HNM:=Lz (nat_norm (some ⟨bz,0,.none⟩) (X.length+Y.length) _ _ hB5 (by rw[hl5];omega))
     rw[hl5] at HNM
     have HL5:=Lz hl5
     have HL6:=Lz hl6
     have HN6:=Lz hN6
     have HGF:=Lz (grown_or (zwz HG.out _) hG2 HF.out)
     clear hB5 hl5 ht5 hkv hl6 hN6 hN2 hkl hkw hG2
     go_wp2_with fail
     refine HNM.out.mono ?_
     rintro e w4 ⟨rfl,rfl⟩
     rw[HL5.out,HL6.out]
     go_wp2_with fail
     go_ret
     exact⟨some ⟨bz,0,.none⟩,_,by rw[HL5.out];rfl,HN6.out,HGF.out,HF.out⟩
 . have HNE:=Lz ((λe=>by cases e):(Option.none:Option Addr)=some ⟨bx,0,.none⟩->([]:List Nat).length<X.length+Y.length)
   have HNE2:=Lz ((λe=>by cases e):(Option.none:Option Addr)=some ⟨b2,0,.none⟩->([]:List Nat).length<X.length+Y.length)
   rw[hal] at HA
   clear hal
   go_enter Tryz.func177,Tryz.ntmps177
   go_wp2_with fail
   refine HA.out.mono ?_
   rintro e w0 ⟨rfl,n0,rfl⟩
   go_wp2_with fail
   have hmk:=nat_make (Option.none:Option Addr) 0 (X.length+Y.length) ([]:List Nat) (w.drewN n0) (Buf.nil _) (by omega)
   rw[show((X.length+Y.length:Nat):Int)=(X.length:Int)+(Y.length:Int) by omega] at hmk
   refine hmk.mono ?_
   rintro e w1 ⟨p',cs',rfl,hb,hn,hg,hor⟩
   obtain⟨bz,rfl,hzN⟩:=hb.at (by omega)
   have hne:=make_apart hor rfl hbx HNE.out
   have hne2:=make_apart hor rfl hb2 HNE2.out
   have hg2:w.grownBy w1 .none:=zzx (zzz _ _ _) hg
   have hx1:=HX.out.kept hg2 (λ_ _=>by simp)
   have hy1:=HY.out.kept hg2 (λ_ _=>by simp)
   have ht1:=HT.out.kept hg2 (λ_ e=>by cases e)
   have g6:=ht1.kmul
   have HF:=Lz ((Fresh.older (w:=w) (w1:=(w.drewN n0)) (Nat.le_refl _) (MakeP.or hor)).from_none p:Fresh w p (some ⟨bz,0,.none⟩))
   have H10:=Lz (basicMul bz bx b2 cs' X ds Y es w1 hzN hb.2.1 hx1 hy1 hne hne2 (by omega) (by omega) (by omega) (by omega) (by omega))
   have HBN:=Lz hb
   have HG:=Lz hg2
   clear hzN hb hx1 hy1 hg hg2 hor ht1 hne hne2 hmk
   go_wp2_with fail
   refine H10.out.mono ?_
   rintro e w2 ⟨ks,rfl,hN2,hkl,hkw,hkv,hG2⟩
   have hB5:Buf w2 (some ⟨bz,0,.none⟩) (spl cs' 0 ks):=HBN.out.spl hN2 hkw (by omega)
   have hl5:(spl cs' 0 ks).length=cs'.length:=zzk (by omega)
   have ht5:(spl cs' 0 ks).take (X.length+Y.length)=ks:=by
    have:=spl_zero (zs:=cs') (ks:=ks) (by omega)
    rwa [hkl] at this
   rw[HV.out,HV2.out] at hkv
   obtain⟨hl6,hN6⟩:=Num.of_norm hB5 ht5 hkv (by rw[hl5];omega)
   have HNM:=Lz (nat_norm (some ⟨bz,0,.none⟩) (X.length+Y.length) _ _ hB5 (by rw[hl5];omega))
   rw[hl5] at HNM
   have HL5:=Lz hl5
   have HL6:=Lz hl6
   have HN6:=Lz hN6
   have HGF:=Lz (grown_or (zwz HG.out _) hG2 HF.out)
   clear hB5 hl5 ht5 hkv hl6 hN6 hN2 hkl hkw hG2
   go_wp2_with fail
   refine HNM.out.mono ?_
   rintro e w4 ⟨rfl,rfl⟩
   rw[HL5.out,HL6.out]
   go_wp2_with fail
   go_ret
   exact⟨some ⟨bz,0,.none⟩,_,by rw[HL5.out];rfl,HN6.out,HGF.out,HF.out⟩
theorem nat_mul (p q q2:Option Addr) (s:Value) (l a b:Nat) (cs ds es:List Nat) (w:World) (h:Buf w p cs) (hx:Num w q (dg a) ds) (hy:Num w q2 (dg b) es) (hX:(dg a).length<=39) (hY:(dg b).length<=39) (htab:Tab w) :
 Calls Tryz.prog 177 #[.slice p l cs.length,s,.slice q (dg a).length ds.length,.slice q2 (dg b).length es.length] w (NumP p (dg (a*b)) w):=by
 have long:∀ (q q2:Option Addr) (a b:Nat) (ds es:List Nat),Num w q (dg a) ds->Num w q2 (dg b) es->(dg a).length<=39->(dg b).length<=(dg a).length →
  Calls Tryz.prog 177 #[.slice p l cs.length,s,.slice q (dg a).length ds.length,.slice q2 (dg b).length es.length] w (NumP p (dg (a*b)) w):=by
  intro q q2 a b ds es hx hy hX hle
  by_cases h0:b=0
  . subst h0
    rw[Nat.mul_zero,zyv]
    have:=nat_mul_none p q q2 s l (dg a).length cs ds es w h
    rwa [zyv] at this
  . have hl:=zyw h0
    have ha:a≠0:=by
     rintro rfl
     rw[zyv] at hle
     rw[List.length_nil] at hle;omega
    by_cases h1:(dg b).length=1
    . rw[h1]
      exact nat_mul_one p q q2 s l a b cs ds es w h hx hy (by omega) ha h1
    . exact nat_mul_big p q q2 s l a b cs ds es w h hx hy (by omega) hle (by omega) (by omega) htab
 by_cases hlt:(dg a).length<(dg b).length
 . have H0:=long q2 q b a es ds hy hx hY (by omega)
   rw[Nat.mul_comm b a] at H0
   have H:=Lz H0
   clear H0
   clear long h hx hy htab
   go_enter Tryz.func177,Tryz.ntmps177
   go_wp2_with fail
   refine H.out.mono ?_
   rintro e w1 ⟨p',cs',rfl,hn⟩
   have HN:=Lz hn
   clear hn
   go_wp2_with fail
   go_ret
   exact⟨p',cs',rfl,HN.out⟩
 . exact long q q2 a b ds es hx hy hX (by omega)
theorem nat_sqr (p q:Option Addr) (s:Value) (l a:Nat) (cs ds:List Nat) (w:World) (h:Buf w p cs) (hx:Num w q (dg a) ds) (hX:(dg a).length<=11) (htab:Tab w) :
 Calls Tryz.prog 176 #[.slice p l cs.length,s,.slice q (dg a).length ds.length] w (NumP p (dg (a*a)) w):=by
 by_cases h1:(dg a).length<=1
 . exact nat_sqr_small p q s l a cs ds w h hx h1
 . exact nat_sqr_big p q s l a cs ds w h hx (by omega) hX htab
end Go.Proofs.YtohhkjamddojmaaGreatDoor.Big
