/- Shifts to the left: rows of words, natural numbers. Shifts to the left, of Ints; what is chosen of what is owned. -/
import Derived.Test.YtohhkjamddojmaaGreatDoorWU
import Derived.Test.YtohhkjamddojmaaGreatDoorIJ
set_option maxRecDepth 100000
set_option maxHeartbeats 16000000
namespace Go.Proofs.YtohhkjamddojmaaGreatDoor.Big
open Go.RowKit
def shl (s:Nat):Nat->List Nat->List Nat
 | _,[]=>[]
 | c,x :: xs=>(x*2^s%B64+c) :: shl s (x/2^(64-s)) xs
def shlC (s:Nat):Nat->List Nat->Nat
 | c,[]=>c
 | _,x :: xs=>shlC s (x/2^(64-s)) xs
theorem sh_pow {s:Nat} (hs:s<=63):2^(64-s)*2^s=B64:=by
 rw[<-Nat.pow_add,show 64-s+s=64 by omega];rfl
theorem sh_split {s:Nat} (x:Nat) (hs:s<=63):x*2^s=x*2^s%B64+B64*(x/2^(64-s)):=by
 have e:x*2^s/B64=x/2^(64-s):=by rw[<-sh_pow hs,Nat.mul_div_mul_right _ _ (Nat.pow_pos (by omega))]
 rw[<-e,Nat.mod_add_div]
theorem sh_low {s:Nat} (x:Nat) (hs:s<=63):x*2^s%B64=x%2^(64-s)*2^s:=by
 rw[<-sh_pow hs,Nat.mul_mod_mul_right]
theorem sh_room {s c:Nat} (x:Nat) (hs:s<=63) (hc:c<2^s):x*2^s%B64+c<B64:=by
 rw[sh_low x hs,<-sh_pow hs]
 have h1:x%2^(64-s)<2^(64-s):=Nat.mod_lt _ (Nat.pow_pos (by omega))
 have h2:(x%2^(64-s)+1)*2^s<=2^(64-s)*2^s:=Nat.mul_le_mul_right _ h1
 rw[Nat.add_mul,Nat.one_mul] at h2
 omega
theorem sh_carry {s x:Nat} (hs:s<=63) (hx:x<B64):x/2^(64-s)<2^s:=by
 rw[Nat.div_lt_iff_lt_mul (Nat.pow_pos (by omega)),Nat.mul_comm,sh_pow hs];exact hx
theorem shl_val {s:Nat} (hs:s<=63):∀ (X:List Nat) (c:Nat),val (shl s c X)+B64^X.length*shlC s c X=val X*2^s+c
 | [],c=>by simp[shl,shlC,val]
 | x :: X,c=>by
  have ih:=shl_val hs X (x/2^(64-s))
  show x*2^s%B64+c+B64*val (shl s (x/2^(64-s)) X)+B64^(X.length+1)*shlC s (x/2^(64-s)) X=(x+B64*val X)*2^s+c
  have e:=sh_split x hs
  have e2:B64*(val (shl s (x/2^(64-s)) X)+B64^X.length*shlC s (x/2^(64-s)) X)=B64*(val X*2^s+x/2^(64-s)):=by rw[ih]
  rw[Nat.mul_add,Nat.mul_add] at e2
  have e3:B64^(X.length+1)*shlC s (x/2^(64-s)) X=B64*(B64^X.length*shlC s (x/2^(64-s)) X):=by rw[Nat.pow_succ,Nat.mul_comm (B64^X.length),Nat.mul_assoc]
  have e4:(x+B64*val X)*2^s=x*2^s+B64*(val X*2^s):=by rw[Nat.add_mul,Nat.mul_assoc]
  omega
theorem shl_words {s:Nat} (hs:s<=63):∀ (X:List Nat) (c:Nat),Words X->c<2^s->Words (shl s c X)/\shlC s c X<2^s
 | [],c,_,hc=>⟨Words.nil,hc⟩
 | x :: X,c,h,hc=>by
  obtain⟨h1,h2⟩:=shl_words hs X (x/2^(64-s)) (λy hy=>h y (List.mem_cons_of_mem _ hy)) (sh_carry hs (h x List.mem_cons_self))
  refine⟨λy hy=>?_,h2⟩
  rcases List.mem_cons.1 hy with rfl|hy
  . exact sh_room x hs hc
  . exact h1 y hy
theorem shl_length {s:Nat}:∀ (X:List Nat) (c:Nat),(shl s c X).length=X.length
 | [],_=>rfl
 | x :: X,c=>by show(shl s _ X).length+1=_;rw[shl_length X];rfl
theorem shl_at {s:Nat}:∀ (X:List Nat) (c k:Nat),k<X.length->(shl s c X).drop k=(X.getD k 0*2^s%B64+(if k=0 then c else X.getD (k-1) 0/2^(64-s))) :: (shl s c X).drop (k+1)
 | [],_,k,h=>absurd h (Nat.not_lt_zero k)
 | x :: X,c,0,_=>by simp[shl]
 | x :: X,c,k+1,h=>by
  have ih:=shl_at (s:=s) X (x/2^(64-s)) k (by simpa using h)
  show(shl s (x/2^(64-s)) X).drop k=_
  rw[ih]
  congr 1
  cases k with
  | zero=>simp
  | succ k=>simp
theorem shlC_last {s:Nat}:∀ (X:List Nat) (c:Nat),0<X.length->shlC s c X=X.getD (X.length-1) 0/2^(64-s)
 | [x],c,_=>by simp[shlC]
 | x :: y :: X,c,_=>by
  show shlC s (x/2^(64-s)) (y :: X)=_
  rw[shlC_last (y :: X) _ (by simp)]
  simp
theorem spl_front {zs ks:List Nat} {o v:Nat} (h:o<zs.length):(spl zs (o+1) ks).set o v=spl zs o (v :: ks):=by
 unfold spl
 have e:zs.take (o+1)=zs.take o ++ [zs[o]]:=by rw[List.take_succ_eq_append_getElem h]
 have e2:(zs.take o).length=o:=by simp;omega
 rw[e,List.append_assoc,List.append_assoc,List.set_append_right _ _ (by omega),e2,Nat.sub_self]
 simp[Nat.add_assoc,Nat.add_comm 1]
theorem spl_below {zs ks:List Nat} {o i:Nat} (h:i<o) (h2:o<=zs.length):(spl zs o ks).getD i 0=zs.getD i 0:=by
 unfold spl
 rw[List.getD,List.append_assoc,List.getElem?_append_left (by simp;omega),List.getElem?_take,if_pos h,List.getD]
theorem write_front {w:World} {b o v:Nat} {zs ks:List Nat} (hb:NatB w b (spl zs (o+1) ks)) (h:o<zs.length):NatB (w.setCell ⟨b,o,none⟩ (wd v)) b (spl zs o (v :: ks)):=by
 have:=hb.set o v
 rwa [spl_front h] at this
def ShlP (bz oz:Nat) (zs X:List Nat) (s:Nat) (w:World) (e:Ending) (w':World):Prop:=
 e=.returned (wd (shlC s 0 X))/\NatB w' bz (spl zs oz (shl s 0 X))/\w.grownBy w' (some bz)
theorem and63 (x:Nat) (h:x<=63):bits .and .u64 (x:Int) 63=(x:Int):=by
 have:=u64_and_nat x 63 (by omega) (by decide)
 rw[show((63:Nat):Int)=63 from rfl] at this
 rw[this]
 congr 1
 have:=Nat.and_two_pow_sub_one_eq_mod x 6
 rw[show 2^6-1=63 from rfl] at this
 rw[this]
 exact Nat.mod_eq_of_lt (by omega)
theorem shl_word {s a b:Nat} (hs:s<=63) (hb:b<B64):IntKind.u64.wrap ((a:Int)*2^s)=((a*2^s%B64:Nat):Int)/\bits .or .u64 ((a*2^s%B64:Nat):Int) ((b:Int)/2^(64-s))=((a*2^s%B64+b/2^(64-s):Nat):Int):=by
 refine⟨by rw[show(a:Int)*2^s=((a*2^s:Nat):Int) by push_cast;rfl,zxx],?_⟩
 have e:(b:Int)/2^(64-s)=((b/2^(64-s):Nat):Int):=by push_cast;rfl
 rw[e,sh_low a hs]
 exact or_add hs (by rw[<-sh_low a hs];exact Nat.mod_lt _ zxw) (sh_carry hs hb)
theorem lshVU_g (bz oz n cz bx ox cx s:Nat) (zs xs:List Nat) (w:World) (hz:NatB w bz zs) (hx:NatB w bx xs) (hzn:oz+n<=zs.length) (hxn:ox+n<=xs.length)
 (hwx:Words xs) (hs:1<=s) (hs2:s<=63) (hal:bx≠bz\/ox<=oz) (h1:1<=n) (hn:n<=1000000) :
 Calls Tryz.prog 224 #[.slice (some ⟨bz,oz,none⟩) n cz,.slice (some ⟨bx,ox,none⟩) n cx,.int .u64 s] w (ShlP bz oz zs ((xs.drop ox).take n) s w):=by
 obtain⟨m,rfl⟩:∃ m,n=m+1:=⟨n-1,by omega⟩
 obtain⟨t,ht⟩:∃ t,t=64-s:=⟨_,rfl⟩
 obtain⟨X,hX⟩:∃ X,X=(xs.drop ox).take (m+1):=⟨_,rfl⟩
 have hXl:X.length=m+1:=by rw[hX];simp;omega
 have hXg:∀ k,k<m+1->X.getD k 0=xs.getD (ox+k) 0:=λk hk=>by rw[hX];exact zww hk
 have hg0:∀ (wr:World) (k:Nat),k<m+1->NatB wr bz (spl zs (oz+k+1) ((shl s 0 X).drop (k+1)))->w.grownBy wr (some bz)->∀ i,i<=k->wr.cell? ⟨bx,ox+i,none⟩=some (wd (X.getD i 0)):=by
  intro wr k hk hN hG i hi
  rw[hXg i (by omega)]
  by_cases hne:bx=bz
  . subst hne
    have hxz:=hx.inj hz
    subst hxz
    have hsz:(spl xs (oz+k+1) ((shl s 0 X).drop (k+1))).length=xs.length:=zzk (by rw[List.length_drop,shl_length];omega)
    have:=hN.cell (ox+i) (by omega)
    rw[spl_below (by rcases hal with h|h;exact absurd rfl h;omega) (by omega)] at this
    exact this
  . exact(hx.kept hG (by simp[hne])).cell _ (by omega)
 have hw64:∀ i,i<m+1->X.getD i 0<B64:=λi hi=>by rw[hXg i hi];exact hwx.getD _
 have a1:=and63 s hs2
 have a2:=and63 t (by omega)
 have e64:IntKind.u64.wrap (64-(s:Int))=(t:Int):=by rw[show 64-(s:Int)=(t:Int) by omega,zxx,Nat.mod_eq_of_lt (by unfold B64;omega)]
 have e64':64-(s:Int)=(t:Int):=by omega
 have hcl:w.cell? ⟨bx,ox+m,none⟩=some (wd (X.getD m 0)):=by rw[hXg m (by omega)];exact hx.cell _ (by omega)
 have HLast:=Lz (show shlC s 0 X=X.getD m 0/2^t by rw[shlC_last X 0 (by omega),hXl,ht];rfl)
 have HT:=Lz ht
 have HC:=Lz hg0
 have HW:=Lz hw64
 have HAT:=Lz (λk (hk:k<m+1)=>shl_at (s:=s) X 0 k (by omega))
 have HSL:=Lz (show(shl s 0 X).length=m+1 by rw[shl_length,hXl])
 have HZ:=Lz hz
 have HS:=Lz (And.intro hs hs2)
 have hlast:((X.getD m 0:Nat):Int)/2^t=((X.getD m 0/2^t:Nat):Int):=by push_cast;rfl
 rw[<-hX]
 clear hX hXl hXg hg0 hw64 hz hx hwx hal ht
 generalize hxl:X.getD m 0=xl at *
 generalize hcv:xl/2^t=cv at *
 go_enter Tryz.func224,Tryz.ntmps224
 go_wp2_with fail
 have hstart:NatB w bz (spl zs (oz+m+1) ((shl s 0 X).drop (m+1))):=by
  rw[List.drop_of_length_le (by have:=HSL.out;omega),spl_nil];exact HZ.out
 have HST:=Lz hstart
 clear hstart
 go_loopw [8] (λi wr=>∃ k:Nat,k<=m/\i=.int .i64 k/\NatB wr bz (spl zs (oz+k+1) ((shl s 0 X).drop (k+1)))/\w.grownBy wr (some bz)) (λi _=>(intOf i).toNat)
 case atStart=>exact⟨m,Nat.le_refl _,rfl,HST.out,zyz _ _⟩
 case round=>
  obtain⟨k,hk,rfl,hN,hG⟩:=hrel
  by_cases hk0:k=0
  . subst hk0
    have hxc:=HC.out wr 0 (by omega) hN hG 0 (Nat.le_refl _)
    have hzc:=hN.cell oz (by rw[zzk (by have:=HSL.out;rw[List.length_drop];omega)];omega)
    have hzf:=hN.free oz
    have h1:=(shl_word (a:=X.getD 0 0) (b:=0) HS.out.2 zxw).1
    have hsp:=write_front hN (v:=X.getD 0 0*2^s%B64) (by omega)
    have hat:=HAT.out 0 (by omega)
    simp only[List.drop_zero,if_true,Nat.add_zero,Nat.zero_add] at hat hsp hxc
    rw[<-hat] at hsp
    have HSP:=Lz hsp
    have HG:=Lz hG
    generalize (spl zs (oz+0+1) ((shl s 0 X).drop (0+1))).getD oz 0=zold at *
    generalize X.getD 0 0=xa at *
    generalize xa*2^s%B64=va at *
    clear hN hG hat hsp
    go_wp2_with fail
    go_ret
    exact⟨by rw[HLast.out];rfl,HSP.out,zzx HG.out (zzw _ _ _ _)⟩
  . obtain⟨j,rfl⟩:∃ j,k=j+1:=⟨k-1,by omega⟩
    have hxc:=HC.out wr (j+1) (by omega) hN hG (j+1) (Nat.le_refl _)
    have hxj:=HC.out wr (j+1) (by omega) hN hG j (by omega)
    have hzc:=hN.cell (oz+(j+1)) (by rw[zzk (by have:=HSL.out;rw[List.length_drop];omega)];omega)
    have hzf:=hN.free (oz+(j+1))
    generalize (spl zs (oz+(j+1)+1) ((shl s 0 X).drop (j+1+1))).getD (oz+(j+1)) 0=zold at *
    obtain⟨h1,h2⟩:=shl_word (a:=X.getD (j+1) 0) HS.out.2 (HW.out j (by omega))
    rw[<-HT.out] at h2
    have HN:=Lz hN
    have HG:=Lz hG
    generalize hxa:X.getD (j+1) 0=xa at *
    generalize hxb:X.getD j 0=xb at *
    clear hN hG
    obtain⟨va,hva⟩:∃ va,xa*2^s%B64=va:=⟨_,rfl⟩
    rw[hva] at h1 h2
    obtain⟨vb,hvb⟩:∃ vb,va+xb/2^t=vb:=⟨_,rfl⟩
    rw[hvb] at h2
    have hsp:=λwx (h:NatB wx bz (spl zs (oz+(j+1)+1) ((shl s 0 X).drop (j+1+1))))=>write_front h (v:=vb) (by omega)
    have hat:=HAT.out (j+1) (by omega)
    rw[if_neg (by omega),hxa,Nat.add_sub_cancel,hxb,<-HT.out,hva,hvb] at hat
    rw[<-hat] at hsp
    have HSP:=Lz hsp
    clear hsp hat hva hvb hxa hxb
    go_wp2_with fail
    go_region
    go_wp2_with fail
    go_roundw
    case rel=>exact⟨j,by omega,by go_num,HSP.out _ HN.out,zzx HG.out (zzx (zzw _ _ _ _) (zzz _ 1 _))⟩
    case measure=>simp[intOf]
theorem lshVU (bz oz n cz bx ox cx s:Nat) (zs xs:List Nat) (w:World) (hz:NatB w bz zs) (hx:NatB w bx xs) (hzn:oz+n<=zs.length) (hxn:ox+n<=xs.length)
 (hwx:Words xs) (hs:1<=s) (hs2:s<=63) (hal:bx≠bz\/ox<=oz) (h1:1<=n) (hn:n<=1000000) :
 Calls Tryz.prog 188 #[.slice (some ⟨bz,oz,none⟩) n cz,.slice (some ⟨bx,ox,none⟩) n cx,.int .u64 s] w (ShlP bz oz zs ((xs.drop ox).take n) s w):=by
 have HC:=Lz (lshVU_g bz oz n cz bx ox cx s zs xs w hz hx hzn hxn hwx hs hs2 hal h1 hn)
 clear hz hx hzn hxn hwx hs hs2 hal h1 hn
 go_enter Tryz.func188,Tryz.ntmps188
 go_wp2_with fail
 refine HC.out.mono ?_
 rintro e w1 ⟨rfl,h⟩
 have H:=Lz h
 clear h HC
 go_wp2_with fail
 go_ret
 exact⟨rfl,H.out⟩
theorem nat_lsh (p q:Option Addr) (l a s:Nat) (cs ds:List Nat) (w:World) (h:Buf w p cs) (hx:Num w q (dg a) ds) (hX:(dg a).length<=80000) (hs:1<=s) (hs2:s<=63) :
 Calls Tryz.prog 168 #[.slice p l cs.length,.slice q (dg a).length ds.length,.int .u64 s] w (NumP p (dg (a*2^s)) w):=by
 by_cases h0:a=0
 . subst h0
   have K:NumP p (dg (0*2^s)) w (.returned (.slice p 0 cs.length)) w:=⟨p,cs,by rw[Nat.zero_mul,zyv];rfl,by rw[Nat.zero_mul,zyv];exact⟨h,rfl,Nat.zero_le _⟩,zyz _ _,.inl rfl⟩
   have HK:=Lz K
   have hp:=h.shape
   rw[zyv] at *
   clear h hx hX K
   rcases hp with rfl|⟨b,rfl⟩
   all_goals
    go_enter Tryz.func168,Tryz.ntmps168
    go_wp2_with fail
    go_ret
    exact HK.out
 . have hl:0<(dg a).length:=Nat.pos_of_ne_zero λe=>h0 (dg_eq_nil.1 (List.eq_nil_of_length_eq_zero e))
   have HV:=Lz (val_dg a)
   have hxl:=hx.le
   have HB:=Lz h
   have HX:=Lz hx
   have hz1:(((dg a).length:Int)==0)=false:=by rw[beq_eq_false_iff_ne];omega
   have q1:(s:Int)/64=0:=by omega
   have q2:(s:Int)%64=s:=by omega
   clear h hx h0
   generalize dg a=X at *
   go_enter Tryz.func168,Tryz.ntmps168
   go_wp2_with fail
   refine(nat_make p l (X.length+1) cs w HB.out (by omega)).mono ?_
   rintro e w1 ⟨p',cs',rfl,hb,hn,hg,hor⟩
   obtain⟨bz,rfl,hzN⟩:=hb.at (by omega)
   have hx1:=HX.out.kept hg (λ_ _=>by simp)
   obtain⟨bx,rfl,hxN,-⟩:=hx1.cell (by omega)
   have H10:=Lz (lshVU bz 0 X.length cs'.length bx 0 ds.length s cs' ds w1 hzN hxN (by omega) (by omega) hx1.buf.2.1 hs hs2 (.inr (Nat.le_refl _)) (by omega) (by omega))
   have HBN:=Lz hb
   have HX1:=Lz hx1
   have HG:=Lz hg
   have HO:=Lz hor
   have hyn:(X.length:Int)<=(cs'.length:Int):=by omega
   have hclr:∀ (ty:TypeId) (w:World),(Builtin.clear_ #[170] ty #[.slice (some ⟨bz,0,.none⟩) 0 cs'.length]).run Tryz.prog w=.ok (.tuple #[]) w:=λty w=>by simp[Builtin.clear_,run_underlying Tryz.underlying170]
   clear hzN hxN hb hx1 hg hor
   go_wp2_with fail
   refine H10.out.mono ?_
   rintro e w2 ⟨rfl,hN2,hG2⟩
   rw[List.drop_zero,HX1.out.take] at hN2 ⊢
   obtain⟨hkw,hcs⟩:=shl_words hs2 X 0 HX1.out.words (Nat.pow_pos (by omega))
   have hkv:=shl_val hs2 X 0
   have hkl:=shl_length (s:=s) X 0
   have hc:shlC s 0 X<B64:=Nat.lt_of_lt_of_le hcs (by rw[show B64=2^64 from rfl];exact Nat.pow_le_pow_right (by omega) (by omega))
   generalize shl s 0 X=ks at *
   generalize shlC s 0 X=c at *
   have hc4:=hN2.cell X.length (by rw[zzk (by omega)];omega)
   have hf4:=hN2.free X.length
   have hN5:=write_row (v:=c) hN2 hkl (by omega)
   rw[Nat.zero_add] at hN5
   generalize (spl cs' 0 ks).getD X.length 0=old at *
   have hl5:(spl cs' 0 (ks ++ [c])).length=cs'.length:=zzk (by simp;omega)
   have hB5:Buf (w2.setCell ⟨bz,X.length,.none⟩ (wd c)) (some ⟨bz,0,.none⟩) (spl cs' 0 (ks ++ [c])):=HBN.out.spl hN5 (hkw.append (Words.one hc)) (by simp;omega)
   have ht5:(spl cs' 0 (ks ++ [c])).take (X.length+1)=ks ++ [c]:=by
    have:=spl_zero (zs:=cs') (ks:=ks ++ [c]) (by simp;omega)
    rwa [List.length_append,hkl] at this
   have hv5:val (ks ++ [c])=a*2^s:=by
    rw[HV.out,Nat.add_zero] at hkv
    rw[zyk,hkl]
    exact hkv
   obtain⟨hl6,hN6⟩:=Num.of_norm hB5 ht5 hv5 (by rw[hl5];omega)
   have HNM:=Lz (nat_norm (some ⟨bz,0,.none⟩) (X.length+1) _ _ hB5 (by rw[hl5];omega))
   rw[hl5] at HNM
   have HL5:=Lz hl5
   have HL6:=Lz hl6
   have HN6:=Lz hN6
   have HGF:=Lz (grown_or (zwz HG.out _) (p':=some ⟨bz,0,.none⟩) (zzx hG2 (zzw w2 bz X.length (wd c))) (MakeP.or HO.out))
   have m1:(X.length:Int)<(X.length:Int)+1:=by omega
   clear hkl hN5 hl5 hB5 ht5 hv5 hl6 hN6 hN2 hkw hkv hc hG2 hcs
   go_wp2_with fail
   refine HNM.out.mono ?_
   rintro e w4 ⟨rfl,rfl⟩
   rw[HL5.out,HL6.out]
   go_wp2_with fail
   go_ret
   exact⟨some ⟨bz,0,.none⟩,_,by rw[HL5.out];rfl,HN6.out,HGF.out,MakeP.or HO.out⟩
end Go.Proofs.YtohhkjamddojmaaGreatDoor.Big
namespace Go.Proofs.YtohhkjamddojmaaGreatDoor.Big
open Go.RowKit
theorem lsh_abs (a:Int) (s:Nat):(a*2^s).natAbs=a.natAbs*2^s:=by
 rw[Int.natAbs_mul,Int.natAbs_pow];rfl
theorem lsh_sign (a:Int) (s:Nat):decide (a<0)=decide (a*2^s<0):=by
 have hp:(0:Int)<2^s:=Int.pow_pos (by decide)
 by_cases h:a<0
 . have:=Int.mul_neg_of_neg_of_pos h hp
   simp[h,this]
 . have:=Int.mul_nonneg (Int.not_lt.1 h) (Int.le_of_lt hp)
   simp[h,Int.not_lt.2 this]
theorem Int_Lsh_other {R:Nat->Prop} {w:World} {zs:List Nat} {vs:List Int} (h:Ints R w zs vs) (i j z x s:Nat) (a:Int) (hi:zs[i]? = some z) (hj:zs[j]? = some x) (hzx:z≠x) (hR:¬R z) (ha:vs[j]? = some a) (hla:(dg a.natAbs).length<=80000) (hs:1<=s) (hs2:s<=63) :
 Calls Tryz.prog 143 #[ptr z,ptr x,.int .u64 s] w (IntP R zs (vs.set i (a*2^s)) z w):=by
 obtain⟨ps,qs,h⟩:=h
 obtain⟨v,p,q,hv,hp,hq,oz⟩:=h.at hi
 obtain⟨a',px,dx,ha',hpx,hqx,ox⟩:=h.at hj
 obtain rfl:a=a':=by rw[ha] at ha';exact Option.some.inj ha'
 have hpz:blk p≠some z:=h.zp i i z p hi hp
 have HOP:=Lz λn=>nat_lsh p px (dg v.natAbs).length a.natAbs s q dx (w.drewN n) (oz.num.buf.kept (zzz _ _ .none) (λ_ _=>by simp)) (ox.num.kept (zzz _ _ .none) (λ_ _=>by simp)) hla hs hs2
 have hz1:=oz.str.cell1
 have hx1:=ox.str.cell1
 have hx0:∀ wx,zxy w z p (decide (v<0)) (a.natAbs*2^s) wx->wx.cell? ⟨x,0,.none⟩=some (.bool (decide (a<0))):=by
  rintro wx ⟨p',q',h1,h2,h3,h4,h5⟩
  exact(ox.str.grow h3 (by rintro(e|e);exact hzx e.symm;exact h.zp j i x p hj hp e)).cell0
 have HX0:=Lz hx0
 have HF:=Lz h
 have HSZ:=Lz oz.str
 have HPZ:=Lz hpz
 have HHI:=Lz hi
 have HHP:=Lz hp
 have HHR:=Lz hR
 clear h hi hj hR ha ha' hv hp hq hpx hqx oz ox hpz hla hx0 hzx hs hs2
 unfold ptr
 go_enter Tryz.func143,Tryz.ntmps143
 go_upto_region 1 with fail
 go_cut [] from 7 (λwx=>zxy w z p (decide (v<0)) (a.natAbs*2^s) wx)
 case first=>
  go_region_with (go_at_call 168;refine(HOP.out _).mono ?_;rintro e w1 ⟨p',q',rfl,hn,hg,hf⟩;have hsz:=HSZ.out.grow ((Grow.none (zzz w _ .none) _).trans (Grow.of hg)) HPZ.out;have hc1:=hsz.cell1;have hf1:=hsz.free 1;have HN:=Lz hn;have HG:=Lz hg;have HFr:=Lz hf;clear hn hg hf hsz)
  all_goals
   go_wp2_with fail
   go_meet
   case rel=>exact zxy.of HSZ.out HPZ.out (zzz _ _ _) HN.out HG.out HFr.out
 case rest=>
  have HA:=Lz hcut
  have hx0:=HX0.out _ hcut
  obtain⟨p',q',h1,h2,h3,h4,h5⟩:=hcut
  have hc0:=h1.cell0
  have hf0:=h1.free 0
  clear h1 h2 h3 h4 h5 hz1 hx1
  obtain⟨na,hna⟩:∃ na,na=decide (a<0):=⟨_,rfl⟩
  rw[<-hna] at hx0
  have HNA:=Lz hna
  clear hna
  go_wp2_with fail
  go_ret
  exact⟨rfl,HA.out.finish HF.out HHI.out HHP.out HHR.out (lsh_abs a s) (HNA.out.trans (lsh_sign a s))⟩
theorem Int_Lsh_same {R:Nat->Prop} {w:World} {zs:List Nat} {vs:List Int} (h:Ints R w zs vs) (i z s:Nat) (a:Int) (hi:zs[i]? = some z) (hR:¬R z) (ha:vs[i]? = some a) (hla:(dg a.natAbs).length<=80000) (hs:1<=s) (hs2:s<=63) :
 Calls Tryz.prog 143 #[ptr z,ptr z,.int .u64 s] w (IntP R zs (vs.set i (a*2^s)) z w):=by
 obtain⟨ps,qs,h⟩:=h
 obtain⟨v,p,q,hv,hp,hq,oz⟩:=h.at hi
 obtain rfl:a=v:=by rw[ha] at hv;exact Option.some.inj hv
 have hpz:blk p≠some z:=h.zp i i z p hi hp
 have HOP:=Lz λn=>nat_lsh p p (dg a.natAbs).length a.natAbs s q q (w.drewN n) (oz.num.buf.kept (zzz _ _ .none) (λ_ _=>by simp)) (oz.num.kept (zzz _ _ .none) (λ_ _=>by simp)) hla hs hs2
 have hz1:=oz.str.cell1
 have hx0:∀ wx,zxy w z p (decide (a<0)) (a.natAbs*2^s) wx->wx.cell? ⟨z,0,.none⟩=some (.bool (decide (a<0))):=by
  rintro wx ⟨p',q',h1,h2,h3,h4,h5⟩
  exact h1.cell0
 have HX0:=Lz hx0
 have HF:=Lz h
 have HSZ:=Lz oz.str
 have HPZ:=Lz hpz
 have HHI:=Lz hi
 have HHP:=Lz hp
 have HHR:=Lz hR
 clear h hi hR ha hv hp hq oz hpz hla hx0 hs hs2
 unfold ptr
 go_enter Tryz.func143,Tryz.ntmps143
 go_upto_region 1 with fail
 go_cut [] from 7 (λwx=>zxy w z p (decide (a<0)) (a.natAbs*2^s) wx)
 case first=>
  go_region_with (go_at_call 168;refine(HOP.out _).mono ?_;rintro e w1 ⟨p',q',rfl,hn,hg,hf⟩;have hsz:=HSZ.out.grow ((Grow.none (zzz w _ .none) _).trans (Grow.of hg)) HPZ.out;have hc1:=hsz.cell1;have hf1:=hsz.free 1;have HN:=Lz hn;have HG:=Lz hg;have HFr:=Lz hf;clear hn hg hf hsz)
  all_goals
   go_wp2_with fail
   go_meet
   case rel=>exact zxy.of HSZ.out HPZ.out (zzz _ _ _) HN.out HG.out HFr.out
 case rest=>
  have HA:=Lz hcut
  have hx0:=HX0.out _ hcut
  obtain⟨p',q',h1,h2,h3,h4,h5⟩:=hcut
  have hf0:=h1.free 0
  clear h1 h2 h3 h4 h5 hz1
  obtain⟨na,hna⟩:∃ na,na=decide (a<0):=⟨_,rfl⟩
  rw[<-hna] at hx0
  have HNA:=Lz hna
  clear hna
  go_wp2_with fail
  go_ret
  exact⟨rfl,HA.out.finish HF.out HHI.out HHP.out HHR.out (lsh_abs a s) (HNA.out.trans (lsh_sign a s))⟩
section
variable {R : Nat → Prop} {w0 w : World} {L : List (Nat × Int)}
theorem lshO (h:Own R w0 w L) (i j s:Nat) {z x:Nat} {v a:Int} (hi:L[i]? = some (z,v)) (hj:L[j]? = some (x,a)) (hR:¬R z) (sa:Sz 640000 a) (hs:1<=s) (hs2:s<=63) :
 Calls Tryz.prog 143 #[ptr z,ptr x,.int .u64 s] w (OpP R w0 z (L.set i (z,a*2^s))):=by
 have hl:(dg a.natAbs).length<=80000:=Nat.le_trans (Sz.words (k:=10000) sa) (by decide)
 by_cases e:z=x
 . subst e
   have hij:i=j:=by
    refine Classical.byContradiction λhn=>h.inj hi hj hn rfl
   subst hij
   exact(Int_Lsh_same h.ints i z s a (at1 hi) hR (at2 hj) hl hs hs2).mono λ_ _ hp=>OpP.of h hi hp
 . exact(Int_Lsh_other h.ints i j z x s a (at1 hi) (at1 hj) e hR (at2 hj) hl hs hs2).mono λ_ _ hp=>OpP.of h hi hp
theorem pick_left {α : Type} (A B:List α):∀ (is:List Nat),(∀ i∈is,i<A.length)->is.filterMap ((A++B)[·]?)=is.filterMap (A[·]?)
 | [],_=>rfl
 | i :: is,h=>by
  rw[List.filterMap_cons,List.filterMap_cons,List.getElem?_append_left (h i List.mem_cons_self),pick_left A B is (λj hj=>h j (List.mem_cons_of_mem _ hj))]
theorem pick_append {α : Type} (A B:List α) (is:List Nat):(∀ i∈is,i<A.length)->pick (A++B) (is++(List.range' A.length B.length))=pick A is++B:=by
 intro h
 unfold pick
 rw[List.filterMap_append]
 congr 1
 . exact pick_left A B is h
 . apply List.ext_getElem?
   intro k
   have key:(List.range' A.length B.length).filterMap ((A++B)[·]?)=B:=by
    have:∀ (C D:List α),(List.range' C.length D.length).filterMap ((C++D)[·]?)=D:=by
     intro C D
     induction D generalizing C with
     | nil=>simp
     | cons d D ih=>
      rw[List.length_cons,List.range'_succ,List.filterMap_cons]
      rw[List.getElem?_append_right (Nat.le_refl _),Nat.sub_self]
      simp only[List.getElem?_cons_zero]
      congr 1
      have:=ih (C ++ [d])
      rw[List.length_append,List.length_singleton,List.append_assoc] at this
      exact this
    exact this A B
   rw[key]
theorem Own.choose {A:List (Nat×Int)} (h:Own R w0 w (A++L)) (is:List Nat) (hnd:is.Nodup) (hlt:∀ i∈is,i<A.length):Own R w0 w (Big.pick A is++L):=by
 have:=h.pick (is++List.range' A.length L.length) ?_ ?_
 . rwa [pick_append A L is hlt] at this
 . refine List.nodup_append.2 ⟨hnd,List.nodup_range',?_⟩
   intro a ha b hb e
   have:=hlt a ha
   have:=(List.mem_range'_1.1 hb).1
   omega
 . intro i hi
   rw[List.length_append]
   rcases List.mem_append.1 hi with hi|hi
   . have:=hlt i hi;omega
   . have:=(List.mem_range'_1.1 hi).2;omega
end
end Go.Proofs.YtohhkjamddojmaaGreatDoor.Big
