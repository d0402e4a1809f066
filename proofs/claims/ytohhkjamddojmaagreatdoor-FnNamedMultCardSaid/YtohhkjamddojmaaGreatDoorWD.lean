/- Sums and differences of rows of words; a row plus a row times a word. Natural numbers as slices of words: 'make', 'norm', 'setWord', 'setUint64'. -/
import Derived.Test.YtohhkjamddojmaaGreatDoorWA
import Derived.Deep.QuietTactic
import Derived.BigQuiet
set_option maxHeartbeats 16000000
namespace Go.Proofs.YtohhkjamddojmaaGreatDoor.Big
open Go.RowKit
structure AddInv (bz oz:Nat) (zs X Y:List Nat) (k:Nat) (ks:List Nat) (c:Nat) (w wr:World):Prop where
 row:NatB wr bz (spl zs oz ks)
 len:ks.length=k
 words:Words ks
 eq:val ks+B64^k*c=val (X.take k)+val (Y.take k)
 carry:c<=1
 grown:w.grownBy wr (some bz)
theorem add_step {ks X Y:List Nat} {k c c' s x y:Nat} (hk:ks.length=k) (h1:val ks+B64^k*c=val X+val Y) (hX:X.length=k) (hY:Y.length=k) (h2:s+c'*B64=x+y+c) :
 val (ks ++ [s])+B64^(k+1)*c'=val (X ++ [x])+val (Y ++ [y]):=by
 rw[zyk,zyk,zyk,hk,hX,hY,Nat.pow_succ]
 have e:B64^k*(s+c'*B64)=B64^k*(x+y+c):=by rw[h2]
 rw[Nat.mul_add,Nat.mul_add,Nat.mul_add] at e
 have e2:B64^k*(c'*B64)=B64^k*B64*c':=by rw[Nat.mul_comm c',Nat.mul_assoc]
 omega
def AddVP (bz oz n:Nat) (zs X Y:List Nat) (w:World) (e:Ending) (w':World):Prop:=
 ∃ ks c,e=.returned (wd c)/\NatB w' bz (spl zs oz ks)/\ks.length=n/\Words ks/\val ks+B64^n*c=val X+val Y/\c<=1/\w.grownBy w' (some bz)
theorem addVV_g (bz oz n cz bx ox cx bx2 oy cy:Nat) (zs xs ys:List Nat) (w:World) (hz:NatB w bz zs) (hx:NatB w bx xs) (hy:NatB w bx2 ys) (hzn:oz+n<=zs.length) (hxn:ox+n<=xs.length) (hyn:oy+n<=ys.length)
 (hwx:Words xs) (hwy:Words ys) (hs:bx≠bz\/oz<=ox) (hs2:bx2≠bz\/oz<=oy) (hn:n<=1000000) :
 Calls Tryz.prog 219 #[.slice (some ⟨bz,oz,none⟩) n cz,.slice (some ⟨bx,ox,none⟩) n cx,.slice (some ⟨bx2,oy,none⟩) n cy] w (AddVP bz oz n zs ((xs.drop ox).take n) ((ys.drop oy).take n) w):=by
 have HZ:=Lz hz
 have HX:=Lz hx
 have HY:=Lz hy
 have HWX:=Lz hwx
 have HWY:=Lz hwy
 have HS:=Lz hs
 have HS2:=Lz hs2
 clear hz hx hy hwx hwy hs hs2
 go_enter Tryz.func219,Tryz.ntmps219
 go_wp2
 go_loopw [6,25] (λcv i wr=>∃ k:Nat,k<=n/\i=.int .i64 k/\∃ ks c,cv=wd c/\AddInv bz oz zs (xs.drop ox) (ys.drop oy) k ks c w wr)
  (λ_ i _=>n-(intOf i).toNat)
 case atStart=>exact⟨0,Nat.zero_le _,rfl,[],0,rfl,by rw[spl_nil];exact HZ.out,rfl,Words.nil,by simp[val],by omega,zyz _ _⟩
 case round=>
  obtain⟨k,hk,rfl,ks,c,rfl,S⟩:=hrel
  by_cases hlt:k<n
  . have hxc:=read_cell HZ.out HX.out S.grown S.row S.len (by omega) (by omega) HS.out
    have hyc:=read_cell HZ.out HY.out S.grown S.row S.len (by omega) (by omega) HS2.out
    have hzc:=S.row.cell (oz+k) (by rw[zzk (by have:=S.len;omega)];omega)
    have hzf:=S.row.free (oz+k)
    have HXW:=Lz (HWX.out.getD (ox+k))
    have HYW:=Lz (HWY.out.getD (oy+k))
    generalize hxv:xs.getD (ox+k) 0=x at *
    generalize hyv:ys.getD (oy+k) 0=y at *
    generalize (spl zs oz ks).getD (oz+k) 0=zold at *
    have HXV:=Lz hxv
    have HYV:=Lz hyv
    have HF:=Lz (add_facts HXW.out HYW.out S.carry)
    clear hxv hyv
    go_wp2_with fail
    go_quiet ((go_at_call 220;exact Calls.quiet_of_same (bAddF x y c HXW.out HYW.out S.carry _)))
    go_wp2_with fail
    go_roundw
    case rel=>
     refine⟨k+1,by omega,by go_num,ks ++ [addS x y c],addC x y c,rfl,(write_row S.row S.len (by omega)),by simp[S.len],S.words.append (Words.one HF.out.2.1),?_,HF.out.2.2,zzx S.grown (zzx (zzw _ _ _ _) (zzz _ _ _))⟩
     rw[drop_take_snoc (by omega),drop_take_snoc (by omega),HXV.out,HYV.out]
     exact add_step S.len S.eq (by simp;omega) (by simp;omega) HF.out.1
    case measure=>simp[intOf];omega
  . go_wp2_with fail
    go_ret
    obtain rfl:k=n:=by omega
    exact⟨ks,c,rfl,S.row,S.len,S.words,S.eq,S.carry,S.grown⟩
structure SubInv (bz oz:Nat) (zs X Y:List Nat) (k:Nat) (ks:List Nat) (c:Nat) (w wr:World):Prop where
 row:NatB wr bz (spl zs oz ks)
 len:ks.length=k
 words:Words ks
 eq:val ks+val (Y.take k)=val (X.take k)+B64^k*c
 carry:c<=1
 grown:w.grownBy wr (some bz)
theorem sub_step {ks X Y:List Nat} {k c c' s x y:Nat} (hk:ks.length=k) (h1:val ks+val Y=val X+B64^k*c) (hX:X.length=k) (hY:Y.length=k) (h2:s+y+c=x+c'*B64) :
 val (ks ++ [s])+val (Y ++ [y])=val (X ++ [x])+B64^(k+1)*c':=by
 rw[zyk,zyk,zyk,hk,hX,hY,Nat.pow_succ]
 have e:B64^k*(s+y+c)=B64^k*(x+c'*B64):=by rw[h2]
 rw[Nat.mul_add,Nat.mul_add,Nat.mul_add] at e
 have e2:B64^k*(c'*B64)=B64^k*B64*c':=by rw[Nat.mul_comm c',Nat.mul_assoc]
 omega
def SubVP (bz oz n:Nat) (zs X Y:List Nat) (w:World) (e:Ending) (w':World):Prop:=
 ∃ ks c,e=.returned (wd c)/\NatB w' bz (spl zs oz ks)/\ks.length=n/\Words ks/\val ks+val Y=val X+B64^n*c/\c<=1/\w.grownBy w' (some bz)
theorem subVV_g (bz oz n cz bx ox cx bx2 oy cy:Nat) (zs xs ys:List Nat) (w:World) (hz:NatB w bz zs) (hx:NatB w bx xs) (hy:NatB w bx2 ys) (hzn:oz+n<=zs.length) (hxn:ox+n<=xs.length) (hyn:oy+n<=ys.length)
 (hwx:Words xs) (hwy:Words ys) (hs:bx≠bz\/oz<=ox) (hs2:bx2≠bz\/oz<=oy) (hn:n<=1000000) :
 Calls Tryz.prog 221 #[.slice (some ⟨bz,oz,none⟩) n cz,.slice (some ⟨bx,ox,none⟩) n cx,.slice (some ⟨bx2,oy,none⟩) n cy] w (SubVP bz oz n zs ((xs.drop ox).take n) ((ys.drop oy).take n) w):=by
 have HZ:=Lz hz
 have HX:=Lz hx
 have HY:=Lz hy
 have HWX:=Lz hwx
 have HWY:=Lz hwy
 have HS:=Lz hs
 have HS2:=Lz hs2
 clear hz hx hy hwx hwy hs hs2
 go_enter Tryz.func221,Tryz.ntmps221
 go_wp2
 go_loopw [6,25] (λcv i wr=>∃ k:Nat,k<=n/\i=.int .i64 k/\∃ ks c,cv=wd c/\SubInv bz oz zs (xs.drop ox) (ys.drop oy) k ks c w wr)
  (λ_ i _=>n-(intOf i).toNat)
 case atStart=>exact⟨0,Nat.zero_le _,rfl,[],0,rfl,by rw[spl_nil];exact HZ.out,rfl,Words.nil,by simp[val],by omega,zyz _ _⟩
 case round=>
  obtain⟨k,hk,rfl,ks,c,rfl,S⟩:=hrel
  by_cases hlt:k<n
  . have hxc:=read_cell HZ.out HX.out S.grown S.row S.len (by omega) (by omega) HS.out
    have hyc:=read_cell HZ.out HY.out S.grown S.row S.len (by omega) (by omega) HS2.out
    have hzc:=S.row.cell (oz+k) (by rw[zzk (by have:=S.len;omega)];omega)
    have hzf:=S.row.free (oz+k)
    have HXW:=Lz (HWX.out.getD (ox+k))
    have HYW:=Lz (HWY.out.getD (oy+k))
    generalize hxv:xs.getD (ox+k) 0=x at *
    generalize hyv:ys.getD (oy+k) 0=y at *
    generalize (spl zs oz ks).getD (oz+k) 0=zold at *
    have HXV:=Lz hxv
    have HYV:=Lz hyv
    have HF:=Lz (sub_facts HXW.out HYW.out S.carry)
    clear hxv hyv
    go_wp2_with fail
    go_quiet ((go_at_call 222;exact Calls.quiet_of_same (bSubF x y c HXW.out HYW.out S.carry _)))
    go_wp2_with fail
    go_roundw
    case rel=>
     refine⟨k+1,by omega,by go_num,ks ++ [subS x y c],subC x y c,rfl,(write_row S.row S.len (by omega)),by simp[S.len],S.words.append (Words.one HF.out.2.1),?_,HF.out.2.2,zzx S.grown (zzx (zzw _ _ _ _) (zzz _ _ _))⟩
     rw[drop_take_snoc (by omega),drop_take_snoc (by omega),HXV.out,HYV.out]
     exact sub_step S.len S.eq (by simp;omega) (by simp;omega) HF.out.1
    case measure=>simp[intOf];omega
  . go_wp2_with fail
    go_ret
    obtain rfl:k=n:=by omega
    exact⟨ks,c,rfl,S.row,S.len,S.words,S.eq,S.carry,S.grown⟩
structure AMInv (bz oz:Nat) (zs X Y:List Nat) (m a k:Nat) (ks:List Nat) (c:Nat) (w wr:World):Prop where
 row:NatB wr bz (spl zs oz ks)
 len:ks.length=k
 words:Words ks
 eq:val ks+B64^k*c=val (X.take k)+val (Y.take k)*m+a
 carry:c<B64
 grown:w.grownBy wr (some bz)
theorem am_key {x y m c z0 z1 lo cc:Nat} (hx:x<B64) (hy:y<B64) (hm:m<B64) (hc:c<B64) (h1:z0+z1*B64=y*m+x) (h2:lo+cc*B64=z0+c+0) :
 lo+(cc+z1)*B64=x+y*m+c/\cc+z1<B64:=by
 have e:lo+(cc+z1)*B64=x+y*m+c:=by rw[Nat.add_mul];omega
 refine⟨e,?_⟩
 have e2:y*m<=(B64-1)*(B64-1):=Nat.mul_le_mul (by omega) (by omega)
 refine Classical.byContradiction λhn=>?_
 have e3:B64*B64<=(cc+z1)*B64:=Nat.mul_le_mul_right _ (by omega)
 have e4:(B64-1)*(B64-1)+c+x<B64*B64:=by unfold B64 at *;omega
 omega
theorem am_step {ks X Y:List Nat} {k c c' s x y m a:Nat} (hk:ks.length=k) (h1:val ks+B64^k*c=val X+val Y*m+a) (hX:X.length=k) (hY:Y.length=k) (h2:s+c'*B64=x+y*m+c) :
 val (ks ++ [s])+B64^(k+1)*c'=val (X ++ [x])+val (Y ++ [y])*m+a:=by
 rw[zyk,zyk,zyk,hk,hX,hY,Nat.pow_succ,Nat.add_mul]
 have e:B64^k*(s+c'*B64)=B64^k*(x+y*m+c):=by rw[h2]
 rw[Nat.mul_add,Nat.mul_add,Nat.mul_add] at e
 have e2:B64^k*(c'*B64)=B64^k*B64*c':=by rw[Nat.mul_comm c',Nat.mul_assoc]
 have e3:B64^k*(y*m)=B64^k*y*m:=by rw[Nat.mul_assoc]
 omega
def AMVP (bz oz n:Nat) (zs X Y:List Nat) (m a:Nat) (w:World) (e:Ending) (w':World):Prop:=
 ∃ ks c,e=.returned (wd c)/\NatB w' bz (spl zs oz ks)/\ks.length=n/\Words ks/\val ks+B64^n*c=val X+val Y*m+a/\c<B64/\w.grownBy w' (some bz)
theorem addMulVVWW_g (bz oz n cz bx ox cx bx2 oy cy:Nat) (zs xs ys:List Nat) (m a:Nat) (w:World) (hz:NatB w bz zs) (hx:NatB w bx xs) (hy:NatB w bx2 ys) (hzn:oz+n<=zs.length) (hxn:ox+n<=xs.length) (hyn:oy+n<=ys.length)
 (hwx:Words xs) (hwy:Words ys) (hm:m<B64) (ha:a<B64) (hs:bx≠bz\/oz<=ox) (hs2:bx2≠bz\/oz<=oy) (hn:n<=1000000) :
 Calls Tryz.prog 253 #[.slice (some ⟨bz,oz,none⟩) n cz,.slice (some ⟨bx,ox,none⟩) n cx,.slice (some ⟨bx2,oy,none⟩) n cy,wd m,wd a] w (AMVP bz oz n zs ((xs.drop ox).take n) ((ys.drop oy).take n) m a w):=by
 have HZ:=Lz hz
 have HX:=Lz hx
 have HY:=Lz hy
 have HWX:=Lz hwx
 have HWY:=Lz hwy
 have HS:=Lz hs
 have HS2:=Lz hs2
 have HM:=Lz hm
 have HA:=Lz ha
 clear hz hx hy hwx hwy hs hs2 hm ha
 go_enter Tryz.func253,Tryz.ntmps253
 go_wp2
 go_loopw [10,32] (λcv i wr=>∃ k:Nat,k<=n/\i=.int .i64 k/\∃ ks c,cv=wd c/\AMInv bz oz zs (xs.drop ox) (ys.drop oy) m a k ks c w wr)
  (λ_ i _=>n-(intOf i).toNat)
 case atStart=>exact⟨0,Nat.zero_le _,rfl,[],a,rfl,by rw[spl_nil];exact HZ.out,rfl,Words.nil,by simp[val],HA.out,zyz _ _⟩
 case round=>
  obtain⟨k,hk,rfl,ks,c,rfl,S⟩:=hrel
  by_cases hlt:k<n
  . have hxc:=read_cell HZ.out HX.out S.grown S.row S.len (by omega) (by omega) HS.out
    have hyc:=read_cell HZ.out HY.out S.grown S.row S.len (by omega) (by omega) HS2.out
    have hzc:=S.row.cell (oz+k) (by rw[zzk (by have:=S.len;omega)];omega)
    have hzf:=S.row.free (oz+k)
    have HXW:=Lz (HWX.out.getD (ox+k))
    have HYW:=Lz (HWY.out.getD (oy+k))
    generalize hxv:xs.getD (ox+k) 0=x at *
    generalize hyv:ys.getD (oy+k) 0=y at *
    generalize (spl zs oz ks).getD (oz+k) 0=zold at *
    have HXV:=Lz hxv
    have HYV:=Lz hyv
    have HF:=Lz (mul_facts HYW.out HM.out HXW.out)
    have HF2:=Lz (add_facts HF.out.2.1 S.carry (by omega:0<=1))
    have HK:=Lz (am_key HXW.out HYW.out HM.out S.carry HF.out.1 HF2.out.1)
    have hov:((addC (mulL y m x) c 0:Nat):Int)+(mulH y m x:Nat)<18446744073709551616:=by have:=HK.out.2;unfold B64 at this;omega
    clear hxv hyv
    go_wp2_with fail
    go_quiet ((go_at_call 267;exact Calls.quiet_of_same (mulAddF y m x HYW.out HM.out HXW.out _)))
    go_wp2_with (go_at_call 220;refine(bAddF (mulL y m x) c 0 HF.out.2.1 S.carry (by omega) _).mono ?_;rintro e w' ⟨rfl,rfl⟩)
    go_roundw
    case rel=>
     refine⟨k+1,by omega,by go_num,ks ++ [addS (mulL y m x) c 0],addC (mulL y m x) c 0+mulH y m x,by simp[wd],(write_row S.row S.len (by omega)),by simp[S.len],S.words.append (Words.one HF2.out.2.1),?_,HK.out.2,zzx S.grown (zzx (zzw _ _ _ _) (zzz _ _ _))⟩
     rw[drop_take_snoc (by omega),drop_take_snoc (by omega),HXV.out,HYV.out]
     exact am_step S.len S.eq (by simp;omega) (by simp;omega) HK.out.1
    case measure=>simp[intOf];omega
  . go_wp2_with fail
    go_ret
    obtain rfl:k=n:=by omega
    exact⟨ks,c,rfl,S.row,S.len,S.words,S.eq,S.carry,S.grown⟩
end Go.Proofs.YtohhkjamddojmaaGreatDoor.Big
namespace Go.Proofs.YtohhkjamddojmaaGreatDoor.Big
open Go.RowKit
def Buf (w:World) (p:Option Addr) (cs:List Nat):Prop:=
 ((p=.none/\cs = [])\/∃ b,p=some ⟨b,0,.none⟩/\NatB w b cs)/\Words cs/\cs.length<=9223372036854775807
theorem Buf.nil (w:World):Buf w .none []:=⟨.inl ⟨rfl,rfl⟩,Words.nil,by simp⟩
theorem Buf.at {w:World} {p:Option Addr} {cs:List Nat} (h:Buf w p cs) (h0:0<cs.length):∃ b,p=some ⟨b,0,.none⟩/\NatB w b cs:=by
 rcases h.1 with⟨_,rfl⟩|h
 . simp at h0
 . exact h
def blk (p:Option Addr):Option Nat:=p.map (·.block)
theorem Buf.kept {w w':World} {p:Option Addr} {cs:List Nat} {row:Option Nat} (h:Buf w p cs) (hg:w.grownBy w' row) (hne:∀ b,blk p=some b->row≠some b):Buf w' p cs:=by
 refine⟨?_,h.2⟩
 rcases h.1 with h1|⟨b,rfl,hb⟩
 . exact .inl h1
 . exact .inr ⟨b,rfl,hb.kept hg (λe=>hne b rfl e.symm)⟩
theorem Buf.lt {w:World} {p:Option Addr} {cs:List Nat} (h:Buf w p cs):∀ b,blk p=some b->b<w.heap.size:=by
 rcases h.1 with⟨rfl,_⟩|⟨b,rfl,hb⟩
 . intro b hb;cases hb
 . intro c hc;cases hc;exact hb.lt
theorem made_words (n:Nat):madeCells #[Value.int .u64 0] n=wds (List.replicate n 0):=by
 unfold madeCells wds
 apply Array.ext
 . simp
 . intro i h1 h2
   simp[Nat.mod_one]
theorem info199:(Tryz.prog.info? 199).map (λi=>(i.zero,i.size,i.bytes))=some (some (.int .u64 0),1,8):=by kernel_rfl
theorem mk (l c:Int) (h0:0<=l) (h:l<=c) (hc:c<=200000) (w:World):(Instr.makeSlice 170 (.int .i64 l) (.int .i64 c)).run Tryz.prog w =
 .ok (.slice (some ⟨w.heap.size,0,.none⟩) l.toNat c.toNat) (w.alloc (.cells (wds (List.replicate c.toNat 0)) 199)):=by
 obtain⟨i0,hi,hz0,hz1,hz2⟩:=info_parts info199
 have:=run_make (P:=Tryz.prog) w 170 199 i0 (.int .u64 0) Tryz.underlying170 hi hz0 .i64 .i64 l c h0 h (by rw[hz2];omega) (by omega)
 rw[this,hz1,Nat.mul_one,<-made_words]
 rfl
theorem words_zero (n:Nat):Words (List.replicate n 0):=λx hx=>by rw[(List.mem_replicate.1 hx).2];exact zxw
def MakeP (p:Option Addr) (cs:List Nat) (n:Nat) (w:World) (e:Ending) (w':World):Prop:=
 ∃ p' cs',e=.returned (.slice p' n cs'.length)/\Buf w' p' cs'/\n<=cs'.length/\w.grownBy w' .none/\((p'=p/\cs'=cs/\w'=w/\n<=cs.length)\/(p'=some ⟨w.heap.size,0,.none⟩/\cs.length<n))
theorem nat_make (p:Option Addr) (l n:Nat) (cs:List Nat) (w:World) (h:Buf w p cs) (hn:n<=90000) :
 Calls Tryz.prog 167 #[.slice p l cs.length,.int .i64 n] w (MakeP p cs n w):=by
 have hlen:=h.2.2
 have H:=Lz h
 clear h
 by_cases hle:n<=cs.length
 . have K:MakeP p cs n w (.returned (.slice p n cs.length)) w:=⟨p,cs,rfl,H.out,hle,zyz _ _,.inl ⟨rfl,rfl,rfl,hle⟩⟩
   have HK:=Lz K
   clear K
   go_enter Tryz.func167,Tryz.ntmps167
   go_wp2
   go_ret
   exact HK.out
 . by_cases h1:n=1
   . subst h1
     have hm:=mk 1 1 (by omega) (by omega) (by omega)
     have K:MakeP p cs 1 w (.returned (.slice (some ⟨w.heap.size,0,.none⟩) 1 1)) (w.alloc (.cells (wds [0]) 199)):=
      ⟨some ⟨w.heap.size,0,.none⟩,[0],rfl,⟨.inr ⟨_,rfl,heap_alloc_new _ _⟩,words_zero 1,by simp⟩,by simp,zzy _ _ _,.inr ⟨rfl,by omega⟩⟩
     have HK:=Lz K
     clear K
     have hm2:∀ w:World,(Instr.makeSlice 170 (.int .i64 1) (.int .i64 1)).run Tryz.prog w=.ok (.slice (some ⟨w.heap.size,0,.none⟩) 1 1) (w.alloc (.cells (wds [0]) 199)):=hm
     clear hm
     go_enter Tryz.func167,Tryz.ntmps167
     go_wp2
     go_ret
     exact HK.out
   . have hm:=mk n (n+4) (by omega) (by omega) (by omega)
     have e1:((n:Int)).toNat=n:=by omega
     have e2:((n:Int)+4).toNat=n+4:=by omega
     rw[e1,e2] at hm
     have K:MakeP p cs n w (.returned (.slice (some ⟨w.heap.size,0,.none⟩) n (n+4))) (w.alloc (.cells (wds (List.replicate (n+4) 0)) 199)):=
      ⟨some ⟨w.heap.size,0,.none⟩,List.replicate (n+4) 0,by simp,⟨.inr ⟨_,rfl,heap_alloc_new _ _⟩,words_zero _,by simp;omega⟩,by simp,zzy _ _ _,.inr ⟨rfl,by omega⟩⟩
     have HK:=Lz K
     have h1b:((n:Int)==1)=false:=by rw[beq_eq_false_iff_ne];omega
     clear K e1 e2
     go_enter Tryz.func167,Tryz.ntmps167
     go_wp2
     go_ret
     exact HK.out
/-! ### 'norm': without zeros at the end -/
def norm:List Nat->List Nat
 | []=>[]
 | x :: xs=>match norm xs with
  | []=>if x=0 then[] else[x]
  | y :: ys=>x :: y :: ys
theorem norm_snoc0:∀ xs,norm (xs ++ [0])=norm xs
 | []=>rfl
 | x :: xs=>by
  show(match norm (xs ++ [0]) with | []=>if x=0 then[] else[x]|y :: ys=>x :: y :: ys)=_
  rw[norm_snoc0 xs];rfl
theorem norm_snoc {x:Nat} (h:x≠0):∀ xs,norm (xs ++ [x])=xs ++ [x]
 | []=>by simp[norm,h]
 | y :: xs=>by
  show(match norm (xs ++ [x]) with | []=>if y=0 then[] else[y]|z :: ys=>y :: z :: ys)=_
  rw[norm_snoc h xs]
  cases xs <;> rfl
theorem norm_prefix:∀ xs,∃ k,norm xs=xs.take k/\k<=xs.length
 | []=>⟨0,rfl,Nat.le_refl _⟩
 | x :: xs=>by
  obtain⟨k,hk,hl⟩:=norm_prefix xs
  show ∃ k,(match norm xs with | []=>if x=0 then[] else[x]|y :: ys=>x :: y :: ys)=_/\_
  cases hn:norm xs with
  | nil=>
   by_cases hx:x=0
   . exact⟨0,by simp[hx],by simp⟩
   . exact⟨1,by simp[hx],by simp⟩
  | cons y ys=>exact⟨k+1,by rw[List.take_succ_cons,<-hk,hn],by simp;omega⟩
theorem norm_length (xs:List Nat):(norm xs).length<=xs.length:=by
 obtain⟨k,hk,hl⟩:=norm_prefix xs
 rw[hk];simp;omega
theorem norm_take (xs:List Nat):xs.take (norm xs).length=norm xs:=by
 obtain⟨k,hk,hl⟩:=norm_prefix xs
 rw[hk];simp[Nat.min_eq_left hl]
theorem Words.norm {xs:List Nat} (h:Words xs):Words (norm xs):=by
 obtain⟨k,hk,_⟩:=norm_prefix xs
 rw[hk];exact h.take k
def NormP (p:Option Addr) (cs:List Nat) (l:Nat) (w:World) (e:Ending) (w':World):Prop:=
 e=.returned (.slice p (norm (cs.take l)).length cs.length)/\w=w'
theorem norm_take_succ {cs:List Nat} {k:Nat} (hk:k<cs.length) (h0:cs.getD k 0=0):norm (cs.take (k+1))=norm (cs.take k):=by
 rw[zwy _ _ hk,h0,norm_snoc0]
theorem norm_take_end {cs:List Nat} {k:Nat} (hk:k<cs.length) (h0:cs.getD k 0≠0):(norm (cs.take (k+1))).length=k+1:=by
 rw[zwy _ _ hk,norm_snoc h0];simp;omega
theorem nat_norm (p:Option Addr) (l:Nat) (cs:List Nat) (w:World) (h:Buf w p cs) (hl:l<=cs.length) :
 Calls Tryz.prog 171 #[.slice p l cs.length] w (NormP p cs l w):=by
 have hlen:=h.2.2
 have H:=Lz h
 clear h
 rcases Nat.eq_zero_or_pos cs.length with h0|h0
 . have hp:p=.none\/∃ b,p=some ⟨b,0,.none⟩:=by
    rcases H.out.1 with⟨rfl,_⟩|⟨b,rfl,_⟩
    . exact .inl rfl
    . exact .inr ⟨b,rfl⟩
   obtain rfl:l=0:=by omega
   obtain rfl:cs = []:=List.eq_nil_of_length_eq_zero h0
   clear h0 hl hlen
   rcases hp with rfl|⟨b,rfl⟩
   all_goals
    go_enter Tryz.func171,Tryz.ntmps171
    go_wp2
    go_loop [3] (λi=>i=.int .i64 0) (λi=>0)
    case atStart=>rfl
    case round=>
     subst hrel
     go_wp2
     go_ret
     exact⟨by simp[norm],rfl⟩
 . obtain⟨b,rfl,hb⟩:=H.out.at h0
   have HB:=Lz hb
   clear hb
   go_enter Tryz.func171,Tryz.ntmps171
   go_wp2
   go_loop [3] (λi=>∃ k:Nat,k<=l/\i=.int .i64 k/\RowKit.Hid (norm (cs.take l)=norm (cs.take k))) (λi=>(intOf i).toNat)
   case atStart=>exact⟨l,Nat.le_refl _,rfl,rfl⟩
   case round=>
    obtain⟨k,hk,rfl,HE⟩:=hrel
    by_cases hk0:k=0
    . subst hk0
      go_wp2
      go_ret
      exact⟨by rw[HE.out];simp[norm],rfl⟩
    . obtain⟨j,rfl⟩:∃ j,k=j+1:=⟨k-1,by omega⟩
      have hc:=HB.out.cell j (by omega)
      by_cases hz:cs.getD j 0=0
      . have HN:=Lz (norm_take_succ (by omega:j<cs.length) hz)
        rw[hz] at hc
        clear hz
        go_wp2
        go_round
        case rel=>exact⟨j,by omega,rfl,HE.out.trans HN.out⟩
        case measure=>simp[intOf]
      . have HN:=Lz (norm_take_end (by omega:j<cs.length) hz)
        have hz2:(((cs.getD j 0:Nat):Int)==0)=false:=by rw[beq_eq_false_iff_ne];omega
        generalize cs.getD j 0=v at *
        clear hz
        go_wp2
        go_ret
        exact⟨by rw[HE.out,HN.out];simp,rfl⟩
def Fresh (w:World) (p p':Option Addr):Prop:=p'=p\/∀ b,blk p'=some b->w.heap.size<=b
theorem Fresh.refl (w:World) (p:Option Addr):Fresh w p p:=.inl rfl
theorem Fresh.trans {w w1:World} {p p1 p2:Option Addr} (h:Fresh w p p1) (hs:w.heap.size<=w1.heap.size) (h2:Fresh w1 p1 p2):Fresh w p p2:=by
 rcases h2 with rfl|h2
 . exact h
 . exact .inr λb hb=>Nat.le_trans hs (h2 b hb)
theorem Fresh.older {w w1:World} {p p':Option Addr} (hs:w.heap.size<=w1.heap.size) (h2:Fresh w1 p p'):Fresh w p p':=(Fresh.refl w p).trans hs h2
theorem Fresh.from_none {w:World} {p':Option Addr} (h:Fresh w .none p') (p:Option Addr):Fresh w p p':=by
 rcases h with rfl|h
 . exact .inr λb hb=>by cases hb
 . exact .inr h
theorem grown_or {w w1 w2:World} {p p':Option Addr} (h:w.grownBy w1 (blk p)) (h2:w1.grownBy w2 (blk p')) (ho:Fresh w p p'):w.grownBy w2 (blk p):=by
 rcases ho with rfl|ho
 . exact zzx h h2
 . refine⟨h2.os.trans h.os,h2.tape.trans h.tape,h2.output.trans h.output,Nat.le_trans h.size h2.size,λk hk hr=>?_⟩
   rw[h2.block k (Nat.lt_of_lt_of_le hk h.size) (λe=>by have:=ho k e.symm;omega),h.block k hk hr]
theorem MakeP.or {w:World} {p p':Option Addr} {cs cs':List Nat} {n:Nat} {w':World} (h:(p'=p/\cs'=cs/\w'=w/\n<=cs.length)\/(p'=some ⟨w.heap.size,0,.none⟩/\cs.length<n)):Fresh w p p':=
 h.elim (λh=>.inl h.1) (λh=>.inr λb hb=>by rw[h.1] at hb;cases hb;exact Nat.le_refl _)
structure Num (w:World) (q:Option Addr) (X ds:List Nat):Prop where
 buf:Buf w q ds
 take:ds.take X.length=X
 le:X.length<=ds.length
theorem Num.kept {w w':World} {q:Option Addr} {X ds:List Nat} {row:Option Nat} (h:Num w q X ds) (hg:w.grownBy w' row) (hne:∀ b,blk q=some b->row≠some b):Num w' q X ds:=⟨h.buf.kept hg hne,h.take,h.le⟩
theorem Num.words {w:World} {q:Option Addr} {X ds:List Nat} (h:Num w q X ds):Words X:=by rw[<-h.take];exact h.buf.2.1.take _
theorem Num.getD {w:World} {q:Option Addr} {X ds:List Nat} (h:Num w q X ds) {i:Nat} (hi:i<X.length):ds.getD i 0=X.getD i 0:=by
 have:=congrArg (λl=>l.getD i 0) h.take
 simp only[List.getD,List.getElem?_take] at this
 rw[if_pos hi] at this
 exact this
theorem Num.cell {w:World} {q:Option Addr} {X ds:List Nat} (h:Num w q X ds) (h0:0<X.length):∃ b,q=some ⟨b,0,.none⟩/\NatB w b ds/\∀ i,i<X.length->w.cell? ⟨b,i,.none⟩=some (wd (X.getD i 0)):=by
 obtain⟨b,rfl,hb⟩:=h.buf.at (Nat.lt_of_lt_of_le h0 h.le)
 refine⟨b,rfl,hb,λi hi=>?_⟩
 rw[hb.cell i (Nat.lt_of_lt_of_le hi h.le),h.getD hi]
theorem Buf.shape {w:World} {p:Option Addr} {cs:List Nat} (h:Buf w p cs):p=.none\/∃ b,p=some ⟨b,0,.none⟩:=by
 rcases h.1 with⟨rfl,_⟩|⟨b,rfl,_⟩
 . exact .inl rfl
 . exact .inr ⟨b,rfl⟩
theorem Buf.same {w:World} {p:Option Addr} {cs ds:List Nat} (h:Buf w p cs) (h':Buf w p ds):cs=ds:=by
 rcases h.1 with⟨rfl,rfl⟩|⟨b,rfl,hb⟩
 . rcases h'.1 with⟨_,rfl⟩|⟨b,e,_⟩
   . rfl
   . cases e
 . rcases h'.1 with⟨e,_⟩|⟨b',e,hb'⟩
   . cases e
   . cases e;exact hb.inj hb'
/-! ### 'setWord', 'setUint64' -/
def NumP (p:Option Addr) (n:List Nat) (w:World) (e:Ending) (w':World):Prop:=
 ∃ p' cs',e=.returned (.slice p' n.length cs'.length)/\Num w' p' n cs'/\w.grownBy w' (blk p)/\Fresh w p p'
def word1 (x:Nat):List Nat:=if x=0 then[] else[x]
theorem Buf.set {w:World} {b i v:Nat} {cs:List Nat} (h:Buf w (some ⟨b,0,.none⟩) cs) (hv:v<B64) (hi:i<cs.length):Buf (w.setCell ⟨b,i,.none⟩ (wd v)) (some ⟨b,0,.none⟩) (cs.set i v):=by
 obtain⟨b',e,hb⟩:=h.at (by omega)
 cases e
 refine⟨.inr ⟨b,rfl,hb.set i v⟩,?_,by simpa using h.2.2⟩
 intro x hx
 rcases List.mem_or_eq_of_mem_set hx with hx|rfl
 . exact h.2.1 x hx
 . exact hv
theorem Buf.nat {w:World} {b:Nat} {cs:List Nat} (h:Buf w (some ⟨b,0,.none⟩) cs) (h0:0<cs.length):NatB w b cs:=by
 obtain⟨b',e,hb⟩:=h.at h0
 cases e
 exact hb
theorem nat_setWord (p:Option Addr) (l x:Nat) (cs:List Nat) (w:World) (h:Buf w p cs) (hx:x<B64) :
 Calls Tryz.prog 166 #[.slice p l cs.length,wd x] w (NumP p (word1 x) w):=by
 have hlen:=h.2.2
 by_cases h0:x=0
 . subst h0
   have K:NumP p (word1 0) w (.returned (.slice p 0 cs.length)) w:=⟨p,cs,rfl,⟨h,rfl,Nat.zero_le _⟩,zyz _ _,.inl rfl⟩
   have HK:=Lz K
   have hp:p=.none\/∃ b,p=some ⟨b,0,.none⟩:=by
    rcases h.1 with⟨rfl,_⟩|⟨b,rfl,_⟩
    . exact .inl rfl
    . exact .inr ⟨b,rfl⟩
   clear K h
   rcases hp with rfl|⟨b,rfl⟩
   all_goals
    go_enter Tryz.func166,Tryz.ntmps166
    go_wp2_with fail
    go_ret
    exact HK.out
 . have hx0:((x:Int)==0)=false:=by rw[beq_eq_false_iff_ne];omega
   have HX:=Lz hx
   have H0:=Lz h0
   have H:=Lz h
   clear hx h0 h
   go_enter Tryz.func166,Tryz.ntmps166
   go_wp2_with fail
   refine(nat_make p l 1 cs w H.out (by omega)).mono ?_
   rintro e w1 ⟨p',cs',rfl,hb,hn,hg,hor⟩
   obtain⟨b,rfl,hN⟩:=hb.at (by omega)
   have hc:=hN.cell 0 (by omega)
   have hf:=hN.free 0
   have HB:=Lz hb
   have HG:=Lz hg
   have HO:=Lz hor
   clear hb hg hor hN
   go_wp2_with fail
   go_ret
   refine⟨some ⟨b,0,.none⟩,cs'.set 0 x,by simp[word1,H0.out],⟨HB.out.set HX.out (by omega),?_,by simp[word1,H0.out];omega⟩,?_,?_⟩
   . cases cs' with
     | nil=>simp at hn
     | cons c cs'=>simp[word1,H0.out]
   . exact grown_or (zwz HG.out _) (p':=some ⟨b,0,.none⟩) (zzw _ _ _ _) (MakeP.or HO.out)
   . exact MakeP.or HO.out
theorem nat_setUint64 (p:Option Addr) (l x:Nat) (cs:List Nat) (w:World) (h:Buf w p cs) (hx:x<B64) :
 Calls Tryz.prog 141 #[.slice p l cs.length,wd x] w (NumP p (word1 x) w):=by
 have HX:=Lz hx
 have H:=Lz h
 clear hx h
 go_enter Tryz.func141,Tryz.ntmps141
 go_wp2_with fail
 refine(nat_setWord p l x cs w H.out HX.out).mono ?_
 rintro e w1 ⟨p',cs',rfl,h⟩
 have K:=Lz h
 clear h
 go_wp2_with fail
 go_ret
 exact⟨p',cs',rfl,K.out⟩
/-! ### 'copy' -/
theorem setRow_nat {w:World} {b:Nat} {cs ds:List Nat} (h:NatB w b cs):NatB (w.setRow b (wds ds)) b ds:=setRow_heap w b (wds cs) (wds ds) 199 (0,0) h
theorem grown_setRow (w:World) (b:Nat) (cs:Array Value):w.grownBy (w.setRow b cs) (some b):=
 ⟨rfl,rfl,rfl,by simp,λk _ hk=>setRow_other w b k cs (λe=>hk (by rw[e]))⟩
theorem copy_words (w:World) (bz oz lz cz bx ox lx cx n:Nat) (zs xs:List Nat) (hz:NatB w bz zs) (hx:∀ i,i<n->w.cell? ⟨bx,ox+i,.none⟩=some (wd (xs.getD i 0))) (hn:n=Nat.min lx lz) (hxl:xs.length=n) (hzn:oz+n<=zs.length)
 (T:TypeId) (hT:Tryz.prog.underlying T=some (.slice 199)) :
 ∃ w1,(∀ ty,(Builtin.copy_ #[T,T] ty #[.slice (some ⟨bz,oz,.none⟩) lz cz,.slice (some ⟨bx,ox,.none⟩) lx cx]).run Tryz.prog w=.ok (.int .i64 n) w1)/\NatB w1 bz (spl zs oz xs)/\w.grownBy w1 (some bz):=by
 refine⟨w.setRow bz (wds (spl zs oz xs)),λty=>?_,setRow_nat hz,grown_setRow _ _ _⟩
 have:=run_copy_row (P:=Tryz.prog) w T T ty 199 bz oz lz cz ⟨bx,ox,.none⟩ lx cx (wds zs) 199 (xs.map wd) hT (by kernel_rfl) hz (by simp[hxl,hn]) ?_ (by simp[wds,hxl];omega) ?_
 . rw[this]
   simp[spl,wds,hxl,goInt]
 . intro j v hj
   have hjl:j<xs.length:=by
    have:=(List.getElem?_eq_some_iff.1 hj).1
    simpa using this
   have e:(⟨bx,ox,.none⟩:Addr).add j=⟨bx,ox+j,.none⟩:=by unfold Addr.add;split <;> simp_all
   rw[e,hx j (by omega)]
   rw[List.getElem?_map,List.getElem?_eq_getElem hjl] at hj
   simp only[Option.map_some,Option.some.injEq] at hj
   rw[<-hj]
   simp[List.getD,List.getElem?_eq_getElem hjl]
 . intro v hv
   obtain⟨x,_,rfl⟩:=List.mem_map.1 hv
   rfl
end Go.Proofs.YtohhkjamddojmaaGreatDoor.Big
