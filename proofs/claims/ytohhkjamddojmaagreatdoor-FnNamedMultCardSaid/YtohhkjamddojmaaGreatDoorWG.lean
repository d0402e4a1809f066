/- Wrappers; a row plus one word; sums and differences of natural numbers. A row plus one word, a row less one word. A row less one word. Sums of natural numbers. Differences of natural numbers. 'cmp' of natural numbers. Products of natural numbers: by a word; the schoolbook's. -/
import Derived.Test.YtohhkjamddojmaaGreatDoorBigF
import Derived.Deep.RegionWith
import Derived.Deep.RegionLaw
import Derived.Deep.CutRange
set_option maxRecDepth 100000
set_option maxHeartbeats 16000000
namespace Go.Proofs.YtohhkjamddojmaaGreatDoor.Big
open Go.RowKit
/-! ### the number's words -/
def dg (n:Nat):List Nat:=if _h:n=0 then[] else n%B64 :: dg (n/B64)
termination_by n
decreasing_by exact Nat.div_lt_self (by omega) (by unfold B64;omega)
theorem zyv:dg 0 = []:=by rw[dg];simp
theorem dg_pos {n:Nat} (h:n≠0):dg n=n%B64 :: dg (n/B64):=by rw[dg];simp[h]
theorem val_dg (n:Nat):val (dg n)=n:=by
 induction n using Nat.strongRecOn with
 | ind n ih=>
  by_cases h:n=0
  . subst h;rw[zyv];rfl
  . rw[dg_pos h]
    show n%B64+B64*val (dg (n/B64))=n
    rw[ih _ (Nat.div_lt_self (by omega) (by unfold B64;omega))]
    exact Nat.mod_add_div n B64
theorem dg_words (n:Nat):Words (dg n):=by
 induction n using Nat.strongRecOn with
 | ind n ih=>
  by_cases h:n=0
  . subst h;rw[zyv];exact Words.nil
  . rw[dg_pos h]
    intro x hx
    rcases List.mem_cons.1 hx with rfl|hx
    . exact Nat.mod_lt _ zxw
    . exact ih _ (Nat.div_lt_self (by omega) (by unfold B64;omega)) x hx
theorem dg_eq_nil {n:Nat}:dg n = []↔n=0:=by
 constructor
 . intro h;rw[<-val_dg n,h];rfl
 . rintro rfl;exact zyv
theorem norm_dg:∀ xs,Words xs->norm xs=dg (val xs)
 | [],_=>by rw[val_nil,zyv];rfl
 | x :: xs,h=>by
  have ih:=norm_dg xs (λy hy=>h y (List.mem_cons_of_mem _ hy))
  have hx:x<B64:=h x (List.mem_cons_self ..)
  show(match norm xs with | []=>if x=0 then[] else[x]|y :: ys=>x :: y :: ys)=dg (x+B64*val xs)
  by_cases h0:val xs=0
  . rw[h0,zyv] at ih
    rw[ih,h0]
    by_cases hx0:x=0
    . subst hx0;simp[zyv]
    . have e:dg (x+B64*0) = [x]:=by
       rw[dg_pos (by omega),Nat.mul_zero,Nat.add_zero,Nat.mod_eq_of_lt hx,Nat.div_eq_of_lt hx,zyv]
      rw[e];simp[hx0]
  . have hp:0<B64*val xs:=Nat.mul_pos zxw (by omega)
    have e:dg (x+B64*val xs)=x :: dg (val xs):=by
     rw[dg_pos (by omega),Nat.add_mul_mod_self_left,Nat.mod_eq_of_lt hx,Nat.add_mul_div_left _ _ zxw,Nat.div_eq_of_lt hx,Nat.zero_add]
    rw[e,ih]
    cases hd:dg (val xs) with
    | nil=>exact absurd (dg_eq_nil.1 hd) h0
    | cons y ys=>rfl
theorem dg_length {n k:Nat}:(dg n).length<=k↔n<B64^k:=by
 constructor
 . intro h
   have:=val_lt _ (dg_words n)
   rw[val_dg] at this
   exact Nat.lt_of_lt_of_le this (Nat.pow_le_pow_right zxw h)
 . intro h
   induction k generalizing n with
   | zero => rw [Nat.pow_zero] at h; obtain rfl : n = 0 := by omega
             simp[zyv]
   | succ k ih=>
    by_cases h0:n=0
    . subst h0;simp[zyv]
    . rw[dg_pos h0,List.length_cons]
      have:=ih (n:=n/B64) (by rw[Nat.div_lt_iff_lt_mul zxw,<-Nat.pow_succ];exact h)
      omega
theorem dg_one {n:Nat} (h:n<B64):dg n=word1 n:=by
 unfold word1
 by_cases h0:n=0
 . subst h0;simp[zyv]
 . rw[dg_pos h0,Nat.mod_eq_of_lt h,Nat.div_eq_of_lt h,zyv];simp[h0]
theorem dg_last {n:Nat} (h:n≠0):B64^((dg n).length-1)<=n:=by
 have h1:¬(dg n).length<=(dg n).length-1:=by
  have:(dg n).length≠0:=λe=>h (dg_eq_nil.1 (List.eq_nil_of_length_eq_zero e))
  omega
 rw[dg_length] at h1
 omega
/-! ### wrappers -/
theorem addVV (bz oz n cz bx ox cx bx2 oy cy:Nat) (zs xs ys:List Nat) (w:World) (hz:NatB w bz zs) (hx:NatB w bx xs) (hy:NatB w bx2 ys) (hzn:oz+n<=zs.length) (hxn:ox+n<=xs.length) (hyn:oy+n<=ys.length)
 (hwx:Words xs) (hwy:Words ys) (hs:bx≠bz\/oz<=ox) (hs2:bx2≠bz\/oz<=oy) (hn:n<=1000000) :
 Calls Tryz.prog 180 #[.slice (some ⟨bz,oz,.none⟩) n cz,.slice (some ⟨bx,ox,.none⟩) n cx,.slice (some ⟨bx2,oy,.none⟩) n cy] w (AddVP bz oz n zs ((xs.drop ox).take n) ((ys.drop oy).take n) w):=by
 have H:=Lz (addVV_g bz oz n cz bx ox cx bx2 oy cy zs xs ys w hz hx hy hzn hxn hyn hwx hwy hs hs2 hn)
 clear hz hx hy hzn hxn hyn hwx hwy hs hs2 hn
 go_enter Tryz.func180,Tryz.ntmps180
 go_wp2_with fail
 refine H.out.mono ?_
 rintro e w1 ⟨ks,c,rfl,h⟩
 have K:=Lz h
 clear h
 go_wp2_with fail
 go_ret
 exact⟨ks,c,rfl,K.out⟩
theorem subVV (bz oz n cz bx ox cx bx2 oy cy:Nat) (zs xs ys:List Nat) (w:World) (hz:NatB w bz zs) (hx:NatB w bx xs) (hy:NatB w bx2 ys) (hzn:oz+n<=zs.length) (hxn:ox+n<=xs.length) (hyn:oy+n<=ys.length)
 (hwx:Words xs) (hwy:Words ys) (hs:bx≠bz\/oz<=ox) (hs2:bx2≠bz\/oz<=oy) (hn:n<=1000000) :
 Calls Tryz.prog 182 #[.slice (some ⟨bz,oz,.none⟩) n cz,.slice (some ⟨bx,ox,.none⟩) n cx,.slice (some ⟨bx2,oy,.none⟩) n cy] w (SubVP bz oz n zs ((xs.drop ox).take n) ((ys.drop oy).take n) w):=by
 have H:=Lz (subVV_g bz oz n cz bx ox cx bx2 oy cy zs xs ys w hz hx hy hzn hxn hyn hwx hwy hs hs2 hn)
 clear hz hx hy hzn hxn hyn hwx hwy hs hs2 hn
 go_enter Tryz.func182,Tryz.ntmps182
 go_wp2_with fail
 refine H.out.mono ?_
 rintro e w1 ⟨ks,c,rfl,h⟩
 have K:=Lz h
 clear h
 go_wp2_with fail
 go_ret
 exact⟨ks,c,rfl,K.out⟩
theorem mulAddVWW (bz oz n cz bx ox cx:Nat) (zs xs:List Nat) (y r:Nat) (w:World) (hz:NatB w bz zs) (hx:NatB w bx xs) (hzn:oz+n<=zs.length) (hxn:ox+n<=xs.length)
 (hwx:Words xs) (hy:y<B64) (hr:r<B64) (hs:bx≠bz\/oz<=ox) (hn:n<=1000000) :
 Calls Tryz.prog 228 #[.slice (some ⟨bz,oz,.none⟩) n cz,.slice (some ⟨bx,ox,.none⟩) n cx,wd y,wd r] w (MulVP bz oz n zs ((xs.drop ox).take n) y r w):=by
 have H:=Lz (mulAddVWW_g bz oz n cz bx ox cx zs xs y r w hz hx hzn hxn hwx hy hr hs hn)
 clear hz hx hy hzn hxn hwx hr hs hn
 go_enter Tryz.func228,Tryz.ntmps228
 go_wp2_with fail
 refine H.out.mono ?_
 rintro e w1 ⟨ks,c,rfl,h⟩
 have K:=Lz h
 clear h
 go_wp2_with fail
 go_ret
 exact⟨ks,c,rfl,K.out⟩
theorem addMulVVWW (bz oz n cz bx ox cx bx2 oy cy:Nat) (zs xs ys:List Nat) (m a:Nat) (w:World) (hz:NatB w bz zs) (hx:NatB w bx xs) (hy:NatB w bx2 ys) (hzn:oz+n<=zs.length) (hxn:ox+n<=xs.length) (hyn:oy+n<=ys.length)
 (hwx:Words xs) (hwy:Words ys) (hm:m<B64) (ha:a<B64) (hs:bx≠bz\/oz<=ox) (hs2:bx2≠bz\/oz<=oy) (hn:n<=1000000) :
 Calls Tryz.prog 226 #[.slice (some ⟨bz,oz,.none⟩) n cz,.slice (some ⟨bx,ox,.none⟩) n cx,.slice (some ⟨bx2,oy,.none⟩) n cy,wd m,wd a] w (AMVP bz oz n zs ((xs.drop ox).take n) ((ys.drop oy).take n) m a w):=by
 have H:=Lz (addMulVVWW_g bz oz n cz bx ox cx bx2 oy cy zs xs ys m a w hz hx hy hzn hxn hyn hwx hwy hm ha hs hs2 hn)
 clear hz hx hy hzn hxn hyn hwx hwy hm ha hs hs2 hn
 go_enter Tryz.func226,Tryz.ntmps226
 go_wp2_with fail
 refine H.out.mono ?_
 rintro e w1 ⟨ks,c,rfl,h⟩
 have K:=Lz h
 clear h
 go_wp2_with fail
 go_ret
 exact⟨ks,c,rfl,K.out⟩
end Go.Proofs.YtohhkjamddojmaaGreatDoor.Big
namespace Go.Proofs.YtohhkjamddojmaaGreatDoor.Big
open Go.RowKit
def AddWP (bz o n:Nat) (zs X:List Nat) (y:Nat) (w:World) (e:Ending) (w':World):Prop:=
 ∃ ks c,e=.returned (wd c)/\NatB w' bz (spl zs o ks)/\ks.length=n/\Words ks/\val ks+B64^n*c=val X+y/\c<=1/\w.grownBy w' (some bz)
theorem neq_ptr_same {P:Program} {t e:TypeId} {j:TypeInfo} (w:World) (a:Addr) (ht:P.underlying t=some (.pointer e)) (hj:P.info? e=some j) :
 (binOp .neq t (.pointer (some a)) (.pointer (some a))).run P w=.ok (.bool false) w:=by
 have h:∀ d:Nat,(Op.equalIn (d+1) t (.pointer (some a)) (.pointer (some a))).run P w=.ok true w:=λd=>by
  by_cases h0:j.size=0
  . simp[Op.equalIn,run_underlying ht,sizeOf,typeInfo,hj,h0]
  . simp[Op.equalIn,run_underlying ht,sizeOf,typeInfo,hj,run_sameAddr_same]
 simp only[binOp]
 simp[Op.equal,Op.maxDepth,h 9999]
theorem neq_ptr_other {P:Program} {t e:TypeId} {j:TypeInfo} {w:World} {a b:Addr} {ca cb:Array Value} {ta tb:TypeId} (ht:P.underlying t=some (.pointer e)) (hj:P.info? e=some j) (hs:j.size≠0)
 (hne:a≠b) (ha:w.heap[a.block]? = some (.cells ca ta (0,0))) (hb:w.heap[b.block]? = some (.cells cb tb (0,0))) :
 (binOp .neq t (.pointer (some a)) (.pointer (some b))).run P w=.ok (.bool true) w:=by
 have h:∀ d:Nat,(Op.equalIn (d+1) t (.pointer (some a)) (.pointer (some b))).run P w=.ok false w:=λd=>by
  simp[Op.equalIn,run_underlying ht,sizeOf,typeInfo,hj,run_sameAddr_other w hne ha hb,hs]
 simp only[binOp]
 simp[Op.equal,Op.maxDepth,h 9999]
theorem spl_same {zs ks:List Nat} {o k m:Nat} (hk:ks.length=k) (h:o+k+m<=zs.length):spl zs o (ks++(zs.drop (o+k)).take m)=spl zs o ks:=by
 subst hk
 unfold spl
 have e:((zs.drop (o+ks.length)).take m).length=m:=by simp;omega
 rw[List.length_append,e,<-List.append_assoc,List.append_assoc (zs.take o++ks)]
 congr 1
 have e4:zs.drop (o+(ks.length+m))=(zs.drop (o+ks.length)).drop m:=by rw[List.drop_drop,Nat.add_assoc]
 rw[e4]
 exact List.take_append_drop _ _
theorem spl_spl {zs ks ds:List Nat} {o k:Nat} (hk:ks.length=k) (h:o+k+ds.length<=zs.length):spl (spl zs o ks) (o+k) ds=spl zs o (ks++ds):=by
 subst hk
 unfold spl
 have e:(zs.take o++ks).length=o+ks.length:=by simp;omega
 have e2:(zs.take o++ks++zs.drop (o+ks.length)).take (o+ks.length)=zs.take o++ks:=by rw[<-e,List.take_left]
 have e3:(zs.take o++ks++zs.drop (o+ks.length)).drop (o+ks.length+ds.length)=zs.drop (o+(ks++ds).length):=by
  rw[<-List.drop_drop]
  have:(zs.take o++ks++zs.drop (o+ks.length)).drop (o+ks.length)=zs.drop (o+ks.length):=by rw[<-e,List.drop_left]
  rw[this,List.drop_drop,List.length_append,Nat.add_assoc]
 rw[e2,e3,List.append_assoc (zs.take o)]
theorem addw_end {ks X:List Nat} {k s y:Nat} (h:val (ks ++ [s])=val (X.take (k+1))+y) (hk:ks.length=k) (hX:k<X.length):val (ks ++ [s]++X.drop (k+1))+B64^X.length*0=val X+y:=by
 have e:val X=val (X.take (k+1))+B64^(k+1)*val (X.drop (k+1)):=by
  conv=>lhs;rw[<-List.take_append_drop (k+1) X]
  rw[val_append,List.length_take,Nat.min_eq_left (by omega)]
 rw[val_append,List.length_append,hk,List.length_singleton]
 omega
theorem addw_step {ks X:List Nat} {k s x c c' y:Nat} (h:val ks+B64^k*c=val (X.take k)+y) (hk:ks.length=k) (hX:k<X.length) (hx:X.getD k 0=x) (h2:s+c'*B64=x+c):val (ks ++ [s])+B64^(k+1)*c'=val (X.take (k+1))+y:=by
 rw[zwy _ _ hX,zyk,zyk,hk,hx,List.length_take,Nat.min_eq_left (by omega),Nat.pow_succ]
 have e:B64^k*(s+c'*B64)=B64^k*(x+c):=by rw[h2]
 rw[Nat.mul_add,Nat.mul_add] at e
 have e2:B64^k*(c'*B64)=B64^k*B64*c':=by rw[Nat.mul_comm c',Nat.mul_assoc]
 omega
theorem zww {xs:List Nat} {o n k:Nat} (h:k<n):((xs.drop o).take n).getD k 0=xs.getD (o+k) 0:=by
 simp only[List.getD,List.getElem?_take,List.getElem?_drop]
 rw[if_pos h]
structure AWInv (bz o:Nat) (zs X:List Nat) (y k:Nat) (ks:List Nat) (w wr:World):Prop where
 row:NatB wr bz (spl zs o ks)
 len:ks.length=k
 words:Words ks
 eq:val ks+B64^k*1=val (X.take k)+y
 grown:w.grownBy wr (some bz)
theorem AWInv.stop {bz o n:Nat} {zs:List Nat} {y k:Nat} {ks:List Nat} {w wr':World} {s:Nat} (hz:Words zs) (hzn:o+n<=zs.length) (hk:k<n)
 (hrow:NatB wr' bz (spl zs o (ks ++ [s]))) (hlen:ks.length=k) (hw:Words ks) (hs:s<B64) (hg:w.grownBy wr' (some bz)) (heq:val (ks ++ [s])=val (((zs.drop o).take n).take (k+1))+y) :
 AddWP bz o n zs ((zs.drop o).take n) y w (.returned (wd 0)) wr':=by
 have hl:((zs.drop o).take n).length=n:=by simp;omega
 have hl2:(ks ++ [s]).length=k+1:=by simp[hlen]
 have e:((zs.drop o).take n).drop (k+1)=(zs.drop (o+(k+1))).take (n-(k+1)):=by rw[List.drop_take,List.drop_drop]
 have he:=addw_end heq hlen (by omega)
 rw[hl] at he
 refine⟨ks ++ [s]++((zs.drop o).take n).drop (k+1),0,rfl,?_,by simp[hlen];omega,(hw.append (Words.one hs)).append (((hz.drop _).take _).drop _),he,by omega,hg⟩
 rw[e,spl_same hl2 (by omega)]
 exact hrow
theorem addVW_same (bz o n cz cx:Nat) (zs:List Nat) (y:Nat) (w:World) (hz:NatB w bz zs) (hzn:o+n<=zs.length)
 (hwx:Words zs) (hy:y<B64) (h1:1<=n) (hn:n<=1000000) :
 Calls Tryz.prog 181 #[.slice (some ⟨bz,o,.none⟩) n cz,.slice (some ⟨bz,o,.none⟩) n cx,wd y] w (AddWP bz o n zs ((zs.drop o).take n) y w):=by
 obtain⟨j,hj,_⟩:=info_parts info199
 have he:∀ w:World,(binOp .neq 233 (.pointer (some ⟨bz,o,.none⟩)) (.pointer (some ⟨bz,o,.none⟩))).run Tryz.prog w=.ok (.bool false) w:=λw=>neq_ptr_same w _ under233 hj
 have hc:=hz.cell o (by omega)
 have hf:=hz.free o
 have HZ:=Lz hz
 have HWX:=Lz hwx
 have HY:=Lz hy
 clear hz hwx hy
 generalize hx0:zs.getD o 0=x0 at *
 have HX0:=Lz hx0
 have HXW:=Lz (show x0<B64 by rw[<-hx0];exact HWX.out.getD _)
 have HF:=Lz (add_facts HXW.out HY.out (by omega:0<=1))
 have HRow:=Lz (λv=>by have:=HZ.out.set o v;rwa [show zs.set o v=spl zs o ([] ++ [v]) by rw[<-spl_set (by simp;omega)];rw[spl_nil];rfl] at this:∀ v,NatB (w.setCell ⟨bz,o,.none⟩ (wd v)) bz (spl zs o ([] ++ [v])))
 have HEq:val ([]:List Nat)+B64^0*y=val (((zs.drop o).take n).take 0)+y:=by simp[val]
 have HStep:=Lz (addw_step (s:=addS x0 y 0) (c':=addC x0 y 0) HEq rfl (by simp;omega) (by rw[zww (by omega)];exact hx0) HF.out.1)
 clear hx0 HEq
 have hsl:∀ v,(spl zs o ([] ++ [v])).length=zs.length:=λv=>zzk (by simp;omega)
 have HSL:=Lz hsl
 clear hsl
 go_enter Tryz.func181,Tryz.ntmps181
 go_wp2_with fail
 refine(bAddF x0 y 0 HXW.out HY.out (by omega) _).mono ?_
 rintro e w1 ⟨rfl,hw⟩
 obtain rfl:w=w1:=hw.symm
 by_cases hcc:addC x0 y 0=0
 . have HS0:=Lz (show val ([] ++ [addS x0 y 0])=val (((zs.drop o).take n).take (0+1))+y by have:=HStep.out;rw[hcc] at this;simpa using this)
   rw[hcc] at *
   go_wp2_with fail
   go_quiet (fail)
   go_wp2_with fail
   go_ret
   exact AWInv.stop (k:=0) HWX.out (by omega) (by omega) (NatB.drewN (HRow.out _) _) rfl Words.nil HF.out.2.1 (zzx (zzw _ _ _ _) (zzz _ _ _)) HS0.out
 . have hc1:addC x0 y 0=1:=by have:=HF.out.2.2;omega
   have HS1:=Lz (by have:=HStep.out;rwa [hc1] at this:val ([] ++ [addS x0 y 0])+B64^(0+1)*1=val (((zs.drop o).take n).take (0+1))+y)
   rw[hc1] at *
   clear hcc hc1
   go_wp2_with fail
   go_loopw [9] (λi wr=>∃ k:Nat,k<=n/\1<=k/\i=.int .i64 k/\∃ ks,AWInv bz o zs ((zs.drop o).take n) y k ks w wr)
    (λi _=>n-(intOf i).toNat)
   case atStart=>exact⟨1,by omega,by omega,rfl,_,HRow.out _,rfl,Words.nil.append (Words.one HF.out.2.1),HS1.out,zzw _ _ _ _⟩
   case round=>
    obtain⟨k,hk,hk1,rfl,ks,S⟩:=hrel
    by_cases hlt:k<n
    . have hxc:=S.row.cell (o+k) (by rw[zzk (by have:=S.len;omega)];omega)
      rw[spl_getD (by have:=S.len;omega) (by omega)] at hxc
      have hzf:=S.row.free (o+k)
      have hw:=HWX.out.getD (o+k)
      have hxg:=zww (xs:=zs) (o:=o) hlt
      have hlt2:k<((zs.drop o).take n).length:=by simp;omega
      generalize zs.getD (o+k) 0=x at *
      have HW:=Lz hw
      have HXG:=Lz hxg
      have HLT2:=Lz hlt2
      by_cases hx:x=18446744073709551615
      . have hst:=addw_step (s:=0) (c':=1) S.eq S.len hlt2 hxg (by unfold B64;omega)
        have hx1:((x:Int)==18446744073709551615)=true:=by rw[beq_iff_eq];omega
        have HST:=Lz hst
        clear hw hxg hst hlt2 hx
        go_wp2_with fail
        go_roundw
        case rel=>exact⟨k+1,by omega,by omega,by go_num,ks ++ [0],write_row S.row S.len (by omega),by simp[S.len],S.words.append (Words.one zxw),HST.out,zzx S.grown (zzw _ _ _ _)⟩
        case measure=>simp[intOf];omega
      . have hst:=addw_step (s:=x+1) (c':=0) S.eq S.len hlt2 hxg (by omega)
        have hx1:((x:Int)==18446744073709551615)=false:=by rw[beq_eq_false_iff_ne];omega
        have hx2:IntKind.u64.wrap ((x:Int)+1)=((x+1:Nat):Int):=by unfold B64 at hw;rw[IntWalk.u64_in _ (by omega)];omega
        have hb:x+1<B64:=by unfold B64 at hw ⊢;omega
        have HS0:=Lz (show val (ks ++ [x+1])=val (((zs.drop o).take n).take (k+1))+y by rwa [Nat.mul_zero,Nat.add_zero] at hst)
        have HB:=Lz hb
        clear hw hxg hst hlt2 hx hb
        go_wp2_with fail
        go_quiet (fail)
        go_wp2_with fail
        go_ret
        refine AWInv.stop (k:=k) (s:=x+1) HWX.out (by omega) (by omega) (NatB.drewN (write_row S.row S.len (by omega)) _) S.len S.words HB.out (zzx S.grown (zzx (zzw _ _ _ _) (zzz _ _ _))) HS0.out
    . go_wp2_with fail
      go_ret
      obtain rfl:k=n:=by omega
      have hl:((zs.drop o).take k).take k=(zs.drop o).take k:=by rw[List.take_take,Nat.min_self]
      exact⟨ks,1,rfl,S.row,S.len,S.words,by have:=S.eq;rwa [hl] at this,by omega,S.grown⟩
/-! ### 'copy' inside a region that draws -/
theorem step_copy_run {P:Program} {ops:Array Oper} {o:Oper} {a:Act} {w:World} {K:Act->World->Prop} {Q:Exit->Act->World->Prop} {E:Prop} (hgd:o.guard=.none) (d s:Operand) (dT sT:TypeId)
 (ho:o.op=.call { callee:=.builtin .copy,args:=#[d,s],argTypes:=#[dT,sT] }) (vd vs v:Value) (w1:World) (hrun:∀ ty,(Builtin.copy_ #[dT,sT] ty #[vd,vs]).run P w=.ok v w1) (hd:a.eval d=vd) (hs:a.eval s=vs)
 (h:K (a.put o.dst v) w1) :
 if Region.wanted o (yielded ops a.tmps)=true then Oper.wp P o a w K Q else E:=by
 have hw:Region.wanted o (yielded ops a.tmps)=true:=by simp[Region.wanted,hgd]
 rw[if_pos hw]
 have hrun:=hrun o.type
 unfold Oper.wp
 simp[execOp,ho,resolve,invoke,builtin,hd,hs,hrun,Result.andThen]
 exact h
theorem under169:Tryz.prog.underlying 169=some (.slice 199):=by kernel_rfl
theorem copy_part (w:World) (p q:Option Addr) (bz oz cz bx ox cx n:Nat) (zs xs:List Nat) (hz:NatB w bz zs) (hx:NatB w bx xs) (hzn:oz+n<=zs.length) (hxn:ox+n<=xs.length)
 (hp:0<n->p=some ⟨bz,oz,.none⟩) (hq:0<n->q=some ⟨bx,ox,.none⟩) (T:TypeId) (hT:Tryz.prog.underlying T=some (.slice 199)) :
 ∃ w1,(∀ ty,(Builtin.copy_ #[T,T] ty #[.slice p n cz,.slice q n cx]).run Tryz.prog w=.ok (.int .i64 n) w1)/\NatB w1 bz (spl zs oz ((xs.drop ox).take n))/\w.grownBy w1 (some bz):=by
 rcases Nat.eq_zero_or_pos n with rfl|h0
 . exact⟨w,λty=>run_copy_none (P:=Tryz.prog) w T T ty 199 p q 0 cz 0 cx hT (by kernel_rfl) rfl,by simpa [spl_nil] using hz,zyz _ _⟩
 . rw[hp h0,hq h0]
   refine copy_words w bz oz n cz bx ox n cx n zs ((xs.drop ox).take n) hz (λi hi=>?_) (by simp) (by simp;omega) (by omega) T hT
   rw[hx.cell (ox+i) (by omega),zww hi]
theorem AWInv.stop2 {bz o n:Nat} {zs xs:List Nat} {y k:Nat} {ks:List Nat} {w wr':World} {s:Nat} (hx:Words xs) (hzn:o+n<=zs.length) (hxn:o+n<=xs.length) (hk:k<n)
 (hrow:NatB wr' bz (spl (spl zs o (ks ++ [s])) (o+(k+1)) ((xs.drop (o+(k+1))).take (n-(k+1))))) (hlen:ks.length=k) (hw:Words ks) (hs:s<B64) (hg:w.grownBy wr' (some bz)) (heq:val (ks ++ [s])=val (((xs.drop o).take n).take (k+1))+y) :
 AddWP bz o n zs ((xs.drop o).take n) y w (.returned (wd 0)) wr':=by
 have hl:((xs.drop o).take n).length=n:=by simp;omega
 have hl2:(ks ++ [s]).length=k+1:=by simp[hlen]
 have e:((xs.drop o).take n).drop (k+1)=(xs.drop (o+(k+1))).take (n-(k+1)):=by rw[List.drop_take,List.drop_drop]
 have he:=addw_end heq hlen (by omega)
 rw[hl] at he
 refine⟨ks ++ [s]++((xs.drop o).take n).drop (k+1),0,rfl,?_,by simp[hlen];omega,(hw.append (Words.one hs)).append (((hx.drop _).take _).drop _),he,by omega,hg⟩
 rw[e,<-spl_spl hl2 (by simp;omega)]
 exact hrow
theorem addVW_other (bz bx o n cz cx:Nat) (zs xs:List Nat) (y:Nat) (w:World) (hz:NatB w bz zs) (hx:NatB w bx xs) (hne:bz≠bx) (hzn:o+n<=zs.length) (hxn:o+n<=xs.length)
 (hwx:Words xs) (hy:y<B64) (h1:1<=n) (hn:n<=1000000) (hcz:n<=cz) (hcx:n<=cx) :
 Calls Tryz.prog 181 #[.slice (some ⟨bz,o,.none⟩) n cz,.slice (some ⟨bx,o,.none⟩) n cx,wd y] w (AddWP bz o n zs ((xs.drop o).take n) y w):=by
 obtain⟨j,hj,_,hj2,_⟩:=info_parts info199
 have he:∀ w':World,w.grownBy w' (some bz)->(∃ zs',NatB w' bz zs')->(binOp .neq 233 (.pointer (some ⟨bz,o,.none⟩)) (.pointer (some ⟨bx,o,.none⟩))).run Tryz.prog w'=.ok (.bool true) w':=by
  rintro w' hg ⟨zs',hz'⟩
  exact neq_ptr_other (w:=w') under233 hj (by rw[hj2];decide) (by intro e;simp only[Addr.mk.injEq] at e;exact hne e.1) hz' (hx.kept hg (by simp[Ne.symm hne]))
 have hc:=hx.cell o (by omega)
 have hcz0:=hz.cell o (by omega)
 have hf:=hz.free o
 have HE:=Lz he
 have HZ:=Lz hz
 have HX:=Lz hx
 have HWX:=Lz hwx
 have HY:=Lz hy
 have HNE:=Lz hne
 clear hz hx hwx hy he
 generalize hx0:xs.getD o 0=x0 at *
 generalize zs.getD o 0=z0 at *
 have HX0:=Lz hx0
 have HXW:=Lz (show x0<B64 by rw[<-hx0];exact HWX.out.getD _)
 have HF:=Lz (add_facts HXW.out HY.out (by omega:0<=1))
 have HRow:=Lz (λv=>by have:=HZ.out.set o v;rwa [show zs.set o v=spl zs o ([] ++ [v]) by rw[<-spl_set (by simp;omega)];rw[spl_nil];rfl] at this:∀ v,NatB (w.setCell ⟨bz,o,.none⟩ (wd v)) bz (spl zs o ([] ++ [v])))
 have HEq:val ([]:List Nat)+B64^0*y=val (((xs.drop o).take n).take 0)+y:=by simp[val]
 have HStep:=Lz (addw_step (s:=addS x0 y 0) (c':=addC x0 y 0) HEq rfl (by simp;omega) (by rw[zww (by omega)];exact hx0) HF.out.1)
 clear hx0 HEq hne
 go_enter Tryz.func181,Tryz.ntmps181
 go_wp2_with fail
 refine(bAddF x0 y 0 HXW.out HY.out (by omega) _).mono ?_
 rintro e w1 ⟨rfl,hw⟩
 obtain rfl:w=w1:=hw.symm
 by_cases hcc:addC x0 y 0=0
 . have HS0:=Lz (show val ([] ++ [addS x0 y 0])=val (((xs.drop o).take n).take (0+1))+y by have:=HStep.out;rw[hcc] at this;simpa using this)
   rw[hcc] at *
   have he1:∀ k,(binOp .neq 233 (.pointer (some ⟨bz,o,.none⟩)) (.pointer (some ⟨bx,o,.none⟩))).run Tryz.prog ((w.setCell ⟨bz,o,.none⟩ (wd (addS x0 y 0))).drewN k)=.ok (.bool true) ((w.setCell ⟨bz,o,.none⟩ (wd (addS x0 y 0))).drewN k):=
    λk=>HE.out _ (zzx (zzw _ _ _ _) (zzz _ _ _)) ⟨_,NatB.drewN (HRow.out _) _⟩
   go_wp2_with fail
   go_quiet (fail)
   clear he1
   have hn1:(1:Int)<=(n:Int):=by omega
   obtain⟨w2,hcp,hN2,hG2⟩:=copy_part ((w.setCell ⟨bz,o,.none⟩ (wd (addS x0 y 0))).drewN (nq+1)) (if cz=1 then some ⟨bz,o,.none⟩ else some ⟨bz,o+1,.none⟩) (if cx=1 then some ⟨bx,o,.none⟩ else some ⟨bx,o+1,.none⟩)
    bz (o+1) (cz-1) bx (o+1) (cx-1) (n-1) (spl zs o ([] ++ [addS x0 y 0])) xs (NatB.drewN (HRow.out _) _) ((HX.out.kept (zzw _ _ _ _) (by simpa using Ne.symm HNE.out)).drewN _) (by rw[zzk (by simp;omega)];omega) (by omega) (λh=>by rw[if_neg (by omega)]) (λh=>by rw[if_neg (by omega)]) 169 under169
   have HN2:=Lz hN2
   have HG2:=Lz (zzx (zzx (zzw _ _ _ _) (zzz _ _ _)) hG2)
   clear hN2 hG2
   go_wp2_with fail
   go_region_law (refine step_copy_run rfl (.tmp 40) (.tmp 42) 169 169 rfl _ _ _ _ hcp (by simp[Act.eval,Act.put]) (by simp[Act.eval,Act.put]) ?_)
   all_goals
    go_wp2_with fail
    all_goals
     go_ret
     exact AWInv.stop2 (k:=0) HWX.out hzn hxn (by omega) HN2.out rfl Words.nil HF.out.2.1 HG2.out HS0.out
 . have hc1:addC x0 y 0=1:=by have:=HF.out.2.2;omega
   have HS1:=Lz (by have:=HStep.out;rwa [hc1] at this:val ([] ++ [addS x0 y 0])+B64^(0+1)*1=val (((xs.drop o).take n).take (0+1))+y)
   rw[hc1] at *
   clear hcc hc1
   go_wp2_with fail
   go_loopw [9] (λi wr=>∃ k:Nat,k<=n/\1<=k/\i=.int .i64 k/\∃ ks,AWInv bz o zs ((xs.drop o).take n) y k ks w wr)
    (λi _=>n-(intOf i).toNat)
   case atStart=>exact⟨1,by omega,by omega,rfl,_,HRow.out _,rfl,Words.nil.append (Words.one HF.out.2.1),HS1.out,zzw _ _ _ _⟩
   case round=>
    obtain⟨k,hk,hk1,rfl,ks,S⟩:=hrel
    by_cases hlt:k<n
    . have hxc:=(HX.out.kept S.grown (by simpa using Ne.symm HNE.out)).cell (o+k) (by omega)
      have hzc:=S.row.cell (o+k) (by rw[zzk (by have:=S.len;omega)];omega)
      have hzf:=S.row.free (o+k)
      have hw:=HWX.out.getD (o+k)
      have hxg:=zww (xs:=xs) (o:=o) hlt
      have hlt2:k<((xs.drop o).take n).length:=by simp;omega
      generalize xs.getD (o+k) 0=x at *
      generalize (spl zs o ks).getD (o+k) 0=zold at *
      have HW:=Lz hw
      have HXG:=Lz hxg
      have HLT2:=Lz hlt2
      by_cases hx:x=18446744073709551615
      . have hst:=addw_step (s:=0) (c':=1) S.eq S.len hlt2 hxg (by unfold B64;omega)
        have hx1:((x:Int)==18446744073709551615)=true:=by rw[beq_iff_eq];omega
        have HST:=Lz hst
        clear hw hxg hst hlt2 hx
        go_wp2_with fail
        go_roundw
        case rel=>exact⟨k+1,by omega,by omega,by go_num,ks ++ [0],write_row S.row S.len (by omega),by simp[S.len],S.words.append (Words.one zxw),HST.out,zzx S.grown (zzw _ _ _ _)⟩
        case measure=>simp[intOf];omega
      . have hst:=addw_step (s:=x+1) (c':=0) S.eq S.len hlt2 hxg (by omega)
        have hx1:((x:Int)==18446744073709551615)=false:=by rw[beq_eq_false_iff_ne];omega
        have hx2:IntKind.u64.wrap ((x:Int)+1)=((x+1:Nat):Int):=by unfold B64 at hw;rw[IntWalk.u64_in _ (by omega)];omega
        have hb:x+1<B64:=by unfold B64 at hw ⊢;omega
        have HS0:=Lz (show val (ks ++ [x+1])=val (((xs.drop o).take n).take (k+1))+y by rwa [Nat.mul_zero,Nat.add_zero] at hst)
        have HB:=Lz hb
        have hrow:=write_row (v:=x+1) S.row S.len (by omega)
        have HRW:=Lz hrow
        have he1:∀ d,(binOp .neq 233 (.pointer (some ⟨bz,o,.none⟩)) (.pointer (some ⟨bx,o,.none⟩))).run Tryz.prog ((wr.setCell ⟨bz,o+k,.none⟩ (.int .u64 ((x:Int)+1))).drewN d)=.ok (.bool true) ((wr.setCell ⟨bz,o+k,.none⟩ (.int .u64 ((x:Int)+1))).drewN d):=
         λd=>HE.out _ (zzx S.grown (zzx (zzw _ _ _ _) (zzz _ _ _))) ⟨_,NatB.drewN hrow _⟩
        have hn0:(0:Int)<(n:Int):=by omega
        clear hw hxg hst hlt2 hx hb hrow
        go_wp2_with fail
        go_quiet (fail)
        clear he1
        have hnk:(k:Int)+1<=(n:Int):=by omega
        have hnk0:0<=(k:Int)+1:=by omega
        have hkw:IntKind.i64.wrap ((k:Int)+1)=(k:Int)+1:=IntWalk.i64_in _ (by omega)
        have hkt:((k:Int)+1).toNat=k+1:=by omega
        obtain⟨w2,hcp,hN2,hG2⟩:=copy_part ((wr.setCell ⟨bz,o+k,.none⟩ (.int .u64 ((x:Int)+1))).drewN (nq+1)) (if cz=k+1 then some ⟨bz,o,.none⟩ else some ⟨bz,o+(k+1),.none⟩) (if cx=k+1 then some ⟨bx,o,.none⟩ else some ⟨bx,o+(k+1),.none⟩)
         bz (o+(k+1)) (cz-(k+1)) bx (o+(k+1)) (cx-(k+1)) (n-(k+1)) (spl zs o (ks ++ [x+1])) xs (NatB.drewN HRW.out _) (((HX.out.kept S.grown (by simpa using Ne.symm HNE.out)).kept (zzw _ _ _ _) (by simpa using Ne.symm HNE.out)).drewN _) (by rw[zzk (by have:=S.len;simp;omega)];omega) (by omega) (λh=>by rw[if_neg (by omega)]) (λh=>by rw[if_neg (by omega)]) 169 under169
        have HN2:=Lz hN2
        have HG2:=Lz (zzx S.grown (zzx (zzx (zzw _ _ _ _) (zzz _ _ _)) hG2))
        clear hN2 hG2
        go_wp2_with fail
        go_region_law (refine step_copy_run rfl (.tmp 69) (.tmp 73) 169 169 rfl _ _ _ _ hcp (by simp[Act.eval,Act.put]) (by simp[Act.eval,Act.put]) ?_)
        all_goals
         go_wp2_with fail
         all_goals
          go_ret
          exact AWInv.stop2 (k:=k) HWX.out hzn hxn (by omega) HN2.out S.len S.words HB.out HG2.out HS0.out
    . go_wp2_with fail
      go_ret
      obtain rfl:k=n:=by omega
      have hl:((xs.drop o).take k).take k=(xs.drop o).take k:=by rw[List.take_take,Nat.min_self]
      exact⟨ks,1,rfl,S.row,S.len,S.words,by have:=S.eq;rwa [hl] at this,by omega,S.grown⟩
end Go.Proofs.YtohhkjamddojmaaGreatDoor.Big
namespace Go.Proofs.YtohhkjamddojmaaGreatDoor.Big
open Go.RowKit
def SubWP (bz o n:Nat) (zs X:List Nat) (y:Nat) (w:World) (e:Ending) (w':World):Prop:=
 ∃ ks c,e=.returned (wd c)/\NatB w' bz (spl zs o ks)/\ks.length=n/\Words ks/\val ks+y=val X+B64^n*c/\c<=1/\w.grownBy w' (some bz)
theorem subw_end {ks X:List Nat} {k s y:Nat} (h:val (ks ++ [s])+y=val (X.take (k+1))) (hk:ks.length=k) (hX:k<X.length):val (ks ++ [s]++X.drop (k+1))+y=val X+B64^X.length*0:=by
 have e:val X=val (X.take (k+1))+B64^(k+1)*val (X.drop (k+1)):=by
  conv=>lhs;rw[<-List.take_append_drop (k+1) X]
  rw[val_append,List.length_take,Nat.min_eq_left (by omega)]
 rw[val_append,List.length_append,hk,List.length_singleton]
 omega
theorem subw_step {ks X:List Nat} {k s x c c' y:Nat} (h:val ks+y=val (X.take k)+B64^k*c) (hk:ks.length=k) (hX:k<X.length) (hx:X.getD k 0=x) (h2:s+c=x+c'*B64):val (ks ++ [s])+y=val (X.take (k+1))+B64^(k+1)*c':=by
 rw[zwy _ _ hX,zyk,zyk,hk,hx,List.length_take,Nat.min_eq_left (by omega),Nat.pow_succ]
 have e:B64^k*(s+c)=B64^k*(x+c'*B64):=by rw[h2]
 rw[Nat.mul_add,Nat.mul_add] at e
 have e2:B64^k*(c'*B64)=B64^k*B64*c':=by rw[Nat.mul_comm c',Nat.mul_assoc]
 omega
theorem hmax:18446744073709551615<B64:=by unfold B64;omega
structure SWInv (bz o:Nat) (zs X:List Nat) (y k:Nat) (ks:List Nat) (w wr:World):Prop where
 row:NatB wr bz (spl zs o ks)
 len:ks.length=k
 words:Words ks
 eq:val ks+y=val (X.take k)+B64^k*1
 grown:w.grownBy wr (some bz)
theorem SWInv.stop {bz o n:Nat} {zs:List Nat} {y k:Nat} {ks:List Nat} {w wr':World} {s:Nat} (hz:Words zs) (hzn:o+n<=zs.length) (hk:k<n)
 (hrow:NatB wr' bz (spl zs o (ks ++ [s]))) (hlen:ks.length=k) (hw:Words ks) (hs:s<B64) (hg:w.grownBy wr' (some bz)) (heq:val (ks ++ [s])+y=val (((zs.drop o).take n).take (k+1))) :
 SubWP bz o n zs ((zs.drop o).take n) y w (.returned (wd 0)) wr':=by
 have hl:((zs.drop o).take n).length=n:=by simp;omega
 have hl2:(ks ++ [s]).length=k+1:=by simp[hlen]
 have e:((zs.drop o).take n).drop (k+1)=(zs.drop (o+(k+1))).take (n-(k+1)):=by rw[List.drop_take,List.drop_drop]
 have he:=subw_end heq hlen (by omega)
 rw[hl] at he
 refine⟨ks ++ [s]++((zs.drop o).take n).drop (k+1),0,rfl,?_,by simp[hlen];omega,(hw.append (Words.one hs)).append (((hz.drop _).take _).drop _),he,by omega,hg⟩
 rw[e,spl_same hl2 (by omega)]
 exact hrow
theorem subVW_same (bz o n cz cx:Nat) (zs:List Nat) (y:Nat) (w:World) (hz:NatB w bz zs) (hzn:o+n<=zs.length)
 (hwx:Words zs) (hy:y<B64) (h1:1<=n) (hn:n<=1000000) :
 Calls Tryz.prog 183 #[.slice (some ⟨bz,o,.none⟩) n cz,.slice (some ⟨bz,o,.none⟩) n cx,wd y] w (SubWP bz o n zs ((zs.drop o).take n) y w):=by
 obtain⟨j,hj,_⟩:=info_parts info199
 have he:∀ w:World,(binOp .neq 233 (.pointer (some ⟨bz,o,.none⟩)) (.pointer (some ⟨bz,o,.none⟩))).run Tryz.prog w=.ok (.bool false) w:=λw=>neq_ptr_same w _ under233 hj
 have hc:=hz.cell o (by omega)
 have hf:=hz.free o
 have HZ:=Lz hz
 have HWX:=Lz hwx
 have HY:=Lz hy
 clear hz hwx hy
 generalize hx0:zs.getD o 0=x0 at *
 have HX0:=Lz hx0
 have HXW:=Lz (show x0<B64 by rw[<-hx0];exact HWX.out.getD _)
 have HF:=Lz (sub_facts HXW.out HY.out (by omega:0<=1))
 have HRow:=Lz (λv=>by have:=HZ.out.set o v;rwa [show zs.set o v=spl zs o ([] ++ [v]) by rw[<-spl_set (by simp;omega)];rw[spl_nil];rfl] at this:∀ v,NatB (w.setCell ⟨bz,o,.none⟩ (wd v)) bz (spl zs o ([] ++ [v])))
 have HEq:val ([]:List Nat)+y=val (((zs.drop o).take n).take 0)+B64^0*y:=by simp[val]
 have HStep:=Lz (subw_step (s:=subS x0 y 0) (c':=subC x0 y 0) HEq rfl (by simp;omega) (by rw[zww (by omega)];exact hx0) HF.out.1)
 clear hx0 HEq
 have hsl:∀ v,(spl zs o ([] ++ [v])).length=zs.length:=λv=>zzk (by simp;omega)
 have HSL:=Lz hsl
 clear hsl
 go_enter Tryz.func183,Tryz.ntmps183
 go_wp2_with fail
 refine(bSubF x0 y 0 HXW.out HY.out (by omega) _).mono ?_
 rintro e w1 ⟨rfl,hw⟩
 obtain rfl:w=w1:=hw.symm
 by_cases hcc:subC x0 y 0=0
 . have HS0:=Lz (show val ([] ++ [subS x0 y 0])+y=val (((zs.drop o).take n).take (0+1)) by have:=HStep.out;rw[hcc] at this;simpa using this)
   rw[hcc] at *
   go_wp2_with fail
   go_quiet (fail)
   go_wp2_with fail
   go_ret
   exact SWInv.stop (k:=0) HWX.out (by omega) (by omega) (NatB.drewN (HRow.out _) _) rfl Words.nil HF.out.2.1 (zzx (zzw _ _ _ _) (zzz _ _ _)) HS0.out
 . have hc1:subC x0 y 0=1:=by have:=HF.out.2.2;omega
   have HS1:=Lz (by have:=HStep.out;rwa [hc1] at this:val ([] ++ [subS x0 y 0])+y=val (((zs.drop o).take n).take (0+1))+B64^(0+1)*1)
   rw[hc1] at *
   clear hcc hc1
   go_wp2_with fail
   go_loopw [9] (λi wr=>∃ k:Nat,k<=n/\1<=k/\i=.int .i64 k/\∃ ks,SWInv bz o zs ((zs.drop o).take n) y k ks w wr)
    (λi _=>n-(intOf i).toNat)
   case atStart=>exact⟨1,by omega,by omega,rfl,_,HRow.out _,rfl,Words.nil.append (Words.one HF.out.2.1),HS1.out,zzw _ _ _ _⟩
   case round=>
    obtain⟨k,hk,hk1,rfl,ks,S⟩:=hrel
    by_cases hlt:k<n
    . have hxc:=S.row.cell (o+k) (by rw[zzk (by have:=S.len;omega)];omega)
      rw[spl_getD (by have:=S.len;omega) (by omega)] at hxc
      have hzf:=S.row.free (o+k)
      have hw:=HWX.out.getD (o+k)
      have hxg:=zww (xs:=zs) (o:=o) hlt
      have hlt2:k<((zs.drop o).take n).length:=by simp;omega
      generalize zs.getD (o+k) 0=x at *
      have HW:=Lz hw
      have HXG:=Lz hxg
      have HLT2:=Lz hlt2
      by_cases hx:x=0
      . have hst:=subw_step (s:=18446744073709551615) (c':=1) S.eq S.len hlt2 hxg (by unfold B64;omega)
        have hx1:((x:Int)==0)=true:=by rw[beq_iff_eq];omega
        have HST:=Lz hst
        clear hw hxg hst hlt2 hx
        go_wp2_with fail
        go_roundw
        case rel=>exact⟨k+1,by omega,by omega,by go_num,ks ++ [18446744073709551615],write_row S.row S.len (by omega),by simp[S.len],S.words.append (Words.one hmax),HST.out,zzx S.grown (zzw _ _ _ _)⟩
        case measure=>simp[intOf];omega
      . obtain⟨v,hv⟩:∃ v,v=x-1:=⟨_,rfl⟩
        have hst:=subw_step (s:=v) (c':=0) S.eq S.len hlt2 hxg (by omega)
        have hx1:((x:Int)==0)=false:=by rw[beq_eq_false_iff_ne];omega
        have hx2:IntKind.u64.wrap ((x:Int)-1)=(v:Int):=by unfold B64 at hw;rw[IntWalk.u64_in _ (by omega)];omega
        have hb:v<B64:=by unfold B64 at hw ⊢;omega
        have HS0:=Lz (show val (ks ++ [v])+y=val (((zs.drop o).take n).take (k+1)) by rwa [Nat.mul_zero,Nat.add_zero] at hst)
        have HB:=Lz hb
        clear hw hxg hst hlt2 hx hb hv
        go_wp2_with fail
        go_quiet (fail)
        go_wp2_with fail
        go_ret
        refine SWInv.stop (k:=k) (s:=v) HWX.out (by omega) (by omega) (NatB.drewN (write_row S.row S.len (by omega)) _) S.len S.words HB.out (zzx S.grown (zzx (zzw _ _ _ _) (zzz _ _ _))) HS0.out
    . go_wp2_with fail
      go_ret
      obtain rfl:k=n:=by omega
      have hl:((zs.drop o).take k).take k=(zs.drop o).take k:=by rw[List.take_take,Nat.min_self]
      exact⟨ks,1,rfl,S.row,S.len,S.words,by have:=S.eq;rwa [hl] at this,by omega,S.grown⟩
theorem SWInv.stop2 {bz o n:Nat} {zs xs:List Nat} {y k:Nat} {ks:List Nat} {w wr':World} {s:Nat} (hx:Words xs) (hzn:o+n<=zs.length) (hxn:o+n<=xs.length) (hk:k<n)
 (hrow:NatB wr' bz (spl (spl zs o (ks ++ [s])) (o+(k+1)) ((xs.drop (o+(k+1))).take (n-(k+1))))) (hlen:ks.length=k) (hw:Words ks) (hs:s<B64) (hg:w.grownBy wr' (some bz)) (heq:val (ks ++ [s])+y=val (((xs.drop o).take n).take (k+1))) :
 SubWP bz o n zs ((xs.drop o).take n) y w (.returned (wd 0)) wr':=by
 have hl:((xs.drop o).take n).length=n:=by simp;omega
 have hl2:(ks ++ [s]).length=k+1:=by simp[hlen]
 have e:((xs.drop o).take n).drop (k+1)=(xs.drop (o+(k+1))).take (n-(k+1)):=by rw[List.drop_take,List.drop_drop]
 have he:=subw_end heq hlen (by omega)
 rw[hl] at he
 refine⟨ks ++ [s]++((xs.drop o).take n).drop (k+1),0,rfl,?_,by simp[hlen];omega,(hw.append (Words.one hs)).append (((hx.drop _).take _).drop _),he,by omega,hg⟩
 rw[e,<-spl_spl hl2 (by simp;omega)]
 exact hrow
theorem subVW_other (bz bx o n cz cx:Nat) (zs xs:List Nat) (y:Nat) (w:World) (hz:NatB w bz zs) (hx:NatB w bx xs) (hne:bz≠bx) (hzn:o+n<=zs.length) (hxn:o+n<=xs.length)
 (hwx:Words xs) (hy:y<B64) (h1:1<=n) (hn:n<=1000000) (hcz:n<=cz) (hcx:n<=cx) :
 Calls Tryz.prog 183 #[.slice (some ⟨bz,o,.none⟩) n cz,.slice (some ⟨bx,o,.none⟩) n cx,wd y] w (SubWP bz o n zs ((xs.drop o).take n) y w):=by
 obtain⟨j,hj,_,hj2,_⟩:=info_parts info199
 have he:∀ w':World,w.grownBy w' (some bz)->(∃ zs',NatB w' bz zs')->(binOp .neq 233 (.pointer (some ⟨bz,o,.none⟩)) (.pointer (some ⟨bx,o,.none⟩))).run Tryz.prog w'=.ok (.bool true) w':=by
  rintro w' hg ⟨zs',hz'⟩
  exact neq_ptr_other (w:=w') under233 hj (by rw[hj2];decide) (by intro e;simp only[Addr.mk.injEq] at e;exact hne e.1) hz' (hx.kept hg (by simp[Ne.symm hne]))
 have hc:=hx.cell o (by omega)
 have hcz0:=hz.cell o (by omega)
 have hf:=hz.free o
 have HE:=Lz he
 have HZ:=Lz hz
 have HX:=Lz hx
 have HWX:=Lz hwx
 have HY:=Lz hy
 have HNE:=Lz hne
 clear hz hx hwx hy he
 generalize hx0:xs.getD o 0=x0 at *
 generalize zs.getD o 0=z0 at *
 have HX0:=Lz hx0
 have HXW:=Lz (show x0<B64 by rw[<-hx0];exact HWX.out.getD _)
 have HF:=Lz (sub_facts HXW.out HY.out (by omega:0<=1))
 have HRow:=Lz (λv=>by have:=HZ.out.set o v;rwa [show zs.set o v=spl zs o ([] ++ [v]) by rw[<-spl_set (by simp;omega)];rw[spl_nil];rfl] at this:∀ v,NatB (w.setCell ⟨bz,o,.none⟩ (wd v)) bz (spl zs o ([] ++ [v])))
 have HEq:val ([]:List Nat)+y=val (((xs.drop o).take n).take 0)+B64^0*y:=by simp[val]
 have HStep:=Lz (subw_step (s:=subS x0 y 0) (c':=subC x0 y 0) HEq rfl (by simp;omega) (by rw[zww (by omega)];exact hx0) HF.out.1)
 clear hx0 HEq hne
 go_enter Tryz.func183,Tryz.ntmps183
 go_wp2_with fail
 refine(bSubF x0 y 0 HXW.out HY.out (by omega) _).mono ?_
 rintro e w1 ⟨rfl,hw⟩
 obtain rfl:w=w1:=hw.symm
 by_cases hcc:subC x0 y 0=0
 . have HS0:=Lz (show val ([] ++ [subS x0 y 0])+y=val (((xs.drop o).take n).take (0+1)) by have:=HStep.out;rw[hcc] at this;simpa using this)
   rw[hcc] at *
   have he1:∀ k,(binOp .neq 233 (.pointer (some ⟨bz,o,.none⟩)) (.pointer (some ⟨bx,o,.none⟩))).run Tryz.prog ((w.setCell ⟨bz,o,.none⟩ (wd (subS x0 y 0))).drewN k)=.ok (.bool true) ((w.setCell ⟨bz,o,.none⟩ (wd (subS x0 y 0))).drewN k):=
    λk=>HE.out _ (zzx (zzw _ _ _ _) (zzz _ _ _)) ⟨_,NatB.drewN (HRow.out _) _⟩
   go_wp2_with fail
   go_quiet (fail)
   clear he1
   have hn1:(1:Int)<=(n:Int):=by omega
   obtain⟨w2,hcp,hN2,hG2⟩:=copy_part ((w.setCell ⟨bz,o,.none⟩ (wd (subS x0 y 0))).drewN (nq+1)) (if cz=1 then some ⟨bz,o,.none⟩ else some ⟨bz,o+1,.none⟩) (if cx=1 then some ⟨bx,o,.none⟩ else some ⟨bx,o+1,.none⟩)
    bz (o+1) (cz-1) bx (o+1) (cx-1) (n-1) (spl zs o ([] ++ [subS x0 y 0])) xs (NatB.drewN (HRow.out _) _) ((HX.out.kept (zzw _ _ _ _) (by simpa using Ne.symm HNE.out)).drewN _) (by rw[zzk (by simp;omega)];omega) (by omega) (λh=>by rw[if_neg (by omega)]) (λh=>by rw[if_neg (by omega)]) 169 under169
   have HN2:=Lz hN2
   have HG2:=Lz (zzx (zzx (zzw _ _ _ _) (zzz _ _ _)) hG2)
   clear hN2 hG2
   go_wp2_with fail
   go_region_law (refine step_copy_run rfl (.tmp 40) (.tmp 42) 169 169 rfl _ _ _ _ hcp (by simp[Act.eval,Act.put]) (by simp[Act.eval,Act.put]) ?_)
   all_goals
    go_wp2_with fail
    all_goals
     go_ret
     exact SWInv.stop2 (k:=0) HWX.out hzn hxn (by omega) HN2.out rfl Words.nil HF.out.2.1 HG2.out HS0.out
 . have hc1:subC x0 y 0=1:=by have:=HF.out.2.2;omega
   have HS1:=Lz (by have:=HStep.out;rwa [hc1] at this:val ([] ++ [subS x0 y 0])+y=val (((xs.drop o).take n).take (0+1))+B64^(0+1)*1)
   rw[hc1] at *
   clear hcc hc1
   go_wp2_with fail
   go_loopw [9] (λi wr=>∃ k:Nat,k<=n/\1<=k/\i=.int .i64 k/\∃ ks,SWInv bz o zs ((xs.drop o).take n) y k ks w wr)
    (λi _=>n-(intOf i).toNat)
   case atStart=>exact⟨1,by omega,by omega,rfl,_,HRow.out _,rfl,Words.nil.append (Words.one HF.out.2.1),HS1.out,zzw _ _ _ _⟩
   case round=>
    obtain⟨k,hk,hk1,rfl,ks,S⟩:=hrel
    by_cases hlt:k<n
    . have hxc:=(HX.out.kept S.grown (by simpa using Ne.symm HNE.out)).cell (o+k) (by omega)
      have hzc:=S.row.cell (o+k) (by rw[zzk (by have:=S.len;omega)];omega)
      have hzf:=S.row.free (o+k)
      have hw:=HWX.out.getD (o+k)
      have hxg:=zww (xs:=xs) (o:=o) hlt
      have hlt2:k<((xs.drop o).take n).length:=by simp;omega
      generalize xs.getD (o+k) 0=x at *
      generalize (spl zs o ks).getD (o+k) 0=zold at *
      have HW:=Lz hw
      have HXG:=Lz hxg
      have HLT2:=Lz hlt2
      by_cases hx:x=0
      . have hst:=subw_step (s:=18446744073709551615) (c':=1) S.eq S.len hlt2 hxg (by unfold B64;omega)
        have hx1:((x:Int)==0)=true:=by rw[beq_iff_eq];omega
        have HST:=Lz hst
        clear hw hxg hst hlt2 hx
        go_wp2_with fail
        go_roundw
        case rel=>exact⟨k+1,by omega,by omega,by go_num,ks ++ [18446744073709551615],write_row S.row S.len (by omega),by simp[S.len],S.words.append (Words.one hmax),HST.out,zzx S.grown (zzw _ _ _ _)⟩
        case measure=>simp[intOf];omega
      . obtain⟨v,hv⟩:∃ v,v=x-1:=⟨_,rfl⟩
        have hst:=subw_step (s:=v) (c':=0) S.eq S.len hlt2 hxg (by omega)
        have hx1:((x:Int)==0)=false:=by rw[beq_eq_false_iff_ne];omega
        have hx2:IntKind.u64.wrap ((x:Int)-1)=(v:Int):=by unfold B64 at hw;rw[IntWalk.u64_in _ (by omega)];omega
        have hb:v<B64:=by unfold B64 at hw ⊢;omega
        have HS0:=Lz (show val (ks ++ [v])+y=val (((xs.drop o).take n).take (k+1)) by rwa [Nat.mul_zero,Nat.add_zero] at hst)
        have HB:=Lz hb
        have hrow:=write_row (v:=v) S.row S.len (by omega)
        have HRW:=Lz hrow
        have he1:∀ d,(binOp .neq 233 (.pointer (some ⟨bz,o,.none⟩)) (.pointer (some ⟨bx,o,.none⟩))).run Tryz.prog ((wr.setCell ⟨bz,o+k,.none⟩ (.int .u64 (v:Int))).drewN d)=.ok (.bool true) ((wr.setCell ⟨bz,o+k,.none⟩ (.int .u64 (v:Int))).drewN d):=
         λd=>HE.out _ (zzx S.grown (zzx (zzw _ _ _ _) (zzz _ _ _))) ⟨_,NatB.drewN hrow _⟩
        have hn0:(0:Int)<(n:Int):=by omega
        clear hw hxg hst hlt2 hx hb hv hrow
        go_wp2_with fail
        go_quiet (fail)
        clear he1
        have hnk:(k:Int)+1<=(n:Int):=by omega
        have hnk0:0<=(k:Int)+1:=by omega
        have hkw:IntKind.i64.wrap ((k:Int)+1)=(k:Int)+1:=IntWalk.i64_in _ (by omega)
        have hkt:((k:Int)+1).toNat=k+1:=by omega
        obtain⟨w2,hcp,hN2,hG2⟩:=copy_part ((wr.setCell ⟨bz,o+k,.none⟩ (.int .u64 (v:Int))).drewN (nq+1)) (if cz=k+1 then some ⟨bz,o,.none⟩ else some ⟨bz,o+(k+1),.none⟩) (if cx=k+1 then some ⟨bx,o,.none⟩ else some ⟨bx,o+(k+1),.none⟩)
         bz (o+(k+1)) (cz-(k+1)) bx (o+(k+1)) (cx-(k+1)) (n-(k+1)) (spl zs o (ks ++ [v])) xs (NatB.drewN HRW.out _) (((HX.out.kept S.grown (by simpa using Ne.symm HNE.out)).kept (zzw _ _ _ _) (by simpa using Ne.symm HNE.out)).drewN _) (by rw[zzk (by have:=S.len;simp;omega)];omega) (by omega) (λh=>by rw[if_neg (by omega)]) (λh=>by rw[if_neg (by omega)]) 169 under169
        have HN2:=Lz hN2
        have HG2:=Lz (zzx S.grown (zzx (zzx (zzw _ _ _ _) (zzz _ _ _)) hG2))
        clear hN2 hG2
        go_wp2_with fail
        go_region_law (refine step_copy_run rfl (.tmp 69) (.tmp 73) 169 169 rfl _ _ _ _ hcp (by simp[Act.eval,Act.put]) (by simp[Act.eval,Act.put]) ?_)
        all_goals
         go_wp2_with fail
         all_goals
          go_ret
          exact SWInv.stop2 (k:=k) HWX.out hzn hxn (by omega) HN2.out S.len S.words HB.out HG2.out HS0.out
    . go_wp2_with fail
      go_ret
      obtain rfl:k=n:=by omega
      have hl:((xs.drop o).take k).take k=(xs.drop o).take k:=by rw[List.take_take,Nat.min_self]
      exact⟨ks,1,rfl,S.row,S.len,S.words,by have:=S.eq;rwa [hl] at this,by omega,S.grown⟩
end Go.Proofs.YtohhkjamddojmaaGreatDoor.Big
namespace Go.Proofs.YtohhkjamddojmaaGreatDoor.Big
open Go.RowKit
theorem addVW (bz bx o n cz cx:Nat) (zs xs:List Nat) (y:Nat) (w:World) (hz:NatB w bz zs) (hx:NatB w bx xs) (hzn:o+n<=zs.length) (hxn:o+n<=xs.length)
 (hwx:Words xs) (hy:y<B64) (h1:1<=n) (hn:n<=1000000) (hcz:n<=cz) (hcx:n<=cx) :
 Calls Tryz.prog 181 #[.slice (some ⟨bz,o,.none⟩) n cz,.slice (some ⟨bx,o,.none⟩) n cx,wd y] w (AddWP bz o n zs ((xs.drop o).take n) y w):=by
 by_cases hne:bz=bx
 . subst hne
   obtain rfl:=hz.inj hx
   exact addVW_same bz o n cz cx zs y w hz hzn hwx hy h1 hn
 . exact addVW_other bz bx o n cz cx zs xs y w hz hx hne hzn hxn hwx hy h1 hn hcz hcx
theorem subVW (bz bx o n cz cx:Nat) (zs xs:List Nat) (y:Nat) (w:World) (hz:NatB w bz zs) (hx:NatB w bx xs) (hzn:o+n<=zs.length) (hxn:o+n<=xs.length)
 (hwx:Words xs) (hy:y<B64) (h1:1<=n) (hn:n<=1000000) (hcz:n<=cz) (hcx:n<=cx) :
 Calls Tryz.prog 183 #[.slice (some ⟨bz,o,.none⟩) n cz,.slice (some ⟨bx,o,.none⟩) n cx,wd y] w (SubWP bz o n zs ((xs.drop o).take n) y w):=by
 by_cases hne:bz=bx
 . subst hne
   obtain rfl:=hz.inj hx
   exact subVW_same bz o n cz cx zs y w hz hzn hwx hy h1 hn
 . exact subVW_other bz bx o n cz cx zs xs y w hz hx hne hzn hxn hwx hy h1 hn hcz hcx
theorem Num.shape {w:World} {q:Option Addr} {X ds:List Nat} (h:Num w q X ds):q=.none\/∃ b,q=some ⟨b,0,.none⟩:=h.buf.shape
theorem row_after {w w2:World} {bz bx:Nat} {zs xs ks:List Nat} (hz:NatB w bz zs) (hx:NatB w bx xs) (hg:w.grownBy w2 (some bz)) (hb:NatB w2 bz (spl zs 0 ks)) (hk:ks.length<=zs.length) (hwx:Words xs) (hwk:Words ks) :
 ∃ xs',NatB w2 bx xs'/\Words xs'/\xs'.length=xs.length/\xs'.drop ks.length=xs.drop ks.length:=by
 by_cases hne:bx=bz
 . subst hne
   obtain rfl:=hx.inj hz
   refine⟨_,hb,hwx.spl hwk,zzk (by omega),?_⟩
   simp[spl]
 . exact⟨xs,hx.kept hg (by simpa using hne),hwx,rfl,rfl⟩
theorem zxj (w:World) (row:Option Nat):w.grownBy w.drew row:=⟨rfl,rfl,rfl,Nat.le_refl _,λ_ _ _=>rfl⟩
theorem Num.of_norm {w:World} {p:Option Addr} {cs L:List Nat} {n v:Nat} (h:Buf w p cs) (ht:cs.take n=L) (hv:val L=v) (hn:n<=cs.length):(norm (cs.take n)).length=(dg v).length/\Num w p (dg v) cs:=by
 have hw:Words L:=by rw[<-ht];exact h.2.1.take _
 have e:=norm_dg L hw
 rw[hv] at e
 rw[ht,e]
 have hl:(dg v).length<=n:=by
  rw[<-e]
  refine Nat.le_trans (norm_length L) ?_
  rw[<-ht];simp;omega
 refine⟨rfl,h,?_,by omega⟩
 have h2:=norm_take L
 rw[e,<-ht,List.take_take,Nat.min_eq_left hl] at h2
 exact h2
theorem add_total {ks ks2 X Y:List Nat} {n m c c2:Nat} (h1:val ks+B64^n*c=val (X.take n)+val Y) (h2:val ks2+B64^(m-n)*c2=val (X.drop n)+c) (hk:ks.length=n) (hk2:ks2.length=m-n) (hX:n<=X.length) :
 val (ks++ks2 ++ [c2])=val X+val Y:=by
 have e:val X=val (X.take n)+B64^n*val (X.drop n):=by
  conv=>lhs;rw[<-List.take_append_drop n X]
  rw[val_append,List.length_take,Nat.min_eq_left hX]
 rw[zyk,val_append,List.length_append,hk,hk2]
 have e2:B64^(n+(m-n))*c2=B64^n*(B64^(m-n)*c2):=by rw[Nat.pow_add,Nat.mul_assoc]
 have e3:B64^n*(val ks2+B64^(m-n)*c2)=B64^n*(val (X.drop n)+c):=by rw[h2]
 rw[Nat.mul_add,Nat.mul_add] at e3
 omega
theorem Buf.spl {w w2:World} {bz o:Nat} {zs ks:List Nat} (h:Buf w (some ⟨bz,0,.none⟩) zs) (hN:NatB w2 bz (spl zs o ks)) (hw:Words ks) (hl:o+ks.length<=zs.length):Buf w2 (some ⟨bz,0,.none⟩) (spl zs o ks):=
 ⟨.inr ⟨bz,rfl,hN⟩,h.2.1.spl hw,by rw[zzk hl];exact h.2.2⟩
theorem nat_add_long (p q q2:Option Addr) (l:Nat) (cs X ds Y es:List Nat) (w:World) (h:Buf w p cs) (hx:Num w q X ds) (hy:Num w q2 Y es) (hX:X.length<=80000) (hXY:Y.length<=X.length) (hY0:0<Y.length) :
 Calls Tryz.prog 160 #[.slice p l cs.length,.slice q X.length ds.length,.slice q2 Y.length es.length] w (NumP p (dg (val X+val Y)) w):=by
 have hxl:=hx.le
 have hyl:=hy.le
 have HB:=Lz h
 have HX:=Lz hx
 have HY:=Lz hy
 clear h hx hy
 go_enter Tryz.func160,Tryz.ntmps160
 go_wp2_with fail
 refine(nat_make p l (X.length+1) cs w HB.out (by omega)).mono ?_
 rintro e w1 ⟨p',cs',rfl,hb,hn,hg,hor⟩
 obtain⟨bz,rfl,hzN⟩:=hb.at (by omega)
 have hx1:=HX.out.kept hg (λ_ _=>by simp)
 have hy1:=HY.out.kept hg (λ_ _=>by simp)
 obtain⟨bx,rfl,hxN,-⟩:=hx1.cell (by omega)
 obtain⟨b2,rfl,hyN,-⟩:=hy1.cell (by omega)
 have ex:ds.take Y.length=X.take Y.length:=by rw[<-hx1.take,List.take_take,Nat.min_eq_left hXY]
 have H10:=Lz (addVV bz 0 Y.length cs'.length bx 0 ds.length b2 0 es.length cs' ds es w1.drew hzN hxN hyN (by omega) (by omega) (by omega) hx1.buf.2.1 hy1.buf.2.1 (.inr (Nat.le_refl _)) (.inr (Nat.le_refl _)) (by omega))
 have HZN:=Lz hzN
 have HXN:=Lz hxN
 have HBN:=Lz hb
 have HX1:=Lz hx1
 have HY1:=Lz hy1
 have HG:=Lz hg
 have HO:=Lz hor
 have HEX:=Lz ex
 have hyn:(Y.length:Int)<=(cs'.length:Int):=by omega
 have hyn2:(Y.length:Int)<=(ds.length:Int):=by omega
 have hyn3:(Y.length:Int)<=(es.length:Int):=by omega
 clear hzN hxN hyN hb hx1 hy1 hg hor ex
 go_wp2_with fail
 go_region_with (go_at_call 180;refine H10.out.mono ?_;rintro e w2 ⟨ks,c,rfl,h2⟩;obtain⟨hN2,hkl,hkw,hkv,hc,hG2⟩:=h2;have HN2:=Lz hN2;have HKW:=Lz hkw;have HKV:=Lz hkv;have HG2:=Lz hG2;clear hN2 hkw hkv hG2)
 obtain⟨xs',hx2,hxw2,hxl2,hxd2⟩:=row_after HZN.out HXN.out (zzx (zxj _ _) HG2.out) HN2.out (by omega) HX1.out.buf.2.1 HKW.out
 rw[hkl] at hxd2
 have HXD:=Lz hxd2
 have HX2:=Lz hx2
 have HKL:=Lz hkl
 have hGw2:=zzx (zxj w1 (some bz)) HG2.out
 have HGW2:=Lz hGw2
 by_cases hgt:Y.length<X.length
 . have H12:=Lz (addVW bz bx Y.length (X.length-Y.length) (cs'.length-Y.length) (ds.length-Y.length) _ xs' c w2.drew HN2.out hx2 (by rw[zzk (by omega)];omega) (by omega) hxw2 (by unfold B64;omega) (by omega) (by omega) (by omega) (by omega))
   have s1:(Y.length:Int)<=(X.length:Int):=by omega
   have s2:(X.length:Int)<=(cs'.length:Int):=by omega
   have s3:(X.length:Int)<=(X.length:Int):=by omega
   have q1:¬cs'.length=Y.length:=by omega
   have q2:¬ds.length=Y.length:=by omega
   clear hxd2 hx2 hkl hGw2
   go_wp2_with fail
   go_region_with (go_at_call 181;refine H12.out.mono ?_;rintro e w3 ⟨ks2,c2,rfl,h3⟩;obtain⟨hN3,hkl2,hkw2,hkv2,hc2,hG3⟩:=h3;have HN3:=Lz hN3;have HKL2:=Lz hkl2;have HKW2:=Lz hkw2;have HKV2:=Lz hkv2;have HG3:=Lz hG3;clear hN3 hkl2 hkw2 hkv2 hG3)
   have hkl3:(ks++ks2).length=X.length:=by rw[List.length_append,HKL.out,HKL2.out];omega
   have hN4:NatB w3 bz (spl cs' 0 (ks++ks2)):=by
    have e:=spl_spl (zs:=cs') (ks:=ks) (ds:=ks2) (o:=0) HKL.out (by rw[HKL2.out];omega)
    rw[Nat.zero_add] at e
    rw[<-e];exact HN3.out
   have hc4:=hN4.cell X.length (by rw[zzk (by omega)];omega)
   have hf4:=hN4.free X.length
   have hN5:=write_row (v:=c2) hN4 hkl3 (by omega)
   rw[Nat.zero_add] at hN5
   generalize (spl cs' 0 (ks++ks2)).getD X.length 0=old at *
   have hl5:(spl cs' 0 (ks++ks2 ++ [c2])).length=cs'.length:=zzk (by simp[HKL.out,HKL2.out];omega)
   have hB5:Buf (w3.setCell ⟨bz,X.length,.none⟩ (wd c2)) (some ⟨bz,0,.none⟩) (spl cs' 0 (ks++ks2 ++ [c2])):=HBN.out.spl hN5 ((HKW.out.append HKW2.out).append (Words.one (by unfold B64;omega))) (by simp[HKL.out,HKL2.out];omega)
   have ht5:(spl cs' 0 (ks++ks2 ++ [c2])).take (X.length+1)=ks++ks2 ++ [c2]:=by
    have:=spl_zero (zs:=cs') (ks:=ks++ks2 ++ [c2]) (by simp[HKL.out,HKL2.out];omega)
    rwa [List.length_append,hkl3] at this
   have hv5:val (ks++ks2 ++ [c2])=val X+val Y:=by
    refine add_total (X:=X) (Y:=Y) (c:=c) ?_ ?_ HKL.out HKL2.out (by omega)
    . have:=HKV.out
      rw[List.drop_zero,List.drop_zero,HEX.out,HY1.out.take] at this
      exact this
    . have:=HKV2.out
      rw[HXD.out] at this
      rw[this,<-List.drop_take,HX1.out.take]
   obtain⟨hl6,hN6⟩:=Num.of_norm hB5 ht5 hv5 (by rw[hl5];omega)
   have HNM:=Lz (nat_norm (some ⟨bz,0,.none⟩) (X.length+1) _ _ hB5 (by rw[hl5];omega))
   rw[hl5] at HNM
   have HL5:=Lz hl5
   have HL6:=Lz hl6
   have HN6:=Lz hN6
   have HGF:=Lz (grown_or (zwz HG.out _) (p':=some ⟨bz,0,.none⟩) (zzx HGW2.out (zzx (zxj _ _) (zzx HG3.out (zzw w3 bz X.length (wd c2))))) (MakeP.or HO.out))
   have m1:(X.length:Int)<(X.length:Int)+1:=by omega
   clear hkl3 hN4 hN5 hl5 hB5 ht5 hv5 hl6 hN6
   go_wp2_with fail
   refine HNM.out.mono ?_
   rintro e w4 ⟨rfl,rfl⟩
   rw[HL5.out,HL6.out]
   go_wp2_with fail
   go_ret
   exact⟨some ⟨bz,0,.none⟩,_,by rw[HL5.out];rfl,HN6.out,HGF.out,MakeP.or HO.out⟩
 . have hXe:X.length=Y.length:=by omega
   have hc4:=HN2.out.cell X.length (by rw[zzk (by omega)];omega)
   have hf4:=HN2.out.free X.length
   have hN5:=write_row (v:=c) HN2.out (hkl.trans hXe.symm) (by omega)
   rw[Nat.zero_add] at hN5
   generalize (spl cs' 0 ks).getD X.length 0=old at *
   have hl5:(spl cs' 0 (ks ++ [c])).length=cs'.length:=zzk (by simp[HKL.out];omega)
   have hB5:Buf (w2.setCell ⟨bz,X.length,.none⟩ (wd c)) (some ⟨bz,0,.none⟩) (spl cs' 0 (ks ++ [c])):=HBN.out.spl hN5 (HKW.out.append (Words.one (by unfold B64;omega))) (by simp[HKL.out];omega)
   have ht5:(spl cs' 0 (ks ++ [c])).take (X.length+1)=ks ++ [c]:=by
    have:=spl_zero (zs:=cs') (ks:=ks ++ [c]) (by simp[HKL.out];omega)
    rwa [List.length_append,hkl,<-hXe] at this
   have hv5:val (ks ++ [c])=val X+val Y:=by
    have:=HKV.out
    rw[List.drop_zero,List.drop_zero,HEX.out,HY1.out.take,<-hXe,List.take_length] at this
    rw[zyk,hkl,<-hXe]
    exact this
   obtain⟨hl6,hN6⟩:=Num.of_norm hB5 ht5 hv5 (by rw[hl5];omega)
   have HNM:=Lz (nat_norm (some ⟨bz,0,.none⟩) (X.length+1) _ _ hB5 (by rw[hl5];omega))
   rw[hl5] at HNM
   have HL5:=Lz hl5
   have HL6:=Lz hl6
   have HN6:=Lz hN6
   have HGF:=Lz (grown_or (zwz HG.out _) (p':=some ⟨bz,0,.none⟩) (zzx HGW2.out (zzw w2 bz X.length (wd c))) (MakeP.or HO.out))
   have m1:(X.length:Int)<(X.length:Int)+1:=by omega
   clear hxd2 hx2 hkl hGw2 hN5 hl5 hB5 ht5 hv5 hl6 hN6 hXe
   go_wp2_with fail
   refine HNM.out.mono ?_
   rintro e w4 ⟨rfl,rfl⟩
   rw[HL5.out,HL6.out]
   go_wp2_with fail
   go_ret
   exact⟨some ⟨bz,0,.none⟩,_,by rw[HL5.out];rfl,HN6.out,HGF.out,MakeP.or HO.out⟩
theorem nat_add_none (p q q2:Option Addr) (l a:Nat) (cs ds es:List Nat) (w:World) (h:Buf w p cs) (hx:Num w q (dg a) ds) (hX:(dg a).length<=80000) :
 Calls Tryz.prog 160 #[.slice p l cs.length,.slice q (dg a).length ds.length,.slice q2 0 es.length] w (NumP p (dg a) w):=by
 have HB:=Lz h
 have HX:=Lz hx
 have HP:=Lz h.shape
 by_cases h0:a=0
 . subst h0
   have K:NumP p (dg 0) w (.returned (.slice p 0 cs.length)) w:=⟨p,cs,by rw[zyv];rfl,⟨h,by rw[zyv];rfl,by rw[zyv];exact Nat.zero_le _⟩,zyz _ _,.inl rfl⟩
   have HK:=Lz K
   rw[zyv] at *
   clear h hx K hX
   rcases HP.out with rfl|⟨b,rfl⟩
   all_goals
    go_enter Tryz.func160,Tryz.ntmps160
    go_wp2_with fail
    go_ret
    exact HK.out
 . have hl:0<(dg a).length:=Nat.pos_of_ne_zero λe=>h0 (dg_eq_nil.1 (List.eq_nil_of_length_eq_zero e))
   have HS:=Lz (nat_set p q l cs (dg a) ds w h hx hX)
   clear h hx h0
   go_enter Tryz.func160,Tryz.ntmps160
   go_wp2_with fail
   refine HS.out.mono ?_
   rintro e w1 ⟨p',cs',rfl,hn⟩
   have HN:=Lz hn
   clear hn
   go_wp2_with fail
   go_ret
   exact⟨p',cs',rfl,HN.out⟩
theorem nat_add (p q q2:Option Addr) (l a b:Nat) (cs ds es:List Nat) (w:World) (h:Buf w p cs) (hx:Num w q (dg a) ds) (hy:Num w q2 (dg b) es) (hX:(dg a).length<=80000) (hY:(dg b).length<=80000) :
 Calls Tryz.prog 160 #[.slice p l cs.length,.slice q (dg a).length ds.length,.slice q2 (dg b).length es.length] w (NumP p (dg (a+b)) w):=by
 have long:∀ (q q2:Option Addr) (a b:Nat) (ds es:List Nat),Num w q (dg a) ds->Num w q2 (dg b) es->(dg a).length<=80000->(dg b).length<=(dg a).length →
  Calls Tryz.prog 160 #[.slice p l cs.length,.slice q (dg a).length ds.length,.slice q2 (dg b).length es.length] w (NumP p (dg (a+b)) w):=by
  intro q q2 a b ds es hx hy hX hle
  by_cases h0:b=0
  . subst h0
    rw[zyv]
    exact nat_add_none p q q2 l a cs ds es w h hx hX
  . have hl:0<(dg b).length:=Nat.pos_of_ne_zero λe=>h0 (dg_eq_nil.1 (List.eq_nil_of_length_eq_zero e))
    have:=nat_add_long p q q2 l cs (dg a) ds (dg b) es w h hx hy hX hle hl
    rwa [val_dg,val_dg] at this
 by_cases hlt:(dg a).length<(dg b).length
 . have H0:=long q2 q b a es ds hy hx hY (by omega)
   rw[Nat.add_comm b a] at H0
   have H:=Lz H0
   clear H0
   clear long h hx hy
   go_enter Tryz.func160,Tryz.ntmps160
   go_wp2_with fail
   refine H.out.mono ?_
   rintro e w1 ⟨p',cs',rfl,hn⟩
   have HN:=Lz hn
   clear hn
   go_wp2_with fail
   go_ret
   exact⟨p',cs',rfl,HN.out⟩
 . exact long q q2 a b ds es hx hy hX (by omega)
end Go.Proofs.YtohhkjamddojmaaGreatDoor.Big
namespace Go.Proofs.YtohhkjamddojmaaGreatDoor.Big
open Go.RowKit
theorem sub_total {ks ks2 X Y:List Nat} {n m c c2:Nat} (h1:val ks+val Y=val (X.take n)+B64^n*c) (h2:val ks2+c=val (X.drop n)+B64^(m-n)*c2) (hk:ks.length=n) (hk2:ks2.length=m-n) (hm:n<=m) (hX:n<=X.length)
 (hw:Words (ks++ks2)) (hc:c2<=1) (hle:val Y<=val X):c2=0/\val (ks++ks2)=val X-val Y:=by
 have e:val X=val (X.take n)+B64^n*val (X.drop n):=by
  conv=>lhs;rw[<-List.take_append_drop n X]
  rw[val_append,List.length_take,Nat.min_eq_left hX]
 have hlt:=val_lt _ hw
 rw[List.length_append,hk,hk2,show n+(m-n)=m by omega] at hlt
 rw[val_append,hk] at *
 have e2:B64^m*c2=B64^n*(B64^(m-n)*c2):=by rw[<-Nat.mul_assoc,<-Nat.pow_add,show n+(m-n)=m by omega]
 have e3:B64^n*(val ks2+c)=B64^n*(val (X.drop n)+B64^(m-n)*c2):=by rw[h2]
 rw[Nat.mul_add,Nat.mul_add] at e3
 have hc0:c2=0:=by
  rcases Nat.le_one_iff_eq_zero_or_eq_one.1 hc with h|h
  . exact h
  . subst h;simp only[Nat.mul_one] at *;omega
 subst hc0
 rw[Nat.mul_zero] at *
 exact⟨rfl,by omega⟩
theorem nat_sub_long (p q q2:Option Addr) (l:Nat) (cs X ds Y es:List Nat) (w:World) (h:Buf w p cs) (hx:Num w q X ds) (hy:Num w q2 Y es) (hX:X.length<=80000) (hXY:Y.length<=X.length) (hY0:0<Y.length) (hle:val Y<=val X) :
 Calls Tryz.prog 161 #[.slice p l cs.length,.slice q X.length ds.length,.slice q2 Y.length es.length] w (NumP p (dg (val X-val Y)) w):=by
 have hxl:=hx.le
 have hyl:=hy.le
 have HLE:=Lz hle
 have HB:=Lz h
 have HX:=Lz hx
 have HY:=Lz hy
 clear h hx hy hle
 go_enter Tryz.func161,Tryz.ntmps161
 go_wp2_with fail
 refine(nat_make p l X.length cs w HB.out (by omega)).mono ?_
 rintro e w1 ⟨p',cs',rfl,hb,hn,hg,hor⟩
 obtain⟨bz,rfl,hzN⟩:=hb.at (by omega)
 have hx1:=HX.out.kept hg (λ_ _=>by simp)
 have hy1:=HY.out.kept hg (λ_ _=>by simp)
 obtain⟨bx,rfl,hxN,-⟩:=hx1.cell (by omega)
 obtain⟨b2,rfl,hyN,-⟩:=hy1.cell (by omega)
 have ex:ds.take Y.length=X.take Y.length:=by rw[<-hx1.take,List.take_take,Nat.min_eq_left hXY]
 have H10:=Lz (subVV bz 0 Y.length cs'.length bx 0 ds.length b2 0 es.length cs' ds es w1.drew hzN hxN hyN (by omega) (by omega) (by omega) hx1.buf.2.1 hy1.buf.2.1 (.inr (Nat.le_refl _)) (.inr (Nat.le_refl _)) (by omega))
 have HZN:=Lz hzN
 have HXN:=Lz hxN
 have HBN:=Lz hb
 have HX1:=Lz hx1
 have HY1:=Lz hy1
 have HG:=Lz hg
 have HO:=Lz hor
 have HEX:=Lz ex
 have hyn:(Y.length:Int)<=(cs'.length:Int):=by omega
 have hyn2:(Y.length:Int)<=(ds.length:Int):=by omega
 have hyn3:(Y.length:Int)<=(es.length:Int):=by omega
 clear hzN hxN hyN hb hx1 hy1 hg hor ex
 go_wp2_with fail
 go_region_with (go_at_call 182;refine H10.out.mono ?_;rintro e w2 ⟨ks,c,rfl,h2⟩;obtain⟨hN2,hkl,hkw,hkv,hc,hG2⟩:=h2;have HN2:=Lz hN2;have HKW:=Lz hkw;have HKV:=Lz hkv;have HG2:=Lz hG2;clear hN2 hkw hkv hG2)
 obtain⟨xs',hx2,hxw2,hxl2,hxd2⟩:=row_after HZN.out HXN.out (zzx (zxj _ _) HG2.out) HN2.out (by omega) HX1.out.buf.2.1 HKW.out
 rw[hkl] at hxd2
 have HXD:=Lz hxd2
 have HX2:=Lz hx2
 have HKL:=Lz hkl
 have hGw2:=zzx (zxj w1 (some bz)) HG2.out
 have HGW2:=Lz hGw2
 by_cases hgt:Y.length<X.length
 . have H12:=Lz (subVW bz bx Y.length (X.length-Y.length) (cs'.length-Y.length) (ds.length-Y.length) _ xs' c w2.drew HN2.out hx2 (by rw[zzk (by omega)];omega) (by omega) hxw2 (by unfold B64;omega) (by omega) (by omega) (by omega) (by omega))
   have s1:(Y.length:Int)<=(X.length:Int):=by omega
   have s2:(X.length:Int)<=(cs'.length:Int):=by omega
   have s3:(X.length:Int)<=(X.length:Int):=by omega
   have q1:¬cs'.length=Y.length:=by omega
   have q2:¬ds.length=Y.length:=by omega
   clear hxd2 hx2 hkl hGw2
   go_wp2_with fail
   go_region_with (go_at_call 183;refine H12.out.mono ?_;rintro e w3 ⟨ks2,c2,rfl,h3⟩;obtain⟨hN3,hkl2,hkw2,hkv2,hc2,hG3⟩:=h3;have HN3:=Lz hN3;have HKL2:=Lz hkl2;have HKW2:=Lz hkw2;have HKV2:=Lz hkv2;have HG3:=Lz hG3;clear hN3 hkl2 hkw2 hkv2 hG3)
   have hkl3:(ks++ks2).length=X.length:=by rw[List.length_append,HKL.out,HKL2.out];omega
   have hN5:NatB w3 bz (spl cs' 0 (ks++ks2)):=by
    have e:=spl_spl (zs:=cs') (ks:=ks) (ds:=ks2) (o:=0) HKL.out (by rw[HKL2.out];omega)
    rw[Nat.zero_add] at e
    rw[<-e];exact HN3.out
   have hl5:(spl cs' 0 (ks++ks2)).length=cs'.length:=zzk (by omega)
   have hB5:Buf w3 (some ⟨bz,0,.none⟩) (spl cs' 0 (ks++ks2)):=HBN.out.spl hN5 (HKW.out.append HKW2.out) (by omega)
   have ht5:(spl cs' 0 (ks++ks2)).take X.length=ks++ks2:=by
    have:=spl_zero (zs:=cs') (ks:=ks++ks2) (by omega)
    rwa [hkl3] at this
   obtain⟨hc0,hv5⟩:c2=0/\val (ks++ks2)=val X-val Y:=by
    refine sub_total (X:=X) (Y:=Y) (m:=X.length) (c:=c) ?_ ?_ HKL.out HKL2.out (by omega) (by omega) (HKW.out.append HKW2.out) hc2 HLE.out
    . have:=HKV.out
      rw[List.drop_zero,List.drop_zero,HEX.out,HY1.out.take] at this
      exact this
    . have:=HKV2.out
      rw[HXD.out] at this
      rw[this,<-List.drop_take,HX1.out.take]
   subst hc0
   obtain⟨hl6,hN6⟩:=Num.of_norm hB5 ht5 hv5 (by rw[hl5];omega)
   have HNM:=Lz (nat_norm (some ⟨bz,0,.none⟩) X.length _ _ hB5 (by rw[hl5];omega))
   rw[hl5] at HNM
   have HL5:=Lz hl5
   have HL6:=Lz hl6
   have HN6:=Lz hN6
   have HGF:=Lz (grown_or (zwz HG.out _) (p':=some ⟨bz,0,.none⟩) (zzx HGW2.out (zzx (zxj _ _) HG3.out)) (MakeP.or HO.out))
   clear hkl3 hN5 hl5 hB5 ht5 hv5 hl6 hN6
   go_wp2_with fail
   refine HNM.out.mono ?_
   rintro e w4 ⟨rfl,rfl⟩
   rw[HL5.out,HL6.out]
   go_wp2_with fail
   go_ret
   exact⟨some ⟨bz,0,.none⟩,_,by rw[HL5.out];rfl,HN6.out,HGF.out,MakeP.or HO.out⟩
 . have hXe:X.length=Y.length:=by omega
   have hl5:(spl cs' 0 ks).length=cs'.length:=zzk (by omega)
   have hB5:Buf w2 (some ⟨bz,0,.none⟩) (spl cs' 0 ks):=HBN.out.spl HN2.out HKW.out (by omega)
   have ht5:(spl cs' 0 ks).take X.length=ks:=by
    have:=spl_zero (zs:=cs') (ks:=ks) (by omega)
    rwa [hkl,<-hXe] at this
   obtain⟨hc0,hv5⟩:c=0/\val ks=val X-val Y:=by
    have:=sub_total (ks:=ks) (ks2:=[]) (X:=X) (Y:=Y) (n:=X.length) (m:=X.length) (c:=c) (c2:=c) (by
     have:=HKV.out
     rw[List.drop_zero,List.drop_zero,HEX.out,HY1.out.take,<-hXe,List.take_length] at this
     rw[List.take_length];exact this) (by simp[val]) (by omega) (by simp) (Nat.le_refl _) (Nat.le_refl _) (by simpa using HKW.out) hc HLE.out
    simpa using this
   subst hc0
   obtain⟨hl6,hN6⟩:=Num.of_norm hB5 ht5 hv5 (by rw[hl5];omega)
   have HNM:=Lz (nat_norm (some ⟨bz,0,.none⟩) X.length _ _ hB5 (by rw[hl5];omega))
   rw[hl5] at HNM
   have HL5:=Lz hl5
   have HL6:=Lz hl6
   have HN6:=Lz hN6
   have HGF:=Lz (grown_or (zwz HG.out _) (p':=some ⟨bz,0,.none⟩) HGW2.out (MakeP.or HO.out))
   clear hxd2 hx2 hkl hGw2 hl5 hB5 ht5 hv5 hl6 hN6 hXe
   go_wp2_with fail
   refine HNM.out.mono ?_
   rintro e w4 ⟨rfl,rfl⟩
   rw[HL5.out,HL6.out]
   go_wp2_with fail
   go_ret
   exact⟨some ⟨bz,0,.none⟩,_,by rw[HL5.out];rfl,HN6.out,HGF.out,MakeP.or HO.out⟩
theorem nat_sub_none (p q q2:Option Addr) (l a:Nat) (cs ds es:List Nat) (w:World) (h:Buf w p cs) (hx:Num w q (dg a) ds) (hX:(dg a).length<=80000) :
 Calls Tryz.prog 161 #[.slice p l cs.length,.slice q (dg a).length ds.length,.slice q2 0 es.length] w (NumP p (dg a) w):=by
 have HB:=Lz h
 have HX:=Lz hx
 have HP:=Lz h.shape
 by_cases h0:a=0
 . subst h0
   have K:NumP p (dg 0) w (.returned (.slice p 0 cs.length)) w:=⟨p,cs,by rw[zyv];rfl,⟨h,by rw[zyv];rfl,by rw[zyv];exact Nat.zero_le _⟩,zyz _ _,.inl rfl⟩
   have HK:=Lz K
   rw[zyv] at *
   clear h hx K hX
   rcases HP.out with rfl|⟨b,rfl⟩
   all_goals
    go_enter Tryz.func161,Tryz.ntmps161
    go_wp2_with fail
    go_ret
    exact HK.out
 . have hl:0<(dg a).length:=Nat.pos_of_ne_zero λe=>h0 (dg_eq_nil.1 (List.eq_nil_of_length_eq_zero e))
   have HS:=Lz (nat_set p q l cs (dg a) ds w h hx hX)
   clear h hx h0
   go_enter Tryz.func161,Tryz.ntmps161
   go_wp2_with fail
   refine HS.out.mono ?_
   rintro e w1 ⟨p',cs',rfl,hn⟩
   have HN:=Lz hn
   clear hn
   go_wp2_with fail
   go_ret
   exact⟨p',cs',rfl,HN.out⟩
theorem nat_sub (p q q2:Option Addr) (l a b:Nat) (cs ds es:List Nat) (w:World) (h:Buf w p cs) (hx:Num w q (dg a) ds) (hy:Num w q2 (dg b) es) (hX:(dg a).length<=80000) (hle:b<=a) :
 Calls Tryz.prog 161 #[.slice p l cs.length,.slice q (dg a).length ds.length,.slice q2 (dg b).length es.length] w (NumP p (dg (a-b)) w):=by
 by_cases h0:b=0
 . subst h0
   rw[zyv]
   exact nat_sub_none p q q2 l a cs ds es w h hx hX
 . have hl:0<(dg b).length:=Nat.pos_of_ne_zero λe=>h0 (dg_eq_nil.1 (List.eq_nil_of_length_eq_zero e))
   have:=nat_sub_long p q q2 l cs (dg a) ds (dg b) es w h hx hy hX (by rw[dg_length];exact Nat.lt_of_le_of_lt hle (dg_length.1 (Nat.le_refl _))) hl (by rw[val_dg,val_dg];exact hle)
   rwa [val_dg,val_dg] at this
end Go.Proofs.YtohhkjamddojmaaGreatDoor.Big
namespace Go.Proofs.YtohhkjamddojmaaGreatDoor.Big
open Go.RowKit
def sgn (a b:Nat):Int:=if a<b then -1 else if b<a then 1 else 0
theorem dg_lt {a b:Nat} (h:(dg a).length<(dg b).length):a<b:=by
 have h1:a<B64^(dg a).length:=dg_length.1 (Nat.le_refl _)
 have hb:b≠0:=λe=>by rw[e,zyv] at h;simp at h
 have h2:=dg_last hb
 exact Nat.lt_of_lt_of_le h1 (Nat.le_trans (Nat.pow_le_pow_right zxw (by omega)) h2)
theorem val_at {X:List Nat} {k:Nat} (h:k<X.length):val X=val (X.take k)+B64^k*(X.getD k 0+B64*val (X.drop (k+1))):=by
 conv=>lhs;rw[<-List.take_append_drop (k+1) X]
 rw[val_append,zwy _ _ h,zyk,List.length_append,List.length_take,Nat.min_eq_left (by omega),List.length_singleton,Nat.mul_add,Nat.pow_succ,Nat.mul_assoc]
 omega
theorem val_lt_at {X Y:List Nat} {k:Nat} (hw:Words X) (hl:X.length=Y.length) (h:k<X.length) (he:X.drop (k+1)=Y.drop (k+1)) (hlt:X.getD k 0<Y.getD k 0):val X<val Y:=by
 rw[val_at h,val_at (by omega:k<Y.length),he]
 have h1:=val_lt _ (hw.take k)
 rw[List.length_take,Nat.min_eq_left (by omega)] at h1
 have h2:B64^k*(X.getD k 0+B64*val (Y.drop (k+1))+1)<=B64^k*(Y.getD k 0+B64*val (Y.drop (k+1))):=Nat.mul_le_mul_left _ (by omega)
 rw[Nat.mul_add,Nat.mul_one] at h2
 omega
theorem drop_step {X Y:List Nat} {k:Nat} (hl:X.length=Y.length) (h:k<X.length) (he:X.drop (k+1)=Y.drop (k+1)) (hx:X.getD k 0=Y.getD k 0):X.drop k=Y.drop k:=by
 rw[List.drop_eq_getElem_cons h,List.drop_eq_getElem_cons (by omega:k<Y.length),he]
 have hx2:X[k]=Y[k]'(by omega):=by simpa [List.getD,h,(by omega:k<Y.length)] using hx
 rw[hx2]
theorem drewN_drewN (w:World) (a b:Nat):(w.drewN a).drewN b=w.drewN (a+b):=by simp[World.drewN,Nat.add_assoc]
def CmpP (r:Int) (w:World) (e:Ending) (w':World):Prop:=e=.returned (.int .i64 r)/\∃ n,w'=w.drewN n
theorem nat_cmp (q q2:Option Addr) (a b:Nat) (ds es:List Nat) (w:World) (hx:Num w q (dg a) ds) (hy:Num w q2 (dg b) es) (hX:(dg a).length<=80000) :
 Calls Tryz.prog 131 #[.slice q (dg a).length ds.length,.slice q2 (dg b).length es.length] w (CmpP (sgn a b) w):=by
 rcases Nat.lt_trichotomy (dg a).length (dg b).length with hl|hl|hl
 . have K:sgn a b=-1:=by unfold sgn;rw[if_pos (dg_lt hl)]
   rw[K]
   clear hx hy K
   go_enter Tryz.func131,Tryz.ntmps131
   go_wp2_with fail
   go_ret
   exact⟨rfl,0,rfl⟩
 . by_cases h0:(dg a).length=0
   . have ea:a=0:=dg_eq_nil.1 (List.eq_nil_of_length_eq_zero h0)
     have eb:b=0:=dg_eq_nil.1 (List.eq_nil_of_length_eq_zero (hl ▸ h0))
     subst ea eb
     have K:sgn 0 0=0:=rfl
     rw[K,zyv]
     clear hx hy K hl h0 hX
     go_enter Tryz.func131,Tryz.ntmps131
     go_wp2_with fail
     go_ret
     exact⟨rfl,0,rfl⟩
   . obtain⟨bx,rfl,hxN,hxc⟩:=hx.cell (by omega)
     obtain⟨by',rfl,hyN,hyc⟩:=hy.cell (by omega)
     have HXC:=Lz hxc
     have HYC:=Lz hyc
     have HL:=Lz hl
     have hlx:=hx.le
     have hly:=hy.le
     have hxl:(dg b).length=(dg a).length:=hl.symm
     have HWX:=Lz (dg_words a)
     have HWY:=Lz (dg_words b)
     have HVX:=Lz (val_dg a)
     have HVY:=Lz (val_dg b)
     clear hx hy hxc hyc hxN hyN hl
     rw[hxl]
     generalize dg a=X at *
     generalize dg b=Y at *
     clear hxl
     have hz:((X.length:Int)==0)=false:=by rw[beq_eq_false_iff_ne];omega
     go_enter Tryz.func131,Tryz.ntmps131
     go_wp2_with fail
     go_loopw [7] (λi wr=>∃ k:Nat,k<X.length/\i=.int .i64 k/\RowKit.Hid (X.drop (k+1)=Y.drop (k+1))/\∃ j,wr=w.drewN j) (λi _=>(intOf i).toNat)
     case atStart=>exact⟨X.length-1,by omega,by go_num,by rw[List.drop_eq_nil_of_le (by omega),List.drop_eq_nil_of_le (by have:=HL.out;omega)];exact rfl,0,rfl⟩
     case round=>
      obtain⟨k,hk,rfl,HD,j,rfl⟩:=hrel
      have hxk:=HXC.out k hk
      have hyk:=HYC.out k (by have:=HL.out;omega)
      have hkd:k<ds.length:=by omega
      have hke:k<es.length:=by have:=HL.out;omega
      have HLT:=Lz (val_lt_at HWX.out HL.out hk HD.out)
      have HGT:=Lz (val_lt_at HWY.out HL.out.symm (by have:=HL.out;omega) HD.out.symm)
      have HST:=Lz (drop_step HL.out hk HD.out)
      have HYK:k<Y.length:=by have:=HL.out;omega
      generalize X.getD k 0=x at *
      generalize Y.getD k 0=y at *
      rcases Nat.lt_trichotomy x y with hxy|hxy|hxy
      . have K:sgn a b=-1:=by unfold sgn;rw[if_pos];rw[<-HVX.out,<-HVY.out];exact HLT.out hxy
        have e1:((x:Int)==(y:Int))=false:=by rw[beq_eq_false_iff_ne];omega
        have e2:(x:Int)<(y:Int):=by omega
        have HK:=Lz K
        clear K hxy
        by_cases hk0:k=0
        . subst hk0
          go_wp2_with fail
          go_quiet (fail)
          go_wp2_with fail
          go_quiet (fail)
          go_wp2_with fail
          go_ret
          exact⟨by rw[HK.out];rfl,_,by rw[drewN_drewN,drewN_drewN]⟩
        . have ek:0<k:=by omega
          go_wp2_with fail
          go_quiet (fail)
          go_wp2_with fail
          go_quiet (fail)
          go_wp2_with fail
          go_ret
          exact⟨by rw[HK.out];rfl,_,by rw[drewN_drewN,drewN_drewN]⟩
      . have HE:=Lz (HST.out hxy)
        subst hxy
        have e2:¬(x:Int)<(x:Int):=by omega
        by_cases hk0:k=0
        . subst hk0
          have K:sgn a b=0:=by
           have h:a=b:=by
            rw[<-HVX.out,<-HVY.out]
            have:=HE.out
            rw[List.drop_zero,List.drop_zero] at this
            rw[this]
           subst h;unfold sgn;simp
          have HK:=Lz K
          clear K
          go_wp2_with fail
          go_quiet (fail)
          go_wp2_with fail
          go_quiet (fail)
          go_wp2_with fail
          go_quiet (fail)
          go_wp2_with fail
          go_ret
          exact⟨by rw[HK.out];rfl,_,by rw[drewN_drewN,drewN_drewN,drewN_drewN]⟩
        . have ek:0<k:=by omega
          go_wp2_with fail
          go_quiet (fail)
          go_wp2_with fail
          go_roundw
          case rel=>exact⟨k-1,by omega,by go_num,by rw[Nat.sub_add_cancel (by omega)];exact HE.out,_,rfl⟩
          case measure=>simp[intOf];omega
      . have K:sgn a b=1:=by
         have h:=HGT.out hxy
         rw[HVX.out,HVY.out] at h
         unfold sgn;rw[if_neg (by omega),if_pos h]
        have e1:((x:Int)==(y:Int))=false:=by rw[beq_eq_false_iff_ne];omega
        have e2:(y:Int)<(x:Int):=by omega
        have e3:¬(x:Int)<(y:Int):=by omega
        have HK:=Lz K
        clear K hxy
        by_cases hk0:k=0
        . subst hk0
          go_wp2_with fail
          go_quiet (fail)
          go_wp2_with fail
          go_quiet (fail)
          go_wp2_with fail
          go_quiet (fail)
          go_wp2_with fail
          go_ret
          exact⟨by rw[HK.out];rfl,_,by rw[drewN_drewN,drewN_drewN,drewN_drewN]⟩
        . have ek:0<k:=by omega
          go_wp2_with fail
          go_quiet (fail)
          go_wp2_with fail
          go_quiet (fail)
          go_wp2_with fail
          go_quiet (fail)
          go_wp2_with fail
          go_ret
          exact⟨by rw[HK.out];rfl,_,by rw[drewN_drewN,drewN_drewN,drewN_drewN]⟩
 . have K:sgn a b=1:=by unfold sgn;have:=dg_lt hl;rw[if_neg (by omega),if_pos this]
   rw[K]
   clear hx hy K
   go_enter Tryz.func131,Tryz.ntmps131
   go_wp2_with fail
   go_ret
   exact⟨rfl,0,rfl⟩
end Go.Proofs.YtohhkjamddojmaaGreatDoor.Big
namespace Go.Proofs.YtohhkjamddojmaaGreatDoor.Big
open Go.RowKit
theorem nat_mulAddWW (p q:Option Addr) (l a y r:Nat) (cs ds:List Nat) (w:World) (h:Buf w p cs) (hx:Num w q (dg a) ds) (hX:(dg a).length<=80000) (hy:y<B64) (hr:r<B64) :
 Calls Tryz.prog 205 #[.slice p l cs.length,.slice q (dg a).length ds.length,wd y,wd r] w (NumP p (dg (a*y+r)) w):=by
 by_cases h0:a=0\/y=0
 . have e:a*y+r=r:=by rcases h0 with rfl|rfl <;> simp
   have HS:=Lz (nat_setWord p l r cs w h hr)
   rw[e,dg_one hr]
   rcases h0 with rfl|rfl
   . rw[zyv] at *
     clear h hx hX hy hr e
     go_enter Tryz.func205,Tryz.ntmps205
     go_wp2_with fail
     refine HS.out.mono ?_
     rintro e w1 ⟨p',cs',rfl,hn⟩
     have HN:=Lz hn
     clear hn
     go_wp2_with fail
     go_ret
     exact⟨p',cs',rfl,HN.out⟩
   . generalize dg a=X at *
     clear h hx hy hr e
     go_enter Tryz.func205,Tryz.ntmps205
     go_wp2_with fail
     all_goals
      refine HS.out.mono ?_
      rintro e w1 ⟨p',cs',rfl,hn⟩
      have HN:=Lz hn
      clear hn
      go_wp2_with fail
      go_ret
      exact⟨p',cs',rfl,HN.out⟩
 . have ha:a≠0:=λe=>h0 (.inl e)
   have hy0:y≠0:=λe=>h0 (.inr e)
   have hl:0<(dg a).length:=Nat.pos_of_ne_zero λe=>ha (dg_eq_nil.1 (List.eq_nil_of_length_eq_zero e))
   have HV:=Lz (val_dg a)
   have hxl:=hx.le
   have HB:=Lz h
   have HX:=Lz hx
   have HY:=Lz hy
   have HR:=Lz hr
   have hz1:(((dg a).length:Int)==0)=false:=by rw[beq_eq_false_iff_ne];omega
   have hz2:((y:Int)==0)=false:=by rw[beq_eq_false_iff_ne];omega
   clear h hx h0 ha hy0 hy hr
   generalize dg a=X at *
   go_enter Tryz.func205,Tryz.ntmps205
   go_wp2_with fail
   refine(nat_make p l (X.length+1) cs w HB.out (by omega)).mono ?_
   rintro e w1 ⟨p',cs',rfl,hb,hn,hg,hor⟩
   obtain⟨bz,rfl,hzN⟩:=hb.at (by omega)
   have hx1:=HX.out.kept hg (λ_ _=>by simp)
   obtain⟨bx,rfl,hxN,-⟩:=hx1.cell (by omega)
   have H10:=Lz (mulAddVWW bz 0 X.length cs'.length bx 0 ds.length cs' ds y r w1 hzN hxN (by omega) (by omega) hx1.buf.2.1 HY.out HR.out (.inr (Nat.le_refl _)) (by omega))
   have HBN:=Lz hb
   have HX1:=Lz hx1
   have HG:=Lz hg
   have HO:=Lz hor
   have hyn:(X.length:Int)<=(cs'.length:Int):=by omega
   clear hzN hxN hb hx1 hg hor
   go_wp2_with fail
   refine H10.out.mono ?_
   rintro e w2 ⟨ks,c,rfl,hN2,hkl,hkw,hkv,hc,hG2⟩
   have hc4:=hN2.cell X.length (by rw[zzk (by omega)];omega)
   have hf4:=hN2.free X.length
   have hN5:=write_row (v:=c) hN2 hkl (by omega)
   rw[Nat.zero_add] at hN5
   generalize (spl cs' 0 ks).getD X.length 0=old at *
   have hl5:(spl cs' 0 (ks ++ [c])).length=cs'.length:=zzk (by simp;omega)
   have hB5:Buf (w2.setCell ⟨bz,X.length,.none⟩ (wd c)) (some ⟨bz,0,.none⟩) (spl cs' 0 (ks ++ [c])):=HBN.out.spl hN5 (hkw.append (Words.one hc)) (by simp;omega)
   have ht5:(spl cs' 0 (ks ++ [c])).take (X.length+1)=ks ++ [c]:=by
    have:=spl_zero (zs:=cs') (ks:=ks ++ [c]) (by simp;omega)
    rwa [List.length_append,hkl] at this
   have hv5:val (ks ++ [c])=a*y+r:=by
    rw[List.drop_zero,HX1.out.take,HV.out] at hkv
    rw[zyk,hkl]
    exact hkv
   obtain⟨hl6,hN6⟩:=Num.of_norm hB5 ht5 hv5 (by rw[hl5];omega)
   have HNM:=Lz (nat_norm (some ⟨bz,0,.none⟩) (X.length+1) _ _ hB5 (by rw[hl5];omega))
   rw[hl5] at HNM
   have HL5:=Lz hl5
   have HL6:=Lz hl6
   have HN6:=Lz hN6
   have HGF:=Lz (grown_or (zwz HG.out _) (p':=some ⟨bz,0,.none⟩) (zzx hG2 (zzw w2 bz X.length (wd c))) (MakeP.or HO.out))
   have m1:(X.length:Int)<(X.length:Int)+1:=by omega
   clear hkl hN5 hl5 hB5 ht5 hv5 hl6 hN6 hN2 hkw hkv hc hG2
   go_wp2_with fail
   refine HNM.out.mono ?_
   rintro e w4 ⟨rfl,rfl⟩
   rw[HL5.out,HL6.out]
   go_wp2_with fail
   go_ret
   exact⟨some ⟨bz,0,.none⟩,_,by rw[HL5.out];rfl,HN6.out,HGF.out,MakeP.or HO.out⟩
end Go.Proofs.YtohhkjamddojmaaGreatDoor.Big
