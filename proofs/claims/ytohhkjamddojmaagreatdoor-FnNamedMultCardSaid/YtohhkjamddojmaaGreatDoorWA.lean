/- The words of big numbers: sums, differences and products of one word, as the package reckons them. The memory of big numbers: rows of words, and the numbers that they are. Loops over rows of words: a row times a word, sums and differences of rows. -/
import Derived.Test.YtohhkjamddojmaaGreatDoorBits
import Derived.Test.YtohhkjamddojmaaGreatDoorRows
import Derived.WalkKit
import Derived.WalkSpells
import Derived.WalkLawsBesides
import Derived.Lib.Hide
import Derived.Shelf.Spec.BitsCarry
set_option maxHeartbeats 16000000
namespace Go.Proofs.YtohhkjamddojmaaGreatDoor.Big
open Go.RowKit
def B64:Nat:=18446744073709551616
theorem B64_eq:B64=18446744073709551616:=rfl
theorem zxw:0<B64:=by decide
abbrev wd (n:Nat):Value:=.int .u64 (n:Int)
theorem add64 (x y c:Nat) (hc:c<=1) (w:World):(callFunc 246 #[.int .u64 x,.int .u64 y,.int .u64 c]).run Tryz.prog w =
 .ok (.value (.tuple #[wd ((x+y+c)%B64),wd ((x+y+c)/B64)])) w:=by
 have hr:=run_add64 (P:=Tryz.prog) x y c (by omega) (by omega) (by omega) (by omega) w
 rw[run_callFunc_extern Tryz.func246 (by kernel_rfl) (by kernel_rfl) (by kernel_rfl) (e:=add64Entry) (by kernel_rfl),hr]
 simp only[Result.andThen,B64_eq]
 congr 5 <;> omega
theorem sub64 (x y b:Nat) (hb:b<=1) (w:World):(callFunc 248 #[.int .u64 x,.int .u64 y,.int .u64 b]).run Tryz.prog w =
 .ok (.value (.tuple #[wd ((x+B64-y-b)%B64),wd (if x<y+b then 1 else 0)])) w:=by
 have hr:=run_sub64 (P:=Tryz.prog) x y b hb w
 rw[run_callFunc_extern Tryz.func248 (by kernel_rfl) (by kernel_rfl) (by kernel_rfl) (e:=sub64Entry) (by kernel_rfl),hr]
 rfl
def AddP (x y c:Nat) (w:World) (e:Ending) (w':World):Prop:=
 ∃ s k:Nat,e=.returned (.tuple #[wd s,wd k])/\w=w'/\s+k*B64=x+y+c/\s<B64/\k<=1
theorem bAdd (x y c:Nat) (hx:x<B64) (hy:y<B64) (hc:c<=1) (w:World):Calls Tryz.prog 220 #[wd x,wd y,wd c] w (AddP x y c w):=by
 have h:=add64 x y c hc
 have key:AddP x y c w (.returned (.tuple #[wd ((x+y+c)%B64),wd ((x+y+c)/B64)])) w:=
  ⟨_,_,rfl,rfl,by have:=Nat.div_add_mod (x+y+c) B64;rw[Nat.mul_comm] at this;omega,Nat.mod_lt _ zxw,by rw[Nat.div_le_iff_le_mul_add_pred zxw];omega⟩
 generalize (x+y+c)%B64=s at *
 generalize (x+y+c)/B64=k at *
 have K:=Lz key
 clear key hx hy hc
 go_enter Tryz.func220,Tryz.ntmps220
 go_wp2
 go_ret2
 exact K.out
def SubP (x y b:Nat) (w:World) (e:Ending) (w':World):Prop:=
 ∃ s k:Nat,e=.returned (.tuple #[wd s,wd k])/\w=w'/\s+y+b=x+k*B64/\s<B64/\k<=1
theorem sub_key (x y b:Nat) (hx:x<B64) (hy:y<B64) (hb:b<=1):(x+B64-y-b)%B64+y+b=x+(if x<y+b then 1 else 0)*B64:=by
 unfold B64 at *
 split <;> omega
theorem bSub (x y b:Nat) (hx:x<B64) (hy:y<B64) (hb:b<=1) (w:World):Calls Tryz.prog 222 #[wd x,wd y,wd b] w (SubP x y b w):=by
 have h:=sub64 x y b hb
 have key:SubP x y b w (.returned (.tuple #[wd ((x+B64-y-b)%B64),wd (if x<y+b then 1 else 0)])) w:=
  ⟨_,_,rfl,rfl,sub_key x y b hx hy hb,Nat.mod_lt _ zxw,by split <;> omega⟩
 generalize (x+B64-y-b)%B64=s at *
 generalize (if x<y+b then 1 else 0)=k at *
 have K:=Lz key
 clear key hx hy hb
 go_enter Tryz.func222,Tryz.ntmps222
 go_wp2
 go_ret2
 exact K.out
def MulP (x y:Nat) (w:World) (e:Ending) (w':World):Prop:=
 ∃ h l:Nat,e=.returned (.tuple #[wd h,wd l])/\w=w'/\l+h*B64=x*y/\l<B64/\h<B64
theorem bMul (x y:Nat) (hx:x<B64) (hy:y<B64) (w:World):Calls Tryz.prog 225 #[wd x,wd y] w (MulP x y w):=by
 refine(Tryz.bits_Mul x y hx hy w).mono ?_
 rintro e w' ⟨rfl,rfl⟩
 refine⟨x*y/B64,x*y%B64,rfl,rfl,?_,Nat.mod_lt _ zxw,?_⟩
 . have:=Nat.div_add_mod (x*y) B64
   rw[Nat.mul_comm (x*y/B64)];omega
 . refine Nat.div_lt_of_lt_mul ?_
   exact Nat.mul_lt_mul_of_lt_of_lt hx hy
theorem mulWW (x y:Nat) (hx:x<B64) (hy:y<B64) (w:World):Calls Tryz.prog 199 #[wd x,wd y] w (MulP x y w):=by
 go_enter Tryz.func199,Tryz.ntmps199
 go_wp2_with fail
 refine(bMul x y hx hy w).mono ?_
 rintro e w' ⟨h,l,rfl,rfl,hs,h1,h2⟩
 have K:=Lz (show MulP x y w (.returned (.tuple #[wd h,wd l])) w from⟨h,l,rfl,rfl,hs,h1,h2⟩)
 clear hs h1 h2
 go_wp2
 go_ret2
 exact K.out
def MulAddP (x y c:Nat) (w:World) (e:Ending) (w':World):Prop:=
 ∃ h l:Nat,e=.returned (.tuple #[wd h,wd l])/\w=w'/\l+h*B64=x*y+c/\l<B64/\h<B64
theorem muladd_key (x y c h l s k:Nat) (hx:x<B64) (hy:y<B64) (hc:c<B64) (h1:l+h*B64=x*y) (h2:s+k*B64=l+c+0) (_hs:s<B64) (_hk:k<=1) :
 s+(h+k)*B64=x*y+c/\h+k<B64:=by
 have e:s+(h+k)*B64=x*y+c:=by rw[Nat.add_mul];omega
 refine⟨e,?_⟩
 have e2:x*y<=(B64-1)*(B64-1):=Nat.mul_le_mul (by omega) (by omega)
 refine Classical.byContradiction λhn=>?_
 have e3:B64*B64<=(h+k)*B64:=Nat.mul_le_mul_right _ (by omega)
 have e4:(B64-1)*(B64-1)+c<B64*B64:=by unfold B64 at *;omega
 omega
theorem mulAddWWW (x y c:Nat) (hx:x<B64) (hy:y<B64) (hc:c<B64) (w:World):Calls Tryz.prog 267 #[wd x,wd y,wd c] w (MulAddP x y c w):=by
 have HX:=Lz hx
 have HY:=Lz hy
 have HC:=Lz hc
 clear hx hy hc
 go_enter Tryz.func267,Tryz.ntmps267
 go_wp2_with fail
 refine(bMul x y HX.out HY.out w).mono ?_
 rintro e w' ⟨h,l,rfl,rfl,hm,h1,h2⟩
 have HM:=Lz hm
 have H1:=Lz h1
 have H2:=Lz h2
 clear hm h1 h2
 go_wp2_with fail
 refine(bAdd l c 0 H1.out HC.out (by omega) w).mono ?_
 rintro e w' ⟨s,k,rfl,rfl,ha,h3,h4⟩
 obtain⟨g1,g2⟩:=muladd_key x y c h l s k HX.out HY.out HC.out HM.out ha h3 h4
 have K:=Lz (show MulAddP x y c w (.returned (.tuple #[.int .u64 ((h:Int)+k),wd s])) w from⟨h+k,s,by simp[wd],rfl,g1,h3,g2⟩)
 have g2':(h:Int)+k<18446744073709551616:=by unfold B64 at g2;omega
 clear ha h3 h4 g1 g2
 go_wp2
 go_ret2
 exact K.out
/-! ### the same, each result under a name of its own (for statements whose order is open) -/
def addS (x y c:Nat):Nat:=(x+y+c)%B64
def addC (x y c:Nat):Nat:=(x+y+c)/B64
def subS (x y b:Nat):Nat:=(x+B64-y-b)%B64
def subC (x y b:Nat):Nat:=if x<y+b then 1 else 0
def mulL (x y c:Nat):Nat:=(x*y+c)%B64
def mulH (x y c:Nat):Nat:=(x*y+c)/B64
theorem two_words {l h n:Nat} (e:l+h*B64=n) (hl:l<B64):l=n%B64/\h=n/B64:=by
 subst e
 exact⟨by rw[Nat.add_mul_mod_self_right,Nat.mod_eq_of_lt hl],by rw[Nat.add_mul_div_right _ _ zxw,Nat.div_eq_of_lt hl,Nat.zero_add]⟩
theorem bAddF (x y c:Nat) (hx:x<B64) (hy:y<B64) (hc:c<=1) (w:World) :
 Calls Tryz.prog 220 #[wd x,wd y,wd c] w λe w'=>e=.returned (.tuple #[wd (addS x y c),wd (addC x y c)])/\w'=w:=by
 refine(bAdd x y c hx hy hc w).mono ?_
 rintro e w' ⟨s,k,rfl,rfl,h,hs,_⟩
 obtain⟨rfl,rfl⟩:=two_words h hs
 exact⟨rfl,rfl⟩
theorem add_facts {x y c:Nat} (hx:x<B64) (hy:y<B64) (hc:c<=1):addS x y c+addC x y c*B64=x+y+c/\addS x y c<B64/\addC x y c<=1:=by
 refine⟨?_,Nat.mod_lt _ zxw,?_⟩
 . have:=Nat.div_add_mod (x+y+c) B64
   rw[Nat.mul_comm] at this
   unfold addS addC;omega
 . unfold addC;rw[Nat.div_le_iff_le_mul_add_pred zxw];omega
theorem bSubF (x y c:Nat) (hx:x<B64) (hy:y<B64) (hc:c<=1) (w:World) :
 Calls Tryz.prog 222 #[wd x,wd y,wd c] w λe w'=>e=.returned (.tuple #[wd (subS x y c),wd (subC x y c)])/\w'=w:=by
 refine(bSub x y c hx hy hc w).mono ?_
 rintro e w' ⟨s,k,rfl,rfl,h,hs,hk⟩
 have h0:=sub_key x y c hx hy hc
 have e1:k=subC x y c:=by
  unfold subC
  split
  . have:k≠0:=by rintro rfl;omega
    omega
  . have:k≠1:=by rintro rfl;omega
    omega
 have e2:s=subS x y c:=by
  rw[e1] at h
  unfold subC at h
  unfold subS
  omega
 rw[<-e1,<-e2]
 exact⟨rfl,rfl⟩
theorem sub_facts {x y c:Nat} (hx:x<B64) (hy:y<B64) (hc:c<=1):subS x y c+y+c=x+subC x y c*B64/\subS x y c<B64/\subC x y c<=1:=
 ⟨sub_key x y c hx hy hc,Nat.mod_lt _ zxw,by unfold subC;split <;> omega⟩
theorem mulAddF (x y c:Nat) (hx:x<B64) (hy:y<B64) (hc:c<B64) (w:World) :
 Calls Tryz.prog 267 #[wd x,wd y,wd c] w λe w'=>e=.returned (.tuple #[wd (mulH x y c),wd (mulL x y c)])/\w'=w:=by
 refine(mulAddWWW x y c hx hy hc w).mono ?_
 rintro e w' ⟨h,l,rfl,rfl,e,hl,_⟩
 obtain⟨rfl,rfl⟩:=two_words e hl
 exact⟨rfl,rfl⟩
theorem mul_facts {x y c:Nat} (hx:x<B64) (hy:y<B64) (hc:c<B64):mulL x y c+mulH x y c*B64=x*y+c/\mulL x y c<B64/\mulH x y c<B64:=by
 have e:mulL x y c+mulH x y c*B64=x*y+c:=by
  have:=Nat.div_add_mod (x*y+c) B64
  rw[Nat.mul_comm] at this
  unfold mulL mulH;omega
 refine⟨e,Nat.mod_lt _ zxw,?_⟩
 have e2:x*y<=(B64-1)*(B64-1):=Nat.mul_le_mul (by omega) (by omega)
 refine Classical.byContradiction λhn=>?_
 have e3:B64*B64<=mulH x y c*B64:=Nat.mul_le_mul_right _ (by omega)
 have e4:(B64-1)*(B64-1)+c<B64*B64:=by unfold B64 at *;omega
 omega
end Go.Proofs.YtohhkjamddojmaaGreatDoor.Big
namespace Go.Proofs.YtohhkjamddojmaaGreatDoor.Big
open Go.RowKit
/-! ### lists of words -/
def val:List Nat->Nat
 | []=>0
 | x :: xs=>x+B64*val xs
def Words (xs:List Nat):Prop:=∀ x∈xs,x<B64
theorem val_nil:val []=0:=rfl
theorem val_append:∀ a b,val (a++b)=val a+B64^a.length*val b
 | [],b=>by simp[val]
 | x :: a,b=>by
  show x+B64*val (a++b)=x+B64*val a+B64^(a.length+1)*val b
  rw[val_append a b,Nat.mul_add,Nat.pow_succ]
  have:B64^a.length*B64*val b=B64*(B64^a.length*val b):=by rw[Nat.mul_comm (B64^a.length) B64,Nat.mul_assoc]
  omega
theorem val_one (x:Nat):val [x]=x:=by simp[val]
theorem zyk (a:List Nat) (x:Nat):val (a ++ [x])=val a+B64^a.length*x:=by rw[val_append,val_one]
theorem val_lt:∀ a,Words a->val a<B64^a.length
 | [],_=>by simp[val]
 | x :: a,h=>by
  have ih:=val_lt a (λy hy=>h y (List.mem_cons_of_mem _ hy))
  have hx:=h x (List.mem_cons_self ..)
  show x+B64*val a<B64^(a.length+1)
  have e:B64^(a.length+1)=B64*B64^a.length:=by rw[Nat.pow_succ,Nat.mul_comm]
  have:B64*(val a+1)<=B64*B64^a.length:=Nat.mul_le_mul_left _ ih
  rw[Nat.mul_add,Nat.mul_one] at this
  omega
theorem Words.append {a b:List Nat} (h:Words a) (h':Words b):Words (a++b):=λx hx=>(List.mem_append.1 hx).elim (h x) (h' x)
theorem Words.one {x:Nat} (h:x<B64):Words [x]:=λy hy=>by rw[List.mem_singleton.1 hy];exact h
theorem Words.take {a:List Nat} (h:Words a) (n:Nat):Words (a.take n):=λx hx=>h x (List.mem_of_mem_take hx)
theorem Words.drop {a:List Nat} (h:Words a) (n:Nat):Words (a.drop n):=λx hx=>h x (List.mem_of_mem_drop hx)
theorem Words.getD {a:List Nat} (h:Words a) (i:Nat):a.getD i 0<B64:=by
 rw[List.getD]
 by_cases hi:i<a.length
 . rw[List.getElem?_eq_getElem hi];exact h _ (List.getElem_mem hi)
 . rw[List.getElem?_eq_none (by omega)];exact zxw
theorem Words.nil:Words []:=λx hx=>by cases hx
theorem zwy (xs:List Nat) (k:Nat) (h:k<xs.length):xs.take (k+1)=xs.take k ++ [xs.getD k 0]:=by
 rw[List.take_succ_eq_append_getElem h];simp[List.getD,h]
def spl (zs:List Nat) (o:Nat) (ks:List Nat):List Nat:=zs.take o++ks++zs.drop (o+ks.length)
theorem spl_nil (zs:List Nat) (o:Nat):spl zs o []=zs:=by simp[spl]
theorem zzk {zs ks:List Nat} {o:Nat} (h:o+ks.length<=zs.length):(spl zs o ks).length=zs.length:=by simp[spl];omega
theorem spl_set {zs ks:List Nat} {o v:Nat} (h:o+ks.length<zs.length):(spl zs o ks).set (o+ks.length) v=spl zs o (ks ++ [v]):=by
 unfold spl
 have e:(zs.take o++ks).length=o+ks.length:=by simp;omega
 rw[List.set_append_right _ _ (by omega),e,Nat.sub_self]
 rw[List.drop_eq_getElem_cons h]
 simp[Nat.add_assoc]
theorem spl_getD {zs ks:List Nat} {o i:Nat} (h:o+ks.length<=i) (h2:o<=zs.length):(spl zs o ks).getD i 0=zs.getD i 0:=by
 unfold spl
 have e:(zs.take o++ks).length=o+ks.length:=by simp;omega
 rw[List.getD,List.getElem?_append_right (by omega),e,List.getElem?_drop,List.getD]
 congr 2;omega
theorem spl_take {zs ks:List Nat} {o:Nat} (h:o+ks.length<=zs.length):(spl zs o ks).take (o+ks.length)=zs.take o++ks:=by
 unfold spl
 have e:(zs.take o++ks).length=o+ks.length:=by simp;omega
 rw[<-e,List.take_left]
theorem Words.spl {zs ks:List Nat} {o:Nat} (h:Words zs) (h':Words ks):Words (spl zs o ks):=((h.take _).append h').append (h.drop _)
theorem spl_zero {zs ks:List Nat} (h:ks.length<=zs.length):(spl zs 0 ks).take ks.length=ks:=by
 have:=spl_take (zs:=zs) (ks:=ks) (o:=0) (by omega);simpa using this
/-! ### rows of words in memory -/
def wds (cs:List Nat):Array Value:=(cs.map wd).toArray
theorem wds_size (cs:List Nat):(wds cs).size=cs.length:=by simp[wds]
def NatB (w:World) (b:Nat) (cs:List Nat):Prop:=w.heap[b]? = some (.cells (wds cs) 199 (0,0))
theorem NatB.lt {w:World} {b:Nat} {cs:List Nat} (h:NatB w b cs):b<w.heap.size:=(Array.getElem?_eq_some_iff.1 h).1
theorem NatB.cell {w:World} {b:Nat} {cs:List Nat} (h:NatB w b cs) (i:Nat) (hi:i<cs.length):w.cell? ⟨b,i,none⟩=some (wd (cs.getD i 0)):=by
 unfold NatB at h
 simp only[World.cell?,h]
 simp[wds,hi,List.getD]
theorem NatB.free {w:World} {b:Nat} {cs:List Nat} (h:NatB w b cs) (i:Nat):w.frozen? ⟨b,i,none⟩=false:=by
 unfold NatB at h
 simp[World.frozen?,h]
theorem NatB.set {w:World} {b:Nat} {cs:List Nat} (h:NatB w b cs) (i v:Nat):NatB (w.setCell ⟨b,i,none⟩ (wd v)) b (cs.set i v):=by
 unfold NatB at *
 simp only[World.setCell,Array.getElem?_modify,if_true]
 rw[h]
 simp[wds]
theorem NatB.drewN {w:World} {b:Nat} {cs:List Nat} (h:NatB w b cs) (n:Nat):NatB (w.drewN n) b cs:=h
theorem NatB.kept {w w':World} {b:Nat} {cs:List Nat} {row:Option Nat} (h:NatB w b cs) (hg:w.grownBy w' row) (hne:some b≠row):NatB w' b cs:=by
 unfold NatB at *
 rw[hg.block b (Array.getElem?_eq_some_iff.1 h).1 hne,h]
theorem NatB.inj {w:World} {b:Nat} {cs ds:List Nat} (h:NatB w b cs) (h':NatB w b ds):cs=ds:=by
 unfold NatB at *
 rw[h] at h'
 simp only[Option.some.injEq,Obj.cells.injEq,wds,and_true] at h'
 have:=congrArg Array.toList h'
 simp only[] at this
 exact List.map_inj_right (λx y e=>by simp[wd] at e;omega) |>.1 this
theorem zyz (w:World) (row:Option Nat):w.grownBy w row:=⟨rfl,rfl,rfl,Nat.le_refl _,λ_ _ _=>rfl⟩
theorem zzx {a b c:World} {row:Option Nat} (h:a.grownBy b row) (k:b.grownBy c row):a.grownBy c row:=
 ⟨k.os.trans h.os,k.tape.trans h.tape,k.output.trans h.output,Nat.le_trans h.size k.size,λi hi hr=>(k.block i (Nat.lt_of_lt_of_le hi h.size) hr).trans (h.block i hi hr)⟩
theorem zzw (w:World) (b i:Nat) (v:Value):w.grownBy (w.setCell ⟨b,i,none⟩ v) (some b):=
 ⟨rfl,rfl,rfl,by simp[World.setCell],λk _ hk=>Below.heap_setCell w ⟨b,i,none⟩ v k (λe=>hk (by rw[e]))⟩
theorem zzy (w:World) (o:Obj) (row:Option Nat):w.grownBy (w.alloc o) row:=World.grownBy_alloc w o row
theorem zzz (w:World) (n:Nat) (row:Option Nat):w.grownBy (w.drewN n) row:=⟨rfl,rfl,rfl,Nat.le_refl _,λ_ _ _=>rfl⟩
theorem zwz {w w':World} (h:w.grownBy w' Option.none) (row:Option Nat):w.grownBy w' row:=⟨h.os,h.tape,h.output,h.size,λk hk _=>h.block k hk (by simp)⟩
end Go.Proofs.YtohhkjamddojmaaGreatDoor.Big
namespace Go.Proofs.YtohhkjamddojmaaGreatDoor.Big
open Go.RowKit
def MulVP (bz oz n:Nat) (zs X:List Nat) (y r:Nat) (w:World) (e:Ending) (w':World):Prop:=
 ∃ ks c,e=.returned (wd c)/\NatB w' bz (spl zs oz ks)/\ks.length=n/\Words ks/\val ks+B64^n*c=val X*y+r/\c<B64/\w.grownBy w' (some bz)
theorem mulv_step {ks X:List Nat} {k y r c h l x:Nat} (hk:ks.length=k) (h1:val ks+B64^k*c=val X*y+r) (hX:X.length=k) (h2:l+h*B64=x*y+c) :
 val (ks ++ [l])+B64^(k+1)*h=val (X ++ [x])*y+r:=by
 rw[zyk,zyk,hk,hX,Nat.pow_succ,Nat.add_mul]
 have e:B64^k*(l+h*B64)=B64^k*(x*y+c):=by rw[h2]
 rw[Nat.mul_add,Nat.mul_add] at e
 have e2:B64^k*(h*B64)=B64^k*B64*h:=by rw[Nat.mul_comm h,Nat.mul_assoc]
 have e3:B64^k*(x*y)=B64^k*x*y:=by rw[Nat.mul_assoc]
 omega
theorem drop_take_snoc {xs:List Nat} {o k:Nat} (h:o+k<xs.length):(xs.drop o).take (k+1)=(xs.drop o).take k ++ [xs.getD (o+k) 0]:=by
 rw[zwy _ _ (by simp;omega)]
 simp[List.getD]
theorem read_cell {w wr:World} {bz bx oz ox k:Nat} {zs xs ks:List Nat} (hz:NatB w bz zs) (hx:NatB w bx xs) (hg:w.grownBy wr (some bz)) (hb:NatB wr bz (spl zs oz ks)) (hk:ks.length=k)
 (hzn:oz+k<=zs.length) (hxn:ox+k<xs.length) (hs:bx≠bz\/oz<=ox):wr.cell? ⟨bx,ox+k,none⟩=some (wd (xs.getD (ox+k) 0)):=by
 by_cases hne:bx=bz
 . subst hne
   have hxz:=hx.inj hz
   subst hxz
   have hsz:(spl xs oz ks).length=xs.length:=zzk (by omega)
   have:=hb.cell (ox+k) (by omega)
   rw[spl_getD (by omega) (by omega)] at this
   exact this
 . exact(hx.kept hg (by simp[hne])).cell _ (by omega)
theorem write_row {w:World} {b o k v:Nat} {zs ks:List Nat} (hb:NatB w b (spl zs o ks)) (hk:ks.length=k) (h:o+k<zs.length):NatB (w.setCell ⟨b,o+k,none⟩ (wd v)) b (spl zs o (ks ++ [v])):=by
 have:=hb.set (o+k) v
 subst hk
 rwa [spl_set h] at this
structure MulVInv (bz oz:Nat) (zs X:List Nat) (y r k:Nat) (ks:List Nat) (c:Nat) (w wr:World):Prop where
 row:NatB wr bz (spl zs oz ks)
 len:ks.length=k
 words:Words ks
 eq:val ks+B64^k*c=val (X.take k)*y+r
 carry:c<B64
 grown:w.grownBy wr (some bz)
theorem mulAddVWW_g (bz oz n cz bx ox cx:Nat) (zs xs:List Nat) (y r:Nat) (w:World) (hz:NatB w bz zs) (hx:NatB w bx xs) (hzn:oz+n<=zs.length) (hxn:ox+n<=xs.length)
 (hwx:Words xs) (hy:y<B64) (hr:r<B64) (hs:bx≠bz\/oz<=ox) (hn:n<=1000000) :
 Calls Tryz.prog 254 #[.slice (some ⟨bz,oz,none⟩) n cz,.slice (some ⟨bx,ox,none⟩) n cx,wd y,wd r] w (MulVP bz oz n zs ((xs.drop ox).take n) y r w):=by
 have HZ:=Lz hz
 have HX:=Lz hx
 have HWX:=Lz hwx
 have HY:=Lz hy
 have HR:=Lz hr
 have HS:=Lz hs
 clear hz hx hwx hy hr hs
 go_enter Tryz.func254,Tryz.ntmps254
 go_wp2
 go_loopw [8,19] (λcv i wr=>∃ k:Nat,k<=n/\i=.int .i64 k/\∃ ks c,cv=wd c/\MulVInv bz oz zs (xs.drop ox) y r k ks c w wr)
  (λ_ i _=>n-(intOf i).toNat)
 case atStart=>exact⟨0,Nat.zero_le _,rfl,[],r,rfl,by rw[spl_nil];exact HZ.out,rfl,Words.nil,by simp[val],HR.out,zyz _ _⟩
 case round=>
  obtain⟨k,hk,rfl,ks,c,rfl,S⟩:=hrel
  by_cases hlt:k<n
  . have hxc:=read_cell HZ.out HX.out S.grown S.row S.len (by omega) (by omega) HS.out
    have hzc:=S.row.cell (oz+k) (by rw[zzk (by have:=S.len;omega)];omega)
    have hzf:=S.row.free (oz+k)
    have HXW:=Lz (HWX.out.getD (ox+k))
    generalize hxv:xs.getD (ox+k) 0=x at *
    generalize (spl zs oz ks).getD (oz+k) 0=zold at *
    have HXV:=Lz hxv
    clear hxv
    go_wp2_with fail
    refine(mulAddWWW x y c HXW.out HY.out (S.carry) wr).mono ?_
    rintro e w' ⟨h,l,rfl,rfl,hm,hl2,hh⟩
    have HM:=Lz hm
    have HL2:=Lz hl2
    have HH:=Lz hh
    clear hm hl2 hh
    go_wp2_with fail
    go_roundw
    case rel=>
     refine⟨k+1,by omega,by go_num,ks ++ [l],h,rfl,write_row S.row S.len (by omega),by simp[S.len],S.words.append (Words.one HL2.out),?_,HH.out,zzx S.grown (zzw _ _ _ _)⟩
     rw[drop_take_snoc (by omega),HXV.out]
     exact mulv_step S.len S.eq (by simp;omega) HM.out
    case measure=>simp[intOf];omega
  . go_wp2_with fail
    go_ret
    obtain rfl:k=n:=by omega
    exact⟨ks,c,rfl,S.row,S.len,S.words,S.eq,S.carry,S.grown⟩
end Go.Proofs.YtohhkjamddojmaaGreatDoor.Big
