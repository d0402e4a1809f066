/- Numbers in base 65536: the words of the specification's great numbers. Sums, differences, products of numbers in base 65536, digit by digit. The rest of a division in base 65536: the plain law. The specification's great numbers in memory: without zeros at the end; compared. The specification's great numbers compared. -/
import Derived.Test.YtohhkjamddojmaaGreatDoorWA
import Derived.Test.YtohhkjamddojmaaGreatDoorNB
import Derived.Test.YtohhkjamddojmaaGreatDoorWG
namespace Go.Proofs.YtohhkjamddojmaaGreatDoor.Big
def B16:Nat:=65536
theorem B16_pos:0<B16:=by decide
def bval:List Nat->Nat
 | []=>0
 | x :: xs=>x+B16*bval xs
def Wb (xs:List Nat):Prop:=∀ x∈xs,x<B16
theorem bval_nil:bval []=0:=rfl
theorem bval_append:∀ a b,bval (a++b)=bval a+B16^a.length*bval b
 | [],b=>by simp[bval]
 | x :: a,b=>by
  show x+B16*bval (a++b)=x+B16*bval a+B16^(a.length+1)*bval b
  rw[bval_append a b,Nat.mul_add,Nat.pow_succ]
  have:B16^a.length*B16*bval b=B16*(B16^a.length*bval b):=by rw[Nat.mul_comm (B16^a.length) B16,Nat.mul_assoc]
  omega
theorem bval_one (x:Nat):bval [x]=x:=by simp[bval]
theorem bval_snoc (a:List Nat) (x:Nat):bval (a ++ [x])=bval a+B16^a.length*x:=by rw[bval_append,bval_one]
theorem bval_lt:∀ a,Wb a->bval a<B16^a.length
 | [],_=>by simp[bval]
 | x :: a,h=>by
  have ih:=bval_lt a (λy hy=>h y (List.mem_cons_of_mem _ hy))
  have hx:=h x (List.mem_cons_self ..)
  show x+B16*bval a<B16^(a.length+1)
  have e:B16^(a.length+1)=B16*B16^a.length:=by rw[Nat.pow_succ,Nat.mul_comm]
  have:B16*(bval a+1)<=B16*B16^a.length:=Nat.mul_le_mul_left _ ih
  rw[Nat.mul_add,Nat.mul_one] at this
  omega
theorem Wb.append {a b:List Nat} (h:Wb a) (h':Wb b):Wb (a++b):=λx hx=>(List.mem_append.1 hx).elim (h x) (h' x)
theorem Wb.one {x:Nat} (h:x<B16):Wb [x]:=λy hy=>by rw[List.mem_singleton.1 hy];exact h
theorem Wb.take {a:List Nat} (h:Wb a) (n:Nat):Wb (a.take n):=λx hx=>h x (List.mem_of_mem_take hx)
theorem Wb.drop {a:List Nat} (h:Wb a) (n:Nat):Wb (a.drop n):=λx hx=>h x (List.mem_of_mem_drop hx)
theorem Wb.getD {a:List Nat} (h:Wb a) (i:Nat):a.getD i 0<B16:=by
 rw[List.getD]
 by_cases hi:i<a.length
 . rw[List.getElem?_eq_getElem hi];exact h _ (List.getElem_mem hi)
 . rw[List.getElem?_eq_none (by omega)];exact B16_pos
theorem Wb.nil:Wb []:=λx hx=>by cases hx
def bnorm:List Nat->List Nat
 | []=>[]
 | x :: xs=>match bnorm xs with
  | []=>if x=0 then[] else[x]
  | y :: ys=>x :: y :: ys
theorem bnorm_snoc0:∀ xs,bnorm (xs ++ [0])=bnorm xs
 | []=>rfl
 | x :: xs=>by
  show(match bnorm (xs ++ [0]) with | []=>if x=0 then[] else[x]|y :: ys=>x :: y :: ys)=_
  rw[bnorm_snoc0 xs];rfl
theorem bnorm_snoc {x:Nat} (h:x≠0):∀ xs,bnorm (xs ++ [x])=xs ++ [x]
 | []=>by simp[bnorm,h]
 | y :: xs=>by
  show(match bnorm (xs ++ [x]) with | []=>if y=0 then[] else[y]|z :: ys=>y :: z :: ys)=_
  rw[bnorm_snoc h xs]
  cases xs <;> rfl
theorem bnorm_prefix:∀ xs,∃ k,bnorm xs=xs.take k/\k<=xs.length
 | []=>⟨0,rfl,Nat.le_refl _⟩
 | x :: xs=>by
  obtain⟨k,hk,hl⟩:=bnorm_prefix xs
  show ∃ k,(match bnorm xs with | []=>if x=0 then[] else[x]|y :: ys=>x :: y :: ys)=_/\_
  cases hn:bnorm xs with
  | nil=>
   by_cases hx:x=0
   . exact⟨0,by simp[hx],by simp⟩
   . exact⟨1,by simp[hx],by simp⟩
  | cons y ys=>exact⟨k+1,by rw[List.take_succ_cons,<-hk,hn],by simp;omega⟩
theorem bnorm_take (xs:List Nat):xs.take (bnorm xs).length=bnorm xs:=by
 obtain⟨k,hk,hl⟩:=bnorm_prefix xs
 rw[hk];simp[Nat.min_eq_left hl]
theorem Wb.bnorm {xs:List Nat} (h:Wb xs):Wb (bnorm xs):=by
 obtain⟨k,hk,_⟩:=bnorm_prefix xs
 rw[hk];exact h.take k
theorem bnorm_take_succ {cs:List Nat} {k:Nat} (hk:k<cs.length) (h0:cs.getD k 0=0):bnorm (cs.take (k+1))=bnorm (cs.take k):=by
 rw[zwy _ _ hk,h0,bnorm_snoc0]
theorem bnorm_take_end {cs:List Nat} {k:Nat} (hk:k<cs.length) (h0:cs.getD k 0≠0):(bnorm (cs.take (k+1))).length=k+1:=by
 rw[zwy _ _ hk,bnorm_snoc h0];simp;omega
def bd (n:Nat):List Nat:=if _h:n=0 then[] else n%B16 :: bd (n/B16)
termination_by n
decreasing_by exact Nat.div_lt_self (by omega) (by unfold B16;omega)
theorem bd_zero:bd 0 = []:=by rw[bd];simp
theorem bd_pos {n:Nat} (h:n≠0):bd n=n%B16 :: bd (n/B16):=by rw[bd];simp[h]
theorem bval_bd (n:Nat):bval (bd n)=n:=by
 induction n using Nat.strongRecOn with
 | ind n ih=>
  by_cases h:n=0
  . subst h;rw[bd_zero];rfl
  . rw[bd_pos h]
    show n%B16+B16*bval (bd (n/B16))=n
    rw[ih _ (Nat.div_lt_self (by omega) (by unfold B16;omega))]
    exact Nat.mod_add_div n B16
theorem bd_words (n:Nat):Wb (bd n):=by
 induction n using Nat.strongRecOn with
 | ind n ih=>
  by_cases h:n=0
  . subst h;rw[bd_zero];exact Wb.nil
  . rw[bd_pos h]
    intro x hx
    rcases List.mem_cons.1 hx with rfl|hx
    . exact Nat.mod_lt _ B16_pos
    . exact ih _ (Nat.div_lt_self (by omega) (by unfold B16;omega)) x hx
theorem bd_eq_nil {n:Nat}:bd n = []↔n=0:=by
 constructor
 . intro h;rw[<-bval_bd n,h];rfl
 . rintro rfl;exact bd_zero
theorem bnorm_bd:∀ xs,Wb xs->bnorm xs=bd (bval xs)
 | [],_=>by rw[bval_nil,bd_zero];rfl
 | x :: xs,h=>by
  have ih:=bnorm_bd xs (λy hy=>h y (List.mem_cons_of_mem _ hy))
  have hx:x<B16:=h x (List.mem_cons_self ..)
  show(match bnorm xs with | []=>if x=0 then[] else[x]|y :: ys=>x :: y :: ys)=bd (x+B16*bval xs)
  by_cases h0:bval xs=0
  . rw[h0,bd_zero] at ih
    rw[ih,h0]
    by_cases hx0:x=0
    . subst hx0;simp[bd_zero]
    . have e:bd (x+B16*0) = [x]:=by
       rw[bd_pos (by omega),Nat.mul_zero,Nat.add_zero,Nat.mod_eq_of_lt hx,Nat.div_eq_of_lt hx,bd_zero]
      rw[e];simp[hx0]
  . have hp:0<B16*bval xs:=Nat.mul_pos B16_pos (by omega)
    have e:bd (x+B16*bval xs)=x :: bd (bval xs):=by
     rw[bd_pos (by omega),Nat.add_mul_mod_self_left,Nat.mod_eq_of_lt hx,Nat.add_mul_div_left _ _ B16_pos,Nat.div_eq_of_lt hx,Nat.zero_add]
    rw[e,ih]
    cases hd:bd (bval xs) with
    | nil=>exact absurd (bd_eq_nil.1 hd) h0
    | cons y ys=>rfl
theorem bd_length {n k:Nat}:(bd n).length<=k↔n<B16^k:=by
 constructor
 . intro h
   have:=bval_lt _ (bd_words n)
   rw[bval_bd] at this
   exact Nat.lt_of_lt_of_le this (Nat.pow_le_pow_right B16_pos h)
 . intro h
   induction k generalizing n with
   | zero => rw [Nat.pow_zero] at h; obtain rfl : n = 0 := by omega
             simp[bd_zero]
   | succ k ih=>
    by_cases h0:n=0
    . subst h0;simp[bd_zero]
    . rw[bd_pos h0,List.length_cons]
      have:=ih (n:=n/B16) (by rw[Nat.div_lt_iff_lt_mul B16_pos,<-Nat.pow_succ];exact h)
      omega
theorem bd_last {n:Nat} (h:n≠0):B16^((bd n).length-1)<=n:=by
 have h1:¬(bd n).length<=(bd n).length-1:=by
  have:(bd n).length≠0:=λe=>h (bd_eq_nil.1 (List.eq_nil_of_length_eq_zero e))
  omega
 rw[bd_length] at h1
 omega
theorem bd_lt {a b:Nat} (h:(bd a).length<(bd b).length):a<b:=by
 have h1:a<B16^(bd a).length:=bd_length.1 (Nat.le_refl _)
 have hb:b≠0:=λe=>by rw[e,bd_zero] at h;simp at h
 have h2:=bd_last hb
 exact Nat.lt_of_lt_of_le h1 (Nat.le_trans (Nat.pow_le_pow_right B16_pos (by omega)) h2)
theorem bval_at {X:List Nat} {k:Nat} (h:k<X.length):bval X=bval (X.take k)+B16^k*(X.getD k 0+B16*bval (X.drop (k+1))):=by
 conv=>lhs;rw[<-List.take_append_drop (k+1) X]
 rw[bval_append,zwy _ _ h,bval_snoc,List.length_append,List.length_take,Nat.min_eq_left (by omega),List.length_singleton,Nat.mul_add,Nat.pow_succ,Nat.mul_assoc]
 omega
theorem bval_lt_at {X Y:List Nat} {k:Nat} (hw:Wb X) (hl:X.length=Y.length) (h:k<X.length) (he:X.drop (k+1)=Y.drop (k+1)) (hlt:X.getD k 0<Y.getD k 0):bval X<bval Y:=by
 rw[bval_at h,bval_at (by omega:k<Y.length),he]
 have h1:=bval_lt _ (hw.take k)
 rw[List.length_take,Nat.min_eq_left (by omega)] at h1
 have h2:B16^k*(X.getD k 0+B16*bval (Y.drop (k+1))+1)<=B16^k*(Y.getD k 0+B16*bval (Y.drop (k+1))):=Nat.mul_le_mul_left _ (by omega)
 rw[Nat.mul_add,Nat.mul_one] at h2
 omega
end Go.Proofs.YtohhkjamddojmaaGreatDoor.Big

namespace Go.Proofs.YtohhkjamddojmaaGreatDoor.Big
theorem zxk (a:List Nat) (i:Nat):bval (a.take (i+1))=bval (a.take i)+B16^i*a.getD i 0:=by
 rcases Nat.lt_or_ge i a.length with h|h
 . rw[zwy _ _ h,bval_snoc,List.length_take,Nat.min_eq_left (Nat.le_of_lt h)]
 . rw[List.take_of_length_le (by omega),List.take_of_length_le h,List.getD,List.getElem?_eq_none h]
   simp
theorem plus_step {a b o:List Nat} {i c t:Nat} (ho:o.length=i) (h:bval o+B16^i*c=bval (a.take i)+bval (b.take i)) (ht:t=c+a.getD i 0+b.getD i 0) :
 bval (o ++ [t%B16])+B16^(i+1)*(t/B16)=bval (a.take (i+1))+bval (b.take (i+1)):=by
 rw[bval_snoc,ho,zxk,zxk]
 have e:B16^(i+1)*(t/B16)=B16^i*(B16*(t/B16)):=by rw[Nat.pow_succ,Nat.mul_assoc]
 have e2:=Nat.mod_add_div t B16
 have e3:B16^i*(t%B16)+B16^i*(B16*(t/B16))=B16^i*t:=by rw[<-Nat.mul_add,e2]
 have e4:B16^i*t=B16^i*c+B16^i*a.getD i 0+B16^i*b.getD i 0:=by rw[ht,Nat.mul_add,Nat.mul_add]
 omega
theorem minus_step {a b o:List Nat} {i c d c':Nat} (ho:o.length=i) (h:bval o+bval (b.take i)=bval (a.take i)+B16^i*c) (ht:d+c+b.getD i 0=a.getD i 0+B16*c') :
 bval (o ++ [d])+bval (b.take (i+1))=bval (a.take (i+1))+B16^(i+1)*c':=by
 rw[bval_snoc,ho,zxk,zxk]
 have e:B16^(i+1)*c'=B16^i*(B16*c'):=by rw[Nat.pow_succ,Nat.mul_assoc]
 have e4:B16^i*(d+c+b.getD i 0)=B16^i*(a.getD i 0+B16*c'):=by rw[ht]
 rw[Nat.mul_add,Nat.mul_add,Nat.mul_add] at e4
 omega
theorem minus_end {a b o:List Nat} {c:Nat} (ho:o.length=a.length) (hw:Wb o) (h:bval o+bval b=bval a+B16^a.length*c) (hle:bval b<=bval a):c=0/\bval o=bval a-bval b:=by
 have h1:=bval_lt o hw
 rw[ho] at h1
 have hc:c=0:=by
  rcases Nat.eq_zero_or_pos c with e|e
  . exact e
  . have:=Nat.le_mul_of_pos_right (B16^a.length) e
    omega
 subst hc
 exact⟨rfl,by omega⟩
theorem bval_set {l:List Nat} {p v:Nat} (h:p<l.length):bval (l.set p v)+B16^p*l.getD p 0=bval l+B16^p*v:=by
 have e:l.set p v=l.take p++v :: l.drop (p+1):=by
  rw[List.set_eq_take_append_cons_drop,if_pos h]
 have e2:l=l.take p++l.getD p 0 :: l.drop (p+1):=by
  conv=>lhs;rw[<-List.take_append_drop p l]
  congr 1
  rw[List.drop_eq_getElem_cons h]
  simp[List.getD,h]
 have e3:bval l=bval (l.take p)+B16^p*(l.getD p 0+B16*bval (l.drop (p+1))):=by
  conv=>lhs;rw[e2]
  rw[bval_append,List.length_take,Nat.min_eq_left (by omega)]
  rfl
 rw[e,e3,bval_append,List.length_take,Nat.min_eq_left (by omega)]
 show _+B16^p*(v+B16*_)+_=_
 rw[Nat.mul_add,Nat.mul_add]
 omega
theorem prod_step {o b:List Nat} {V i k c x t:Nat} (hp:i+k<o.length) (h:bval o+B16^(i+k)*c=V+B16^i*(x*bval (b.take k))) (ht:t=c+o.getD (i+k) 0+x*b.getD k 0) :
 bval (o.set (i+k) (t%B16))+B16^(i+(k+1))*(t/B16)=V+B16^i*(x*bval (b.take (k+1))):=by
 have e:=bval_set (v:=t%B16) hp
 rw[zxk]
 have e1:B16^(i+(k+1))*(t/B16)=B16^(i+k)*(B16*(t/B16)):=by rw[<-Nat.add_assoc,Nat.pow_succ,Nat.mul_assoc]
 have e2:=Nat.mod_add_div t B16
 have e3:B16^(i+k)*(t%B16)+B16^(i+k)*(B16*(t/B16))=B16^(i+k)*t:=by rw[<-Nat.mul_add,e2]
 have e4:B16^(i+k)*t=B16^(i+k)*c+B16^(i+k)*o.getD (i+k) 0+B16^(i+k)*(x*b.getD k 0):=by rw[ht,Nat.mul_add,Nat.mul_add]
 have e5:B16^i*(x*(bval (b.take k)+B16^k*b.getD k 0))=B16^i*(x*bval (b.take k))+B16^(i+k)*(x*b.getD k 0):=by
  rw[Nat.mul_add,Nat.mul_add,Nat.pow_add]
  congr 1
  ac_rfl
 omega
theorem shl_step {a o:List Nat} {i c s t:Nat} (ho:o.length=i) (h:bval o+B16^i*c=bval (a.take i)*2^s) (ht:t=c+a.getD i 0*2^s) :
 bval (o ++ [t%B16])+B16^(i+1)*(t/B16)=bval (a.take (i+1))*2^s:=by
 rw[bval_snoc,ho,zxk,Nat.add_mul,<-h]
 have e:B16^(i+1)*(t/B16)=B16^i*(B16*(t/B16)):=by rw[Nat.pow_succ,Nat.mul_assoc]
 have e2:=Nat.mod_add_div t B16
 have e3:B16^i*(t%B16)+B16^i*(B16*(t/B16))=B16^i*t:=by rw[<-Nat.mul_add,e2]
 have e4:B16^i*t=B16^i*c+B16^i*a.getD i 0*2^s:=by rw[ht,Nat.mul_add,Nat.mul_assoc]
 omega
theorem take_step {r m o:List Nat} {i c q d c':Nat} (ho:o.length=i) (h:bval o+q*bval (m.take i)=bval (r.take i)+B16^i*c) (ht:d+c+q*m.getD i 0=r.getD i 0+B16*c') :
 bval (o ++ [d])+q*bval (m.take (i+1))=bval (r.take (i+1))+B16^(i+1)*c':=by
 rw[bval_snoc,ho,zxk,zxk,Nat.mul_add]
 have e:B16^(i+1)*c'=B16^i*(B16*c'):=by rw[Nat.pow_succ,Nat.mul_assoc]
 have e5:q*(B16^i*m.getD i 0)=B16^i*(q*m.getD i 0):=by simp only[Nat.mul_left_comm]
 have e4:B16^i*(d+c+q*m.getD i 0)=B16^i*(r.getD i 0+B16*c'):=by rw[ht]
 rw[Nat.mul_add,Nat.mul_add,Nat.mul_add] at e4
 omega
end Go.Proofs.YtohhkjamddojmaaGreatDoor.Big

namespace Go.Proofs.YtohhkjamddojmaaGreatDoor.Big
theorem bval_drop (a:List Nat) (i:Nat):bval (a.drop i)=a.getD i 0+B16*bval (a.drop (i+1)):=by
 rcases Nat.lt_or_ge i a.length with h|h
 . rw[List.drop_eq_getElem_cons h]
   simp[List.getD,h,bval]
 . rw[List.drop_of_length_le h,List.drop_of_length_le (by omega),List.getD,List.getElem?_eq_none h]
   rfl
theorem rest_guess {r ms:List Nat} {k q:Nat} (hr:r.length=k+2) (hm:ms.length=k+1) (hw:Wb ms) (hq:q=(r.getD (k+1) 0*B16+r.getD k 0)/(ms.getD k 0+1)):q*bval ms<=bval r:=by
 have e1:bval r=bval (r.take k)+B16^k*(r.getD (k+1) 0*B16+r.getD k 0):=by
  have:bval r=bval (r.take (k+1+1)):=by rw[List.take_of_length_le (by omega)]
  rw[this,zxk,zxk,Nat.pow_succ,Nat.mul_add,Nat.mul_assoc,Nat.mul_comm B16]
  omega
 have e2:bval ms<B16^k*(ms.getD k 0+1):=by
  have e:bval ms=bval (ms.take (k+1)):=by rw[List.take_of_length_le (by omega)]
  have h:=bval_lt (ms.take k) (hw.take _)
  rw[List.length_take,Nat.min_eq_left (by omega)] at h
  rw[e,zxk,Nat.mul_add]
  omega
 have e3:q*(ms.getD k 0+1)<=r.getD (k+1) 0*B16+r.getD k 0:=by rw[hq];exact Nat.div_mul_le_self _ _
 have e4:=Nat.mul_le_mul_left q (Nat.le_of_lt e2)
 have e5:=Nat.mul_le_mul_left (B16^k) e3
 have e6:q*(B16^k*(ms.getD k 0+1))=B16^k*(q*(ms.getD k 0+1)):=Nat.mul_left_comm _ _ _
 omega
def RT (a:List Nat) (n i:Nat):Nat:=bval (a.drop i)*2^n+(if i=0 then 0 else a.getD (i-1) 0)/2^(16-n)
theorem RT_zero (a:List Nat) (n:Nat):RT a n 0=bval a*2^n:=by unfold RT;rw[if_pos rfl,Nat.zero_div];rfl
theorem RT_end (a:List Nat) (n:Nat):RT a n (a.length+1)=0:=by
 unfold RT
 rw[List.drop_of_length_le (by omega),if_neg (by omega),Nat.add_sub_cancel,List.getD,List.getElem?_eq_none (Nat.le_refl _)]
 simp[bval]
theorem pow16 {n:Nat} (h:n<=15):2^(16-n)*2^n=B16:=by rw[<-Nat.pow_add,show 16-n+n=16 by omega];rfl
theorem sh16 {n:Nat} (x:Nat) (h:n<=15):x*2^n/B16=x/2^(16-n)/\x*2^n%B16=x%2^(16-n)*2^n:=by
 rw[<-pow16 h]
 exact⟨Nat.mul_div_mul_right _ _ (Nat.pow_pos (by decide)),Nat.mul_mod_mul_right _ _ _⟩
theorem sh16_low {n x:Nat} (h:n<=15) (hx:x<B16):x/2^(16-n)<2^n:=by
 rw[Nat.div_lt_iff_lt_mul (Nat.pow_pos (by decide)),Nat.mul_comm,pow16 h];exact hx
theorem RT_step {a:List Nat} {n:Nat} (i:Nat) (h:n<=15) (hw:Wb a) :
 RT a n i=B16*RT a n (i+1)+(a.getD i 0*2^n%B16+(if i=0 then 0 else a.getD (i-1) 0)/2^(16-n)) ∧
 a.getD i 0*2^n%B16+(if i=0 then 0 else a.getD (i-1) 0)/2^(16-n)<B16:=by
 constructor
 . unfold RT
   rw[bval_drop a i,if_neg (show ¬i+1=0 by omega),Nat.add_sub_cancel,Nat.add_mul,Nat.mul_add]
   have e:=(sh16 (a.getD i 0) h).1
   have e2:=Nat.mod_add_div (a.getD i 0*2^n) B16
   rw[e] at e2
   have e3:B16*bval (a.drop (i+1))*2^n=B16*(bval (a.drop (i+1))*2^n):=Nat.mul_assoc _ _ _
   omega
 . rw[(sh16 _ h).2]
   have h1:(if i=0 then 0 else a.getD (i-1) 0)/2^(16-n)<2^n:=by
    apply sh16_low h
    split
    . exact B16_pos
    . exact hw.getD _
   have h2:a.getD i 0%2^(16-n)<2^(16-n):=Nat.mod_lt _ (Nat.pow_pos (by decide))
   have h3:=Nat.mul_le_mul_right (2^n) h2
   rw[pow16 h,Nat.succ_mul] at h3
   omega
theorem rest_mod {T T' M R d:Nat} (h:R=T'%M) (e:T=B16*T'+d):(R*B16+d)%M=T%M:=by
 rw[h,e,Nat.mul_comm B16,Nat.add_mod,Nat.mul_mod,Nat.mod_mod,<-Nat.mul_mod,<-Nat.add_mod]
theorem back_step {r o:List Nat} {i n V d:Nat} (hn:n<=15) (hw:Wb r) (ho:o.length=i) (h:bval o+B16^i*(bval (r.drop i)/2^n)=V) (hd:d=(r.getD i 0+B16*r.getD (i+1) 0)/2^n%B16) :
 bval (o ++ [d])+B16^(i+1)*(bval (r.drop (i+1))/2^n)=V:=by
 have hp:0<2^n:=Nat.pow_pos (by decide)
 have key:∀ Y,(r.getD i 0+B16*Y)/2^n=B16*(Y/2^n)+(r.getD i 0+B16*(Y%2^n))/2^n:=λY=>by
  conv=>lhs;rw[<-Nat.mod_add_div Y (2^n)]
  rw[Nat.mul_add,<-Nat.add_assoc,show B16*(2^n*(Y/2^n))=2^n*(B16*(Y/2^n)) from Nat.mul_left_comm _ _ _,Nat.add_mul_div_left _ _ hp,Nat.add_comm]
 have room:∀ Y,(r.getD i 0+B16*(Y%2^n))/2^n<B16:=λY=>by
  rw[Nat.div_lt_iff_lt_mul hp]
  have h1:=Nat.mod_lt Y hp
  have h2:=Nat.mul_le_mul_left B16 h1
  have h3:=hw.getD i
  rw[Nat.mul_succ] at h2
  omega
 have e1:bval (r.drop (i+1))%2^n=r.getD (i+1) 0%2^n:=by
  rw[bval_drop r (i+1),<-pow16 hn,Nat.mul_comm (2^(16-n)),Nat.mul_assoc,Nat.add_mul_mod_self_left]
 have e2:d=(r.getD i 0+B16*(r.getD (i+1) 0%2^n))/2^n:=by
  rw[hd,key,Nat.mul_add_mod,Nat.mod_eq_of_lt (room _)]
 have e3:bval (r.drop i)/2^n=B16*(bval (r.drop (i+1))/2^n)+d:=by
  rw[bval_drop r i,key,e1,<-e2]
 rw[e3,Nat.mul_add] at h
 rw[bval_snoc,ho,Nat.pow_succ,Nat.mul_assoc]
 omega
theorem rest_fin (a m n:Nat):a*2^n%(m*2^n)/2^n=a%m:=by
 rw[Nat.mul_mod_mul_right,Nat.mul_div_cancel _ (Nat.pow_pos (by decide))]
end Go.Proofs.YtohhkjamddojmaaGreatDoor.Big

set_option maxRecDepth 100000
set_option maxHeartbeats 16000000
namespace Go.Proofs.YtohhkjamddojmaaGreatDoor.Big
open Go.RowKit
def RowI (w:World) (p:Option Addr) (c:Nat) (xs:List Nat):Prop:=
 xs.length<=c/\c<=maxLen/\(0<xs.length->∃ b o,p=some ⟨b,o,.none⟩)/\∀ b o,p=some ⟨b,o,.none⟩->∀ i,i<xs.length->w.cell? ⟨b,o+i,.none⟩=some (.int .i64 (xs.getD i 0:Nat))
theorem RowI.take {w:World} {p:Option Addr} {c:Nat} {xs:List Nat} (h:RowI w p c xs) (k:Nat):RowI w p c (xs.take k):=by
 obtain⟨h1,h2,h3,h4⟩:=h
 have hl:(xs.take k).length<=xs.length:=by rw[List.length_take];exact Nat.min_le_right _ _
 refine⟨by omega,h2,λh0=>h3 (by omega),λb o e i hi=>?_⟩
 rw[h4 b o e i (by omega),getD_take (by rw[List.length_take] at hi;omega)]
theorem trimS (p:Option Addr) (c:Nat) (xs:List Nat) (w:World) (h:RowI w p c xs):Calls Tryz.prog 62 #[.slice p xs.length c] w (λe w'=>e=.returned (.slice p (bnorm xs).length c)/\w'=w):=by
 have hcm:c<=9223372036854775807:=h.2.1
 have H:=Lz h
 clear h
 rcases Nat.eq_zero_or_pos xs.length with h0|h0
 . obtain rfl:xs = []:=List.eq_nil_of_length_eq_zero h0
   clear h0 H
   go_enter Tryz.func62,Tryz.ntmps62
   go_wp2_with fail
   go_loopw [0] (λv wr=>v=.slice p 0 c/\wr=w) (λ_ _=>0)
   case atStart=>exact⟨rfl,rfl⟩
   case round=>
    obtain⟨rfl,rfl⟩:=hrel
    go_wp2_with fail
    go_ret
    exact⟨rfl,rfl⟩
 . obtain⟨b,o,rfl⟩:=H.out.2.2.1 h0
   clear h0
   go_enter Tryz.func62,Tryz.ntmps62
   go_wp2_with fail
   go_loopw [0] (λv wr=>∃ k:Nat,v=.slice (some ⟨b,o,.none⟩) k c/\wr=w/\RowKit.Hid (k<=xs.length/\bnorm xs=bnorm (xs.take k))) (λv _=>(match v with|.slice _ l _=>l|_=>0))
   case atStart=>exact⟨xs.length,rfl,rfl,⟨Nat.le_refl _,by rw[List.take_length]⟩⟩
   case round=>
    obtain⟨k,rfl,rfl,HR⟩:=hrel
    by_cases hk0:k=0
    . subst hk0
      go_wp2_with fail
      go_ret
      exact⟨by rw[HR.out.2];simp[bnorm],rfl⟩
    . obtain⟨j,hj⟩:∃ j,k=j+1:=⟨k-1,by omega⟩
      obtain⟨k1,k2⟩:=HR.out
      have hjl:j<xs.length:=by omega
      have hcj:=H.out.2.2.2 b o rfl j hjl
      have hlc:=H.out.1
      have i0:(0:Int)<k:=by omega
      have i1:(j:Int)<k:=by omega
      have W1:=Lz (show wrap64 ((k:Int)-1)=j from wrapN (by omega) (by omega))
      have i2:(j:Int)<=c:=by omega
      have i3:j<=c:=by omega
      by_cases hz:xs.getD j 0=0
      . have HN:=Lz (show j<=xs.length/\bnorm xs=bnorm (xs.take j) from⟨Nat.le_of_lt hjl,by rw[k2,hj];exact bnorm_take_succ hjl hz⟩)
        rw[hz] at hcj
        have w1:=W1.out
        have HJ:=Lz hj
        clear hz hj k1 k2 hjl hlc HR
        go_wp2_with fail
        go_roundw
        case rel=>exact⟨j,by first|rfl|trivial,by first|rfl|trivial,HN.out⟩
        case measure=>have:=HJ.out;clear w1;show j<k;omega
      . have HN:=Lz (show(bnorm xs).length=k by rw[k2,hj];exact bnorm_take_end hjl hz)
        obtain⟨v,hv⟩:∃ v,v=xs.getD j 0:=⟨_,rfl⟩
        rw[<-hv] at hcj hz
        have hz2:((v:Int)==0)=false:=by rw[beq_eq_false_iff_ne];omega
        have w1:=W1.out
        clear hz hj k1 k2 hjl hlc HR hv
        go_wp2_with fail
        go_ret
        exact⟨by rw[HN.out];rfl,rfl⟩
end Go.Proofs.YtohhkjamddojmaaGreatDoor.Big

set_option maxRecDepth 100000
set_option maxHeartbeats 16000000
namespace Go.Proofs.YtohhkjamddojmaaGreatDoor.Big
open Go.RowKit
def CompP (r:Int) (w:World) (e:Ending) (w':World):Prop:=e=.returned (.int .i64 r)/\∃ d,w'=w.drewN d
theorem sgn_lt1 {a b:Nat} (h:a<b):sgn a b=-1:=by unfold sgn;rw[if_pos h]
theorem sgn_gt1 {a b:Nat} (h:b<a):sgn a b=1:=by unfold sgn;rw[if_neg (by omega),if_pos h]
theorem sgn_eq1 (a:Nat):sgn a a=0:=by unfold sgn;rw[if_neg (Nat.lt_irrefl a),if_neg (Nat.lt_irrefl a)]
theorem compareS (p p2:Option Addr) (c c2 A B:Nat) (w:World) (h:RowI w p c (bd A)) (h2:RowI w p2 c2 (bd B)):Calls Tryz.prog 22 #[.slice p (bd A).length c,.slice p2 (bd B).length c2] w (CompP (sgn A B) w):=by
 obtain⟨X,hX⟩:∃ X,X=bd A:=⟨_,rfl⟩
 obtain⟨Y,hY⟩:∃ Y,Y=bd B:=⟨_,rfl⟩
 have hA:bval X=A:=by rw[hX];exact bval_bd A
 have hB:bval Y=B:=by rw[hY];exact bval_bd B
 have hwX:Wb X:=by rw[hX];exact bd_words A
 have hwY:Wb Y:=by rw[hY];exact bd_words B
 rcases Nat.lt_trichotomy (bd A).length (bd B).length with hl|hl|hl
 . have K:=sgn_lt1 (bd_lt hl)
   rw[K]
   rw[<-hX,<-hY] at hl ⊢
   have i1:((X.length:Int) != Y.length)=true:=by rw[bne_iff_ne];omega
   have i2:(X.length:Int)<Y.length:=by omega
   clear hX hY hA hB hwX hwY hl K h h2
   generalize X.length=lx at *
   generalize Y.length=ly at *
   go_enter Tryz.func22,Tryz.ntmps22
   go_wp2_with fail
   go_ret
   exact⟨rfl,0,rfl⟩
 . rw[<-hX] at h
   rw[<-hY] at h2
   rw[<-hX,<-hY] at hl ⊢
   obtain⟨n,hn⟩:∃ n,n=X.length:=⟨_,rfl⟩
   have H:=Lz (And.intro h (And.intro h2 (And.intro hA (And.intro hB (And.intro hwX (And.intro hwY (And.intro hl hn)))))))
   have hcm:n<=9223372036854775807:=by have:=h.1;have:=h.2.1;unfold maxLen at this;omega
   have W1:=Lz (show n≠0->wrap64 ((n:Int)-1)=((n-1:Nat):Int) from λh0=>wrapN (by omega) (by omega))
   rw[<-hl,<-hn]
   have i1:((n:Int) != n)=false:=bne_self_eq_false _
   rcases Nat.eq_zero_or_pos n with h0|h0
   . have hAB:A=B:=by
      rw[<-hA,<-hB,List.eq_nil_of_length_eq_zero (by omega:X.length=0),List.eq_nil_of_length_eq_zero (by omega:Y.length=0)]
     subst h0 hAB
     rw[sgn_eq1]
     clear hX hY hA hB hwX hwY hl hn H W1 h h2 hcm
     go_enter Tryz.func22,Tryz.ntmps22
     go_wp2_with fail
     go_loopw [5] (λv wr=>v=.int .i64 (-1)/\wr=w) (λ_ _=>0)
     case atStart=>exact⟨by first|rfl|(unfold wrap64;rfl),rfl⟩
     case round=>
      obtain⟨rfl,rfl⟩:=hrel
      go_wp2_with fail
      go_ret
      exact⟨rfl,0,rfl⟩
   . obtain⟨b,o,rfl⟩:=h.2.2.1 (by omega)
     obtain⟨b2,o2,rfl⟩:=h2.2.2.1 (by omega)
     obtain⟨n1,hn1⟩:∃ n1,n1=n-1:=⟨_,rfl⟩
     have w1:=W1.out (by omega)
     rw[<-hn1] at w1
     have HN1:=Lz hn1
     have H0:=Lz h0
     clear hX hY hA hB hwX hwY hl hn h h2 hcm h0 hn1 W1
     go_enter Tryz.func22,Tryz.ntmps22
     go_wp2_with fail
     simp only[w1]
     go_loopw [5] (λv wr=>∃ (x:Int) (k d:Nat),v=.int .i64 x/\wr=w.drewN d/\RowKit.Hid (x=(k:Int)-1/\k<=n/\X.drop k=Y.drop k)) (λv _=>(intOf v+1).toNat)
     case atStart=>exact⟨n1,n,0,rfl,rfl,⟨by have:=HN1.out;have:=H0.out;clear w1;omega,Nat.le_refl _,by rw[List.drop_of_length_le (by have:=H.out;omega),List.drop_of_length_le (by have:=H.out;omega)]⟩⟩
     case round=>
      obtain⟨x,k,d,rfl,rfl,HR⟩:=hrel
      obtain⟨k1,k2,k3⟩:=HR.out
      obtain⟨hX,hY,hA,hB,hwX,hwY,hl,hn⟩:=H.out
      rcases Nat.eq_zero_or_pos k with hk0|hk0
      . subst hk0
        have hAB:A=B:=by rw[<-hA,<-hB];rw[List.drop_zero,List.drop_zero] at k3;rw[k3]
        have hx:x=-1:=by clear w1;omega
        subst hx hAB
        clear k1 k2 k3 hX hY hA hB hwX hwY hl hn HR w1
        go_wp2_with fail
        go_ret
        exact⟨(congrArg (λr=>Ending.returned (Value.int .i64 r)) (sgn_eq1 A)).symm,_,rfl⟩
      . obtain⟨j,hj⟩:∃ j,k=j+1:=⟨k-1,by clear w1;omega⟩
        have hx:x=(j:Int):=by clear w1;omega
        subst hx
        have hjx:j<X.length:=by clear w1;omega
        have ca:=hX.2.2.2 b o rfl j hjx
        have cb:=hY.2.2.2 b2 o2 rfl j (by clear w1;omega)
        obtain⟨xa,hxa⟩:∃ v,v=X.getD j 0:=⟨_,rfl⟩
        obtain⟨xb,hxb⟩:∃ v,v=Y.getD j 0:=⟨_,rfl⟩
        rw[<-hxa] at ca
        rw[<-hxb] at cb
        have i2:(j:Int)<n:=by clear w1;omega
        have W2:=Lz (show wrap64 ((j:Int)-1)=(j:Int)-1 from by unfold wrap64;have:=hX.1;have:=hX.2.1;unfold maxLen at this;clear w1;omega)
        rw[hj] at k3
        rcases Nat.lt_trichotomy xa xb with hc|hc|hc
        . have K:=sgn_lt1 (show A<B by rw[<-hA,<-hB];exact bval_lt_at hwX hl hjx k3 (by rw[<-hxa,<-hxb];exact hc))
          have K2:=Lz K
          have j1:((xa:Int) != xb)=true:=by rw[bne_iff_ne];clear w1;omega
          have j2:(xa:Int)<xb:=by clear w1;omega
          clear k1 k2 k3 hX hY hA hB hwX hwY hl hn HR w1 hj hjx hxa hxb hc K hk0
          go_wp2_with fail
          go_quiet (fail)
          go_wp2_with fail
          go_quiet (fail)
          go_wp2_with fail
          go_ret
          exact⟨by rw[K2.out];rfl,_,(congrArg (λv=>World.drewN v _) (World.drewN_drewN _ _ _)).trans (World.drewN_drewN _ _ _)⟩
        . subst hc
          have HN:=Lz (show j<=n/\X.drop j=Y.drop j from⟨by clear w1;omega,drop_step hl hjx k3 (by rw[<-hxa,<-hxb])⟩)
          have j1:((xa:Int) != xa)=false:=bne_self_eq_false _
          clear k1 k2 k3 hX hY hA hB hwX hwY hl hn HR w1 hj hjx hxa hxb hk0
          go_wp2_with fail
          go_quiet (fail)
          go_wp2_with fail
          go_roundw
          case rel=>exact⟨_,j,_,rfl,by first|rfl|exact World.drewN_drewN _ _ _,⟨W2.out,HN.out⟩⟩
          case measure=>
           show(wrap64 ((j:Int)-1)+1).toNat<((j:Int)+1).toNat
           rw[W2.out]
           omega
        . have K:=sgn_gt1 (show B<A by rw[<-hA,<-hB];exact bval_lt_at hwY hl.symm (by clear w1;omega) k3.symm (by rw[<-hxa,<-hxb];exact hc))
          have K2:=Lz K
          have j1:((xa:Int) != xb)=true:=by rw[bne_iff_ne];clear w1;omega
          have j2:¬(xa:Int)<xb:=by clear w1;omega
          clear k1 k2 k3 hX hY hA hB hwX hwY hl hn HR w1 hj hjx hxa hxb hc K hk0
          go_wp2_with fail
          go_quiet (fail)
          go_wp2_with fail
          go_quiet (fail)
          go_wp2_with fail
          go_ret
          exact⟨by rw[K2.out];rfl,_,(congrArg (λv=>World.drewN v _) (World.drewN_drewN _ _ _)).trans (World.drewN_drewN _ _ _)⟩
 . have K:=sgn_gt1 (bd_lt hl)
   rw[K]
   rw[<-hX,<-hY] at hl ⊢
   have i1:((X.length:Int) != Y.length)=true:=by rw[bne_iff_ne];omega
   have i2:¬(X.length:Int)<Y.length:=by omega
   clear hX hY hA hB hwX hwY hl K h h2
   generalize X.length=lx at *
   generalize Y.length=ly at *
   go_enter Tryz.func22,Tryz.ntmps22
   go_wp2_with fail
   go_ret
   exact⟨rfl,0,rfl⟩
end Go.Proofs.YtohhkjamddojmaaGreatDoor.Big
