/- Plain mathematics: primes, Fermat's little theorem; no Go, no program. Plain mathematics: Pocklington's theorem; no Go, no program. Plain mathematics: chords and tangents modulo a prime; no Go, no program. Plain mathematics: multiples of a point; Jacobian coordinates. A point is on a twist's curve just if its image is on the twist: plain numbers. -/
import Derived.Test.YtohhkjamddojmaaGreatDoorBits
namespace Go.Proofs.YtohhkjamddojmaaGreatDoor.NumLaw
def IsP (n:Nat):Prop:=2<=n/\∀ d,d∣n->d=1\/d=n
theorem IsP.coprime {p a:Nat} (h:IsP p) (ha:¬p∣a):Nat.Coprime p a:=by
 rcases h.2 _ (Nat.gcd_dvd_left p a) with e|e
 . exact e
 . exact absurd (e ▸ Nat.gcd_dvd_right p a) ha
theorem IsP.dvd_mul {p a b:Nat} (h:IsP p) (hd:p∣a*b):p∣a\/p∣b:=by
 by_cases ha:p∣a
 . exact .inl ha
 . exact .inr ((h.coprime ha).dvd_of_dvd_mul_left hd)
theorem IsP.int {p:Nat} (h:IsP p) (x y:Int) (hd:(p:Int)∣x*y):(p:Int)∣x\/(p:Int)∣y:=by
 have e:=Int.natAbs_dvd_natAbs.2 hd
 rw[Int.natAbs_mul] at e
 rcases h.dvd_mul e with e|e
 . exact .inl (Int.natAbs_dvd_natAbs.1 e)
 . exact .inr (Int.natAbs_dvd_natAbs.1 e)
def C:Nat->Nat->Nat
 | _,0=>1
 | 0,_+1=>0
 | n+1,k+1=>C n k+C n (k+1)
theorem C_zero (n:Nat):C n 0=1:=by cases n <;> rfl
theorem C_over (n:Nat):∀ k,n<k->C n k=0:=by
 induction n with
 | zero=>intro k h;match k,h with|k+1,_=>rfl
 | succ n ih=>intro k h;match k,h with|k+1,h=>show C n k+C n (k+1)=0;rw[ih k (by omega),ih (k+1) (by omega)]
theorem C_self (n:Nat):C n n=1:=by
 induction n with
 | zero=>rfl
 | succ n ih=>show C n n+C n (n+1)=1;rw[ih,C_over n (n+1) (by omega)]
theorem C_abs (n:Nat):∀ k,(k+1)*C (n+1) (k+1)=(n+1)*C n k:=by
 induction n with
 | zero=>
  intro k
  cases k with
  | zero=>rfl
  | succ k=>show(k+2)*(C 0 (k+1)+C 0 (k+2))=1*0;simp[C]
 | succ n ih=>
  intro k
  cases k with
  | zero=>
   have h:1*C (n+1) 1=(n+1)*C n 0:=ih 0
   show 1*(C (n+1) 0+C (n+1) 1)=(n+2)*C (n+1) 0
   rw[C_zero] at *
   generalize C (n+1) 1=z at *
   omega
  | succ k=>
   have h1:(k+1)*(C n k+C n (k+1))=(n+1)*C n k:=ih k
   have h2:(k+2)*C (n+1) (k+2)=(n+1)*C n (k+1):=ih (k+1)
   show(k+2)*(C n k+C n (k+1)+C (n+1) (k+2))=(n+2)*(C n k+C n (k+1))
   generalize C (n+1) (k+2)=z at *
   generalize C n k=x at *
   generalize C n (k+1)=y at *
   grind
def sumC (n a:Nat):Nat->Nat
 | 0=>0
 | m+1=>sumC n a m+C n m*a^m
theorem sumC_succ (n a:Nat):∀ m,sumC (n+1) a (m+1)=sumC n a (m+1)+a*sumC n a m
 | 0=>by show 0+C (n+1) 0*a^0=0+C n 0*a^0+a*0;rw[C_zero,C_zero];omega
 | m+1=>by
  show sumC (n+1) a (m+1)+C (n+1) (m+1)*a^(m+1)=sumC n a (m+1)+C n (m+1)*a^(m+1)+a*(sumC n a m+C n m*a^m)
  rw[sumC_succ n a m]
  show _+(C n m+C n (m+1))*a^(m+1)=_
  grind
theorem binom (n a:Nat):(a+1)^n=sumC n a (n+1):=by
 induction n with
 | zero=>rfl
 | succ n ih=>
  rw[sumC_succ,Nat.pow_succ,ih]
  show _=sumC n a (n+1)+C n (n+1)*a^(n+1)+_
  rw[C_over n (n+1) (by omega)]
  grind
theorem IsP.dvd_C {p k:Nat} (h:IsP p) (h0:0<k) (h1:k<p):p∣C p k:=by
 obtain⟨q,rfl⟩:∃ q,p=q+1:=⟨p-1,by have:=h.1;omega⟩
 obtain⟨j,rfl⟩:∃ j,k=j+1:=⟨k-1,by omega⟩
 have e:=C_abs q j
 rcases h.dvd_mul (⟨C q j,e⟩:q+1∣(j+1)*C (q+1) (j+1)) with hd|hd
 . have:=Nat.le_of_dvd (by omega) hd;omega
 . exact hd
theorem IsP.sum_mod {p:Nat} (h:IsP p) (a:Nat):∀ m,m<p->sumC p a (m+1)%p=1%p
 | 0,_=>by show(0+C p 0*a^0)%p=_;rw[C_zero];simp
 | m+1,hm=>by
  show(sumC p a (m+1)+C p (m+1)*a^(m+1))%p=_
  rw[Nat.add_mod,h.sum_mod a m (by omega),Nat.mod_eq_zero_of_dvd (Nat.dvd_trans (h.dvd_C (by omega) hm) (Nat.dvd_mul_right _ _))]
  simp
theorem IsP.frob {p:Nat} (h:IsP p) (a:Nat):(a+1)^p%p=(a^p+1)%p:=by
 have h2:=h.1
 rw[binom]
 show(sumC p a p+C p p*a^p)%p=_
 rw[C_self]
 obtain⟨q,hq⟩:∃ q,p=q+1:=⟨p-1,by omega⟩
 have:=h.sum_mod a q (by omega)
 rw[<-hq] at this
 rw[Nat.add_mod,this,<-Nat.add_mod,Nat.one_mul,Nat.add_comm]
theorem IsP.fermat {p:Nat} (h:IsP p):∀ a,a^p%p=a%p
 | 0=>by rw[Nat.zero_pow (by have:=h.1;omega)]
 | a+1=>by rw[h.frob,Nat.add_mod,h.fermat a,<-Nat.add_mod]
theorem IsP.fermat1 {p a:Nat} (h:IsP p) (ha:¬p∣a):a^(p-1)%p=1:=by
 have h2:=h.1
 have e:(a^p:Nat)%p=a%p:=h.fermat a
 have e2:(p:Int)∣(a:Int)*((a:Int)^(p-1)-1):=by
  have e3:((a^p:Nat):Int)%p=(a:Int)%p:=by exact_mod_cast e
  have e4:=Int.emod_emod_of_dvd ((a^p:Nat):Int) (Int.dvd_refl (p:Int))
  have e5:(p:Int)∣((a^p:Nat):Int)-a:=Int.dvd_of_emod_eq_zero (Int.emod_eq_emod_iff_emod_sub_eq_zero.1 e3)
  have e6:((a^p:Nat):Int)=(a:Int)*(a:Int)^(p-1):=by
   obtain⟨q,hq⟩:∃ q,p=q+1:=⟨p-1,by omega⟩
   rw[hq,Nat.pow_succ];simp[Int.mul_comm]
  rw[e6] at e5
  rwa [Int.mul_sub,Int.mul_one]
 rcases h.int _ _ e2 with hd|hd
 . exact absurd (Int.natCast_dvd_natCast.1 hd) ha
 . have e3:((a:Int)^(p-1))%p=1%p:=Int.emod_eq_emod_iff_emod_sub_eq_zero.2 (Int.emod_eq_zero_of_dvd hd)
   have e4:((a^(p-1)%p:Nat):Int)=((1%p:Nat):Int):=by simp[e3]
   have e5:a^(p-1)%p=1%p:=by exact_mod_cast e4
   rw[e5,Nat.mod_eq_of_lt (by omega)]
end Go.Proofs.YtohhkjamddojmaaGreatDoor.NumLaw
namespace Go.Proofs.YtohhkjamddojmaaGreatDoor.NumLaw
theorem mod1 {a x r:Nat} (h2:2<=r) (h:a^x%r=1) (k:Nat):(a^(x*k))%r=1:=by
 rw[Nat.pow_mul,Nat.pow_mod,h,Nat.one_pow,Nat.mod_eq_of_lt (by omega)]
theorem pow_gcd {a r:Nat} (h2:2<=r) (x y:Nat):a^x%r=1->a^y%r=1->a^(Nat.gcd x y)%r=1:=by
 induction x,y using Nat.gcd.induction with
 | H0 y=>intro _ h;rwa [Nat.gcd_zero_left]
 | H1 x y hx ih=>
  intro h1 h3
  rw[Nat.gcd_rec]
  refine ih ?_ h1
  have e:a^y=a^(x*(y/x))*a^(y%x):=by rw[<-Nat.pow_add,Nat.div_add_mod]
  rw[e,Nat.mul_mod,mod1 h2 h1,Nat.one_mul,Nat.mod_mod] at h3
  exact h3
theorem least_factor (n:Nat) (h2:2<=n):∃ r,IsP r/\r∣n/\(r=n\/r*r<=n):=by
 have aux:∀ k,∀ d,d+k=n->2<=d->(∀ e,2<=e->e<d->¬e∣n)->∃ r,2<=r/\r∣n/\∀ e,2<=e->e<r->¬e∣n:=by
  intro k
  induction k with
  | zero=>intro d hd h2' h;exact⟨d,h2',by rw[show d=n by omega];exact Nat.dvd_refl _,h⟩
  | succ k ih=>
   intro d hd h2' h
   by_cases hdv:d∣n
   . exact⟨d,h2',hdv,h⟩
   . refine ih (d+1) (by omega) (by omega) (λe he hlt=>?_)
     by_cases hh:e=d
     . rw[hh];exact hdv
     . exact h e he (by omega)
 obtain⟨r,hr2,hrn,hmin⟩:=aux (n-2) 2 (by omega) (by omega) (λe he hlt=>by omega)
 refine⟨r,⟨hr2,λd hd=>?_⟩,hrn,?_⟩
 . have hdle:=Nat.le_of_dvd (by omega) hd
   have hd0:d≠0:=λhz=>by rw[hz] at hd;have:=Nat.eq_zero_of_zero_dvd hd;omega
   by_cases h1:d=1
   . exact .inl h1
   . right
     rcases Nat.lt_or_ge d r with hlt|hge
     . exact absurd (Nat.dvd_trans hd hrn) (hmin d (by omega) hlt)
     . omega
 . obtain⟨s,hs⟩:=hrn
   by_cases h1:s=1
   . left;rw[hs,h1,Nat.mul_one]
   . right
     have hs0:s≠0:=λhz=>by rw[hz] at hs;omega
     rcases Nat.lt_or_ge s r with hlt|hge
     . exact absurd (⟨r,by rw[hs,Nat.mul_comm]⟩:s∣n) (hmin s (by omega) hlt)
     . rw[hs];exact Nat.mul_le_mul_left _ hge
theorem pock1 {n a q m r:Nat} (hq:IsP q) (hn:n=q*m+1) (h1:a^(q*m)%n=1) (hg:Nat.gcd (a^m%n+(n-1)) n=1) (hr:IsP r) (hrn:r∣n):q∣r-1:=by
 have hr2:=hr.1
 have hn0:0<n:=by omega
 have e1:a^(q*m)%r=1:=by
  have:=Nat.mod_mod_of_dvd (a^(q*m)) hrn
  rw[h1] at this
  rw[<-this,Nat.mod_eq_of_lt (by omega)]
 by_cases hq1:q∣r-1
 . exact hq1
 . exfalso
   have ha:¬r∣a:=by
    intro hd
    have hqm:q*m≠0:=by
     intro hz
     rw[hz] at hn
     have:=Nat.le_of_dvd hn0 hrn
     omega
    obtain⟨k,hk⟩:∃ k,q*m=k+1:=⟨q*m-1,by omega⟩
    rw[hk,Nat.pow_succ,Nat.mod_eq_zero_of_dvd (Nat.dvd_trans hd (Nat.dvd_mul_left _ _))] at e1
    omega
   have e2:=hr.fermat1 ha
   have e3:=pow_gcd hr2 _ _ e1 e2
   have hd:Nat.gcd (q*m) (r-1)∣m:=by
    refine Nat.Coprime.dvd_of_dvd_mul_left ?_ (Nat.gcd_dvd_left (q*m) (r-1))
    refine Nat.Coprime.symm (hq.coprime (λhd=>hq1 (Nat.dvd_trans hd (Nat.gcd_dvd_right _ _))))
   obtain⟨k,hk⟩:=hd
   have e4:a^m%r=1:=by rw[hk];exact mod1 hr2 e3 k
   have e5:(a^m%n)%r=1:=by rw[Nat.mod_mod_of_dvd _ hrn];exact e4
   have e6:r∣a^m%n+(n-1):=by
    obtain⟨s,hs⟩:=hrn
    have e7:=Nat.div_add_mod (a^m%n) r
    rw[e5] at e7
    refine⟨(a^m%n)/r+s,?_⟩
    rw[Nat.mul_add,<-hs]
    omega
   have:=Nat.dvd_gcd e6 hrn
   rw[hg] at this
   have:=Nat.le_of_dvd (by omega) this
   omega
theorem isP_of_factor {n F:Nat} (h2:2<=n) (hF:n<(F+1)*(F+1)) (h:∀ r,IsP r->r∣n->F∣r-1):IsP n:=by
 obtain⟨r,hr,hrn,e⟩:=least_factor n h2
 rcases e with rfl|e
 . exact hr
 . exfalso
   have hr2:=hr.1
   have hle:F<=r-1:=Nat.le_of_dvd (by omega) (h r hr hrn)
   have:(F+1)*(F+1)<=r*r:=Nat.mul_le_mul (by omega) (by omega)
   omega
def pm (n:Nat):Nat->Nat->Nat->Nat
 | 0,_,_=>1%n
 | k+1,a,e=>if e=0 then 1%n else if e%2=1 then a*pm n k (a*a%n) (e/2)%n else pm n k (a*a%n) (e/2)
theorem pm_eq (n:Nat):∀ k a e,e<2^k->pm n k a e=a^e%n
 | 0,a,e,h=>by rw[show e=0 by simpa using h];rfl
 | k+1,a,e,h=>by
  unfold pm
  by_cases h0:e=0
  . rw[if_pos h0,h0];rfl
  . rw[if_neg h0]
    have ih:=pm_eq n k (a*a%n) (e/2) (by rw[Nat.pow_succ] at h;omega)
    have hp:(a*a%n)^(e/2)%n=a^(2*(e/2))%n:=by
     rw[<-Nat.pow_mod,Nat.pow_mul,show a^2=a*a by rw[Nat.pow_two]]
    by_cases h1:e%2=1
    . rw[if_pos h1,ih,hp]
      have e1:e=2*(e/2)+1:=by omega
      conv=>rhs;rw[e1,Nat.pow_succ]
      rw[Nat.mul_mod,Nat.mod_mod,<-Nat.mul_mod,Nat.mul_comm]
    . rw[if_neg h1,ih,hp]
      have e1:2*(e/2)=e:=by omega
      rw[e1]
def Part (n F:Nat):Prop:=∀ r,IsP r->r∣n->F∣r-1
theorem zyj (n:Nat):Part n 1:=λ_ _ _=>Nat.one_dvd _
theorem zyy {n F q:Nat} (a m k:Nat) (hF:Part n F) (hq:IsP q) (h:(n==q*m+1&&pm n k a (q*m)==1&&Nat.gcd (pm n k a m+(n-1)) n==1&&decide (q*m<2^k)&&decide (m<2^k)&&Nat.gcd F q==1)=true):Part n (F*q):=by
 simp only[Bool.and_eq_true,beq_iff_eq,decide_eq_true_eq] at h
 obtain⟨⟨⟨⟨⟨h1,h2⟩,h3⟩,h6⟩,h7⟩,h8⟩:=h
 rw[pm_eq n k a _ h6] at h2
 rw[pm_eq n k a _ h7] at h3
 exact λr hr hrn=>Nat.Coprime.mul_dvd_of_dvd_of_dvd h8 (hF r hr hrn) (pock1 hq h1 h2 h3 hr hrn)
theorem zxz {n F:Nat} (hF:Part n F) (h:(decide (2<=n)&&decide (n<(F+1)*(F+1)))=true):IsP n:=by
 simp only[Bool.and_eq_true,decide_eq_true_eq] at h
 exact isP_of_factor h.1 h.2 hF
def trial (n:Nat):Nat->Nat->Bool
 | 0,_=>false
 | k+1,d=>if n<d*d then true else if n%d=0 then false else trial n k (d+1)
theorem trial_ok (n:Nat) (h2:2<=n):∀ k d,2<=d->trial n k d=true->(∀ e,2<=e->e<d->¬e∣n)->IsP n:=by
 intro k
 induction k with
 | zero=>intro d _ h;cases h
 | succ k ih=>
  intro d hd h hall
  unfold trial at h
  by_cases c1:n<d*d
  . obtain⟨r,hr,hrn,e⟩:=least_factor n h2
    rcases e with rfl|e
    . exact hr
    . exfalso
      refine hall r hr.1 ?_ hrn
      rcases Nat.lt_or_ge r d with hlt|hge
      . exact hlt
      . have:=Nat.mul_le_mul hge hge;omega
  . rw[if_neg c1] at h
    by_cases c2:n%d=0
    . rw[if_pos c2] at h;cases h
    . rw[if_neg c2] at h
      refine ih (d+1) (by omega) h (λe he hlt=>?_)
      by_cases hh:e=d
      . rw[hh];exact λhdv=>c2 (Nat.mod_eq_zero_of_dvd hdv)
      . exact hall e he (by omega)
theorem small (n k:Nat) (h:(decide (2<=n)&&trial n k 2)=true):IsP n:=by
 simp only[Bool.and_eq_true,decide_eq_true_eq] at h
 exact trial_ok n h.1 k 2 (by omega) h.2 (λe he hlt=>by omega)
end Go.Proofs.YtohhkjamddojmaaGreatDoor.NumLaw
namespace Go.Proofs.YtohhkjamddojmaaGreatDoor.EcLaw
structure Prm (p:Int):Prop where
 two:2<p
 mul:∀ x y:Int,p∣x*y->p∣x\/p∣y
theorem Prm.not1 {p:Int} (h:Prm p):¬p∣1:=by
 intro hd
 have:=Int.le_of_dvd (by decide) hd
 have:=h.two
 omega
theorem Prm.not2 {p:Int} (h:Prm p):¬p∣2:=by
 intro hd
 have:=Int.le_of_dvd (by decide) hd
 have:=h.two
 omega
theorem Prm.cancel {p d x:Int} (h:Prm p) (hd:¬p∣d) (hx:p∣d*x):p∣x:=(h.mul _ _ hx).resolve_left hd
theorem Prm.nmul {p d x:Int} (h:Prm p) (hd:¬p∣d) (hx:¬p∣x):¬p∣d*x:=λhh=>(h.mul _ _ hh).elim hd hx
theorem Prm.sq {p x:Int} (h:Prm p) (hx:p∣x*x):p∣x:=(h.mul _ _ hx).elim id id
theorem Prm.inv_aux {p:Int} (h:Prm p) (n:Nat):∀ x:Int,0<x->x<p->x<=n->∃ i,p∣x*i-1:=by
 induction n with
 | zero=>intro x h0 _ hn;omega
 | succ n ih=>
  intro x h0 hp hn
  by_cases h1:x=1
  . exact⟨1,by subst h1;simp⟩
  . have hr0:0<=p%x:=Int.emod_nonneg _ (by omega)
    have hr1:p%x<x:=Int.emod_lt_of_pos _ h0
    have hdm:=Int.emod_add_mul_ediv p x
    by_cases hz:p%x=0
    . exfalso
      have hpx:p∣x*(p/x):=⟨1,by omega⟩
      rcases h.mul _ _ hpx with hd|hd
      . have:=Int.le_of_dvd h0 hd;omega
      . have hq:0<p/x:=by
         rcases Int.lt_or_le 0 (p/x) with hq|hq
         . exact hq
         . exfalso
           have:x*(p/x)<=0:=Int.mul_nonpos_of_nonneg_of_nonpos (by omega) hq
           have:=h.two;omega
        have hle:=Int.le_of_dvd hq hd
        have:2*(p/x)<=x*(p/x):=Int.mul_le_mul_of_nonneg_right (by omega) (by omega)
        have:=h.two
        omega
    . obtain⟨j,hj⟩:=ih (p%x) (by omega) (by omega) (by omega)
      obtain⟨k,hk⟩:=hj
      refine⟨-(p/x)*j,k-j,?_⟩
      have e:p%x=p-x*(p/x):=by omega
      rw[e] at hk
      grind
theorem Prm.inv {p:Int} (h:Prm p) (x:Int) (hx:¬p∣x):∃ i,p∣x*i-1:=by
 have hp:=h.two
 have h0:0<=x%p:=Int.emod_nonneg _ (by omega)
 have h1:x%p<p:=Int.emod_lt_of_pos _ (by omega)
 have h2:x%p≠0:=λhh=>hx (Int.dvd_of_emod_eq_zero hh)
 obtain⟨i,k,hk⟩:=h.inv_aux (x%p).toNat (x%p) (by omega) h1 (by omega)
 refine⟨i,k+(x/p)*i,?_⟩
 have e:x=x%p+p*(x/p):=by have:=Int.emod_add_mul_ediv x p;omega
 generalize x%p=r at *
 generalize x/p=q at *
 subst e
 grind
noncomputable def inv (p x:Int):Int:=open Classical in if h:∃ i,p∣x*i-1 then h.choose else 0
theorem inv_spec {p:Int} (h:Prm p) {x:Int} (hx:¬p∣x):p∣x*inv p x-1:=by
 unfold inv
 rw[dif_pos (h.inv x hx)]
 exact(h.inv x hx).choose_spec
inductive Pt where
 | inf
 | aff (x y:Int)
 deriving DecidableEq
def neg (p:Int):Pt->Pt
 | .inf=>.inf
 | .aff x y=>.aff x ((-y)%p)
noncomputable def slope (p a x1 y1 x2 y2:Int):Int:=if p∣x1-x2 then(3*x1^2+a)*inv p (2*y1) else(y1-y2)*inv p (x1-x2)
noncomputable def add (p a:Int):Pt->Pt->Pt
 | .inf,B=>B
 | .aff x y,.inf=>.aff x y
 | .aff x1 y1,.aff x2 y2=>if p∣x1-x2/\p∣y1+y2 then .inf else
  .aff (((slope p a x1 y1 x2 y2)^2-x1-x2)%p) ((slope p a x1 y1 x2 y2*(x1-((slope p a x1 y1 x2 y2)^2-x1-x2))-y1)%p)
structure Cv (p a b:Int):Prop where
 prm:Prm p
 smooth:∀ x,p∣x^3+a*x+b->¬p∣3*x^2+a
def On (p a b:Int):Pt->Prop
 | .inf=>True
 | .aff x y=>0<=x/\x<p/\0<=y/\y<p/\p∣y^2-(x^3+a*x+b)
structure Sl (p a x1 y1 x2 y2 l:Int):Prop where
 ne:¬(p∣x1-x2/\p∣y1+y2)
 chord:p∣l*(x1-x2)-(y1-y2)
 tang:p∣l*(y1+y2)-(x1^2+x1*x2+x2^2+a)
theorem zzq {p e t:Int} (q:Int) (h:p∣e) (ht:t=q*e):p∣t:=ht ▸ Int.dvd_trans h (Int.dvd_mul_left _ _)
theorem lin2 {p e f t:Int} (q r:Int) (h:p∣e) (h':p∣f) (ht:t=q*e+r*f):p∣t:=by
 subst ht
 exact Int.dvd_add (Int.dvd_trans h (Int.dvd_mul_left _ _)) (Int.dvd_trans h' (Int.dvd_mul_left _ _))
theorem lin3 {p e f g t:Int} (q r s:Int) (h:p∣e) (h':p∣f) (h'':p∣g) (ht:t=q*e+r*f+s*g):p∣t:=by
 subst ht
 exact Int.dvd_add (lin2 q r h h' rfl) (Int.dvd_trans h'' (Int.dvd_mul_left _ _))
theorem lin4 {p e f g i t:Int} (q r s u:Int) (h:p∣e) (h':p∣f) (h'':p∣g) (h3:p∣i) (ht:t=q*e+r*f+s*g+u*i):p∣t:=by
 subst ht
 exact Int.dvd_add (lin3 q r s h h' h'' rfl) (Int.dvd_trans h3 (Int.dvd_mul_left _ _))
theorem zyq (p x:Int):p∣x%p-x:=⟨-(x/p),by have:=Int.emod_add_mul_ediv x p;grind⟩
theorem emod_eq_of_dvd_sub {p x y:Int} (h:p∣x-y):x%p=y%p:=Int.emod_eq_emod_iff_emod_sub_eq_zero.2 (Int.emod_eq_zero_of_dvd h)
theorem eq_of_range {p x y:Int} (h0:0<=x) (h1:x<p) (h2:0<=y) (h3:y<p) (h:p∣x-y):x=y:=by
 have:=emod_eq_of_dvd_sub h
 rwa [Int.emod_eq_of_lt h0 h1,Int.emod_eq_of_lt h2 h3] at this
theorem Sl.unique {p a x1 y1 x2 y2 l m:Int} (h:Prm p) (hl:Sl p a x1 y1 x2 y2 l) (hm:Sl p a x1 y1 x2 y2 m):p∣l-m:=by
 have e1:p∣(l-m)*(x1-x2):=lin2 1 (-1) hl.chord hm.chord (by grind)
 have e2:p∣(l-m)*(y1+y2):=lin2 1 (-1) hl.tang hm.tang (by grind)
 rcases h.mul _ _ e1 with h1|h1
 . exact h1
 . rcases h.mul _ _ e2 with h2|h2
   . exact h2
   . exact absurd ⟨h1,h2⟩ hl.ne
theorem slope_sl {p a b x1 y1 x2 y2:Int} (h:Prm p) (h1:p∣y1^2-(x1^3+a*x1+b)) (h2:p∣y2^2-(x2^3+a*x2+b)) (hne:¬(p∣x1-x2/\p∣y1+y2)) :
 Sl p a x1 y1 x2 y2 (slope p a x1 y1 x2 y2):=by
 unfold slope
 by_cases hx:p∣x1-x2
 . rw[if_pos hx]
   have hy:¬p∣y1+y2:=λhh=>hne ⟨hx,hh⟩
   have e0:p∣(y1+y2)*(y1-y2):=lin3 1 (-1) (x1^2+x1*x2+x2^2+a) h1 h2 hx (by grind)
   have hyy:p∣y1-y2:=h.cancel hy e0
   have h2y:¬p∣2*y1:=λhh=>hy (lin2 1 (-1) hh hyy (by grind))
   have hi:=inv_spec h h2y
   generalize inv p (2*y1)=i at *
   refine⟨hne,?_,?_⟩
   . exact lin2 ((3*x1^2+a)*i) (-1) hx hyy (by grind)
   . exact lin3 (3*x1^2+a) ((-1)*(3*x1^2+a)*i) (2*x1+x2) hi hyy hx (by grind)
 . rw[if_neg hx]
   have hi:=inv_spec h hx
   generalize inv p (x1-x2)=i at *
   have c1:p∣(y1-y2)*i*(x1-x2)-(y1-y2):=lin2 (y1-y2) 0 hi hi (by grind)
   refine⟨hne,c1,?_⟩
   refine h.cancel hx ?_
   exact lin3 (y1+y2) 1 (-1) c1 h1 h2 (by grind)
theorem idx (l m u1 u3 t c u4 u5:Int) (h4:u4=l^2-u1-c) (h5:u5=m^2-u3-c) :
 (t+l*u4+m*u3)^2*(u1-u5)^2-(t+l*u1+m*u5)^2*(u3-u4)^2-(u3+u4-u1-u5)*(u3-u4)^2*(u1-u5)^2=(-2*c^3+2*c^2*l^2-2*c^2*l*m+2*c^2*m^2-6*c^2*u1-6*c^2*u3+2*c*l^3*m-2*c*l^2*m^2+5*c*l^2*u1+5*c*l^2*u3+2*c*l*m^3-2*c*l*m*u1-2*c*l*m*u3+2*c*l*t+5*c*m^2*u1+5*c*m^2*u3+2*c*m*t-6*c*u1^2-12*c*u1*u3-6*c*u3^2-l^4*u1-2*l^3*m^3+2*l^3*m*u3-l^3*t-3*l^2*m^2*u1-3*l^2*m^2*u3-l^2*m*t+3*l^2*u1^2+6*l^2*u1*u3+3*l^2*u3^2+2*l*m^3*u1-l*m^2*t+2*l*t*u1+2*l*t*u3-m^4*u3-m^3*t+3*m^2*u1^2+6*m^2*u1*u3+3*m^2*u3^2+2*m*t*u1+2*m*t*u3-2*u1^3-6*u1^2*u3-6*u1*u3^2-2*u3^3)*(t*(l-m)+u1*u4-u3*u5):=by
 subst h4 h5;grind
theorem idy (l m u1 u3 t c u4 u5:Int) (h4:u4=l^2-u1-c) (h5:u5=m^2-u3-c) :
 ((t+l*u4+m*u3)*(u1-u5)-(t+l*u1+m*u5)*(u3-u4))*((t+l*u4+m*u3)^2-(u3+u4+c)*(u3-u4)^2)-(((t+l*u4+m*u3)-m*(u3-u4))*(u1-u5)*u3-((t+l*u1+m*u5)-l*(u1-u5))*(u3-u4)*u1)*(u3-u4)^2=(2*c^3*l-4*c^2*l^3-2*c^2*l*m^2+6*c^2*l*u1+4*c^2*l*u3-2*c^2*m*u3-c^2*t+2*c*l^5+4*c*l^3*m^2-8*c*l^3*u1-7*c*l^3*u3-c*l^2*m*u3-c*l^2*t-4*c*l*m^2*u1-5*c*l*m^2*u3-2*c*l*m*t+6*c*l*u1^2+8*c*l*u1*u3+2*c*l*u3^2+c*m^3*u3+c*m^2*t-4*c*m*u1*u3-4*c*m*u3^2-2*c*t*u1-2*c*t*u3-2*l^5*m^2+2*l^5*u1+3*l^5*u3+3*l^4*m*u3+2*l^4*t+4*l^3*m^2*u1+5*l^3*m^2*u3+2*l^3*m*t-4*l^3*u1^2-7*l^3*u1*u3-2*l^3*u3^2-l^2*m^3*u3-l^2*m^2*t-l^2*m*u1*u3+2*l^2*m*u3^2-l^2*t*u1+l^2*t*u3-2*l*m^2*u1^2-5*l*m^2*u1*u3-2*l*m*t*u1+2*l*m*t*u3+l*t^2+2*l*u1^3+4*l*u1^2*u3+2*l*u1*u3^2+m^3*u1*u3+2*m^3*u3^2+m^2*t*u1+3*m^2*t*u3+m*t^2-2*m*u1^2*u3-4*m*u1*u3^2-2*m*u3^3-t*u1^2-2*t*u1*u3-t*u3^2)*(t*(l-m)+u1*u4-u3*u5):=by
 subst h4 h5;grind
theorem add_aff {p a b x1 y1 x2 y2 l:Int} (h:Prm p) (h1:On p a b (.aff x1 y1)) (h2:On p a b (.aff x2 y2)) (hl:Sl p a x1 y1 x2 y2 l) :
 add p a (.aff x1 y1) (.aff x2 y2)=.aff ((l^2-x1-x2)%p) ((l*(x1-(l^2-x1-x2))-y1)%p):=by
 have hs:=slope_sl h h1.2.2.2.2 h2.2.2.2.2 hl.ne
 have hu:=hs.unique h hl
 simp only[add]
 rw[if_neg hl.ne]
 generalize slope p a x1 y1 x2 y2=s at *
 congr 1
 . exact emod_eq_of_dvd_sub (zzq (s+l) hu (by grind))
 . exact emod_eq_of_dvd_sub (zzq (x1+x1+x2+x1-x1-(s^2+s*l+l^2)) hu (by grind))
theorem add_opp {p a x1 y1 x2 y2:Int} (h:p∣x1-x2/\p∣y1+y2):add p a (.aff x1 y1) (.aff x2 y2)=.inf:=by
 simp only[add]
 rw[if_pos h]
theorem Sl.symm {p a x1 y1 x2 y2 l:Int} (h:Sl p a x1 y1 x2 y2 l):Sl p a x2 y2 x1 y1 l:=
 ⟨λhh=>h.ne ⟨by have:=Int.dvd_neg.2 hh.1;rwa [Int.neg_sub] at this,by rw[Int.add_comm];exact hh.2⟩,
  zzq (-1) h.chord (by grind),zzq 1 h.tang (by grind)⟩
theorem add_inf (p a:Int) (A:Pt):add p a A .inf=A:=by cases A <;> rfl
theorem add_comm {p a b:Int} (h:Prm p) {A B:Pt} (hA:On p a b A) (hB:On p a b B):add p a A B=add p a B A:=by
 match A,B with
 | .inf,.inf=>rfl
 | .inf,.aff _ _=>rfl
 | .aff _ _,.inf=>rfl
 | .aff x1 y1,.aff x2 y2=>
  by_cases hne:p∣x1-x2/\p∣y1+y2
  . rw[add_opp hne,add_opp ⟨by have:=Int.dvd_neg.2 hne.1;rwa [Int.neg_sub] at this,by rw[Int.add_comm];exact hne.2⟩]
  . have hs:=slope_sl h hA.2.2.2.2 hB.2.2.2.2 hne
    rw[add_aff h hA hB hs,add_aff h hB hA hs.symm]
    have hc:=hs.chord
    generalize slope p a x1 y1 x2 y2=s at *
    congr 1
    . exact congrArg (· % p) (by grind)
    . exact emod_eq_of_dvd_sub (zzq 1 hc (by grind))
theorem add_on {p a b:Int} (h:Prm p) {A B:Pt} (hA:On p a b A) (hB:On p a b B):On p a b (add p a A B):=by
 match A,B with
 | .inf,.inf=>trivial
 | .inf,.aff _ _=>exact hB
 | .aff _ _,.inf=>exact hA
 | .aff x1 y1,.aff x2 y2=>
  by_cases hne:p∣x1-x2/\p∣y1+y2
  . rw[add_opp hne];trivial
  . have hs:=slope_sl h hA.2.2.2.2 hB.2.2.2.2 hne
    rw[add_aff h hA hB hs]
    have hc:=hs.chord
    have ht:=hs.tang
    have hp:=h.two
    have e1:=hA.2.2.2.2
    have e2:=hB.2.2.2.2
    generalize slope p a x1 y1 x2 y2=s at *
    refine⟨Int.emod_nonneg _ (by omega),Int.emod_lt_of_pos _ (by omega),Int.emod_nonneg _ (by omega),Int.emod_lt_of_pos _ (by omega),?_⟩
    have q1:=zyq p (s^2-x1-x2)
    have q2:=zyq p (s*(x1-(s^2-x1-x2))-y1)
    generalize (s^2-x1-x2)%p=X at *
    generalize (s*(x1-(s^2-x1-x2))-y1)%p=Y at *
    -- with the exact coordinates
    have key:p∣(s*(x1-(s^2-x1-x2))-y1)^2-((s^2-x1-x2)^3+a*(s^2-x1-x2)+b):=by
     exact lin3 1 (s^2-x1-x2-x1) (-(s^2-x1-x2-x1)*s) e1 ht hc (by grind)
    exact lin3 1 (Y+(s*(x1-(s^2-x1-x2))-y1)) (-(X^2+X*(s^2-x1-x2)+(s^2-x1-x2)^2+a)) key q2 q1 (by grind)
theorem neg_on {p a b:Int} (h:Prm p) {A:Pt} (hA:On p a b A):On p a b (neg p A):=by
 match A with
 | .inf=>trivial
 | .aff x y=>
  have hp:=h.two
  refine⟨hA.1,hA.2.1,Int.emod_nonneg _ (by omega),Int.emod_lt_of_pos _ (by omega),?_⟩
  have q:=zyq p (-y)
  have e:=hA.2.2.2.2
  generalize (-y)%p=Y at *
  exact lin2 1 (Y-y) e q (by grind)
theorem add_neg {p a b:Int} {A:Pt} (hA:On p a b A):add p a A (neg p A)=.inf:=by
 match A with
 | .inf=>rfl
 | .aff x y=>
  refine add_opp ⟨by simp,?_⟩
  have q:=zyq p (-y)
  exact zzq 1 q (by grind)
theorem neg_neg {p a b:Int} (h:Prm p) {A:Pt} (hA:On p a b A):neg p (neg p A)=A:=by
 match A with
 | .inf=>rfl
 | .aff x y=>
  have hp:=h.two
  simp only[neg]
  congr 1
  refine eq_of_range (p:=p) (Int.emod_nonneg _ (by omega)) (Int.emod_lt_of_pos _ (by omega)) hA.2.2.1 hA.2.2.2.1 ?_
  have q:=zyq p (-y)
  have q2:=zyq p (-((-y)%p))
  exact lin2 (-1) 1 q q2 (by grind)
theorem aff_eq {p a b x y x' y':Int} (h:On p a b (.aff x y)) (h':On p a b (.aff x' y')) (hx:p∣x-x') (hy:p∣y-y'):Pt.aff x y=.aff x' y':=by
 rw[eq_of_range h.1 h.2.1 h'.1 h'.2.1 hx,eq_of_range h.2.2.1 h.2.2.2.1 h'.2.2.1 h'.2.2.2.1 hy]
theorem add_inv {p a b x1 y1 x2 y2:Int} (h:Prm p) (h1:On p a b (.aff x1 y1)) (h2:On p a b (.aff x2 y2)) (hne:¬(p∣x1-x2/\p∣y1+y2)) :
 ∃ l x3 y3,add p a (.aff x1 y1) (.aff x2 y2)=.aff x3 y3/\On p a b (.aff x3 y3)/\Sl p a x1 y1 x2 y2 l/\p∣x3-(l^2-x1-x2)/\p∣y3-(l*(x1-x3)-y1):=by
 have hs:=slope_sl h h1.2.2.2.2 h2.2.2.2.2 hne
 have e:=add_aff h h1 h2 hs
 have ho:=add_on h h1 h2
 rw[e] at ho
 refine⟨_,_,_,e,ho,hs,zyq p _,?_⟩
 have q1:=zyq p ((slope p a x1 y1 x2 y2)^2-x1-x2)
 have q2:=zyq p (slope p a x1 y1 x2 y2*(x1-((slope p a x1 y1 x2 y2)^2-x1-x2))-y1)
 generalize slope p a x1 y1 x2 y2=s at *
 generalize (s^2-x1-x2)%p=X at *
 generalize (s*(x1-(s^2-x1-x2))-y1)%p=Y at *
 exact lin2 1 s q2 q1 (by grind)
theorem add_is {p a b x1 y1 x2 y2 l x3 y3:Int} (h:Prm p) (h1:On p a b (.aff x1 y1)) (h2:On p a b (.aff x2 y2)) (hl:Sl p a x1 y1 x2 y2 l)
 (h3:0<=x3/\x3<p/\0<=y3/\y3<p) (hx:p∣x3-(l^2-x1-x2)) (hy:p∣y3-(l*(x1-x3)-y1)) :
 add p a (.aff x1 y1) (.aff x2 y2)=.aff x3 y3:=by
 rw[add_aff h h1 h2 hl]
 have hp:=h.two
 congr 1
 . refine eq_of_range (p:=p) (Int.emod_nonneg _ (by omega)) (Int.emod_lt_of_pos _ (by omega)) h3.1 h3.2.1 ?_
   exact lin2 1 (-1) (zyq p (l^2-x1-x2)) hx (by grind)
 . refine eq_of_range (p:=p) (Int.emod_nonneg _ (by omega)) (Int.emod_lt_of_pos _ (by omega)) h3.2.2.1 h3.2.2.2 ?_
   exact lin3 1 (-1) (l*1) (zyq p (l*(x1-(l^2-x1-x2))-y1)) hy hx (by grind)
theorem dvd_sub_comm' {p x y:Int} (h:p∣x-y):p∣y-x:=zzq (-1) h (by grind)
theorem neg_add {p a b:Int} (h:Prm p) {A B:Pt} (hA:On p a b A) (hB:On p a b B):neg p (add p a A B)=add p a (neg p A) (neg p B):=by
 match A,B with
 | .inf,_=>rfl
 | .aff _ _,.inf=>rfl
 | .aff x1 y1,.aff x2 y2=>
  have q1:=zyq p (-y1)
  have q2:=zyq p (-y2)
  have n1:On p a b (.aff x1 ((-y1)%p)):=neg_on h hA
  have n2:On p a b (.aff x2 ((-y2)%p)):=neg_on h hB
  show _=add p a (.aff x1 ((-y1)%p)) (.aff x2 ((-y2)%p))
  generalize (-y1)%p=z1 at *
  generalize (-y2)%p=z2 at *
  by_cases hne:p∣x1-x2/\p∣y1+y2
  . rw[add_opp hne,add_opp ⟨hne.1,lin3 (-1) 1 1 hne.2 q1 q2 (by grind)⟩];rfl
  . obtain⟨l,x4,y4,e,h4,hl,hx4,hy4⟩:=add_inv h hA hB hne
    rw[e]
    have h4':On p a b (.aff x4 ((-y4)%p)):=neg_on h h4
    have q4:=zyq p (-y4)
    show Pt.aff x4 ((-y4)%p)=_
    generalize (-y4)%p=z4 at *
    refine(add_is h n1 n2 (l:=-l) ⟨λhh=>hne ⟨hh.1,lin3 (-1) 1 1 hh.2 q1 q2 (by grind)⟩,?_,?_⟩ ⟨h4'.1,h4'.2.1,h4'.2.2.1,h4'.2.2.2.1⟩ ?_ ?_).symm
    . exact lin3 (-1) (-1) 1 hl.chord q1 q2 (by grind)
    . exact lin3 1 (-l) (-l) hl.tang q1 q2 (by grind)
    . exact zzq 1 hx4 (by grind)
    . exact lin3 1 (-1) 1 q4 hy4 q1 (by grind)
theorem cancel {p a b:Int} (h:Cv p a b) {A C:Pt} (hA:On p a b A) (hC:On p a b C):add p a (neg p A) (add p a A C)=C:=by
 have hp:=h.prm
 match A,C with
 | .inf,.inf=>rfl
 | .inf,.aff _ _=>rfl
 | .aff x y,.inf=>
  show add p a (neg p (.aff x y)) (.aff x y)=.inf
  rw[add_comm hp (neg_on hp hA) hA]
  exact add_neg hA
 | .aff x1 y1,.aff x2 y2=>
  by_cases hne:p∣x1-x2/\p∣y1+y2
  . rw[add_opp hne]
    show Pt.aff x1 ((-y1)%p)=.aff x2 y2
    refine aff_eq (neg_on hp hA:On p a b (.aff x1 ((-y1)%p))) hC hne.1 ?_
    exact lin2 1 (-1) (zyq p (-y1)) hne.2 (by grind)
  . obtain⟨l,x4,y4,e,h4,hl,hx4,hy4⟩:=add_inv hp hA hC hne
    rw[e]
    have hn:On p a b (.aff x1 ((-y1)%p)):=neg_on hp hA
    show add p a (.aff x1 ((-y1)%p)) (.aff x4 y4)=_
    have qn:=zyq p (-y1)
    generalize (-y1)%p=z1 at *
    have hc:=hl.chord
    have ht:=hl.tang
    have f1:=hA.2.2.2.2
    have f2:=hC.2.2.2.2
    have f4:=h4.2.2.2.2
    have br:p∣x4^2+x4*x1+x1^2+a-2*l*y1-l^2*(x4-x1):=lin3 (-1) l (x4-x2) ht hc hx4 (by grind)
    by_cases hne4:p∣x1-x4/\p∣z1+y4
    · -- A + C = A: A would be a singular point
      exfalso
      have e1:p∣2*y1:=lin4 l 1 (-1) 1 hne4.1 hy4 hne4.2 qn (by grind)
      have hy1:p∣y1:=hp.cancel hp.not2 e1
      have hs:p∣x1^3+a*x1+b:=lin2 y1 (-1) hy1 f1 (by grind)
      refine h.smooth x1 hs ?_
      exact lin3 1 (2*x1+x4-l^2) (2*l) br hne4.1 hy1 (by grind)
    . refine add_is hp hn h4 (l:=-l) ⟨hne4,?_,?_⟩ ⟨hC.1,hC.2.1,hC.2.2.1,hC.2.2.2.1⟩ ?_ ?_
      . exact lin2 1 (-1) hy4 qn (by grind)
      . exact lin3 (-1) (-l) (-l) br qn hy4 (by grind)
      . exact zzq 1 hx4 (by grind)
      . exact lin2 1 1 hc qn (by grind)
theorem core1 {p l m n k u1 u3 t c u4 u5:Int} (hp:Prm p) (h4:u4=l^2-u1-c) (h5:u5=m^2-u3-c) (hR:p∣t*(l-m)+u1*u4-u3*u5)
 (hn:p∣n*(u3-u4)-(t+l*u4+m*u3)) (hk:p∣k*(u1-u5)-(t+l*u1+m*u5)) (d1:¬p∣u3-u4) (d2:¬p∣u1-u5) :
 p∣n^2-k^2-(u3+u4-u1-u5)/\p∣(n-m)*u3-(k-l)*u1-(n-k)*(n^2-u4-u3-c):=by
 have ix:=idx l m u1 u3 t c u4 u5 h4 h5
 have iy:=idy l m u1 u3 t c u4 u5 h4 h5
 generalize hNN:t+l*u4+m*u3=N at *
 generalize hKK:t+l*u1+m*u5=K at *
 generalize hDD:u3-u4=D1 at *
 generalize hEE:u1-u5=D2 at *
 generalize u3+u4-u1-u5=S at *
 generalize hee:u3+u4+c=e at *
 have nd1:=hp.nmul d1 d1
 have nd2:=hp.nmul d2 d2
 have hX:p∣n^2-k^2-S:=by
  refine hp.cancel (hp.nmul nd1 nd2) ?_
  obtain⟨a1,ha1⟩:=hn
  obtain⟨a2,ha2⟩:=hk
  obtain⟨r,hr⟩:=hR
  rw[hr] at ix
  generalize (-2*c^3+2*c^2*l^2-2*c^2*l*m+2*c^2*m^2-6*c^2*u1-6*c^2*u3+2*c*l^3*m-2*c*l^2*m^2+5*c*l^2*u1+5*c*l^2*u3+2*c*l*m^3-2*c*l*m*u1-2*c*l*m*u3+2*c*l*t+5*c*m^2*u1+5*c*m^2*u3+2*c*m*t-6*c*u1^2-12*c*u1*u3-6*c*u3^2-l^4*u1-2*l^3*m^3+2*l^3*m*u3-l^3*t-3*l^2*m^2*u1-3*l^2*m^2*u3-l^2*m*t+3*l^2*u1^2+6*l^2*u1*u3+3*l^2*u3^2+2*l*m^3*u1-l*m^2*t+2*l*t*u1+2*l*t*u3-m^4*u3-m^3*t+3*m^2*u1^2+6*m^2*u1*u3+3*m^2*u3^2+2*m*t*u1+2*m*t*u3-2*u1^3-6*u1^2*u3-6*u1*u3^2-2*u3^3)=Q at ix
  have e1:n*D1=N+p*a1:=by omega
  have e2:k*D2=K+p*a2:=by omega
  have e3:(D1*D1)*(D2*D2)*(n^2-k^2-S)=(n*D1)^2*D2^2-(k*D2)^2*D1^2-S*D1^2*D2^2:=by grind
  refine⟨D2^2*a1*(2*N+p*a1)-D1^2*a2*(2*K+p*a2)+Q*r,?_⟩
  rw[e3,e1,e2]
  grind
 refine⟨hX,?_⟩
 refine hp.cancel (hp.nmul (hp.nmul nd1 d1) d2) ?_
 obtain⟨a1,ha1⟩:=hn
 obtain⟨a2,ha2⟩:=hk
 obtain⟨r,hr⟩:=hR
 rw[hr] at iy
 generalize (2*c^3*l-4*c^2*l^3-2*c^2*l*m^2+6*c^2*l*u1+4*c^2*l*u3-2*c^2*m*u3-c^2*t+2*c*l^5+4*c*l^3*m^2-8*c*l^3*u1-7*c*l^3*u3-c*l^2*m*u3-c*l^2*t-4*c*l*m^2*u1-5*c*l*m^2*u3-2*c*l*m*t+6*c*l*u1^2+8*c*l*u1*u3+2*c*l*u3^2+c*m^3*u3+c*m^2*t-4*c*m*u1*u3-4*c*m*u3^2-2*c*t*u1-2*c*t*u3-2*l^5*m^2+2*l^5*u1+3*l^5*u3+3*l^4*m*u3+2*l^4*t+4*l^3*m^2*u1+5*l^3*m^2*u3+2*l^3*m*t-4*l^3*u1^2-7*l^3*u1*u3-2*l^3*u3^2-l^2*m^3*u3-l^2*m^2*t-l^2*m*u1*u3+2*l^2*m*u3^2-l^2*t*u1+l^2*t*u3-2*l*m^2*u1^2-5*l*m^2*u1*u3-2*l*m*t*u1+2*l*m*t*u3+l*t^2+2*l*u1^3+4*l*u1^2*u3+2*l*u1*u3^2+m^3*u1*u3+2*m^3*u3^2+m^2*t*u1+3*m^2*t*u3+m*t^2-2*m*u1^2*u3-4*m*u1*u3^2-2*m*u3^3-t*u1^2-2*t*u1*u3-t*u3^2)=Q at iy
 clear ix hX hr hNN hKK h4 h5
 have e1:n*D1=N+p*a1:=by omega
 have e2:k*D2=K+p*a2:=by omega
 clear ha1 ha2
 have e3:(D1*D1*D1)*D2*((n-m)*u3-(k-l)*u1-(n-k)*(n^2-u4-u3-c))=D1^2*(((n*D1)-m*D1)*D2*u3-((k*D2)-l*D2)*D1*u1)-((n*D1)*D2-(k*D2)*D1)*((n*D1)^2-e*D1^2):=by subst hee;grind
 refine⟨-Q*r-a1*(((N+p*a1)^2+(N+p*a1)*N+N^2)*D2-((N+p*a1)+N)*(K+p*a2)*D1-e*D1^2*D2-D2*u3*D1^2)-a2*(u1*D1^3-D1*(N^2-e*D1^2)),?_⟩
 rw[e3,e1,e2]
 clear e1 e2 e3
 grind
theorem core2n {p l m n u1 u3 t c q u4:Int} (hp:Prm p) (h4:u4=l^2-u1-c) (d:p∣u3-u4) (hN:p∣t+l*u4+m*u3) (hr:p∣l*t+u1*u4-q)
 (ht:p∣n*(m*u3-l*u4)-(u4^2+u4*u3+u3^2+c*(u3+u4)+q)) (hW:¬p∣m*u3-l*u4):(¬p∣m-l)/\p∣n*(m-l)-((u3-u1)-l*(m-l)):=by
 refine⟨λh=>hW (lin2 u3 l h d (by grind)),?_⟩
 have h3:¬p∣u3:=λh=>hW (lin2 (m-l) l h d (by grind))
 refine hp.cancel h3 ?_
 exact lin4 1 (-1) l (-l*n) ht hr hN d (by subst h4;grind)
theorem core2k {p l m k u1 u3 t c u4 u5:Int} (hp:Prm p) (h4:u4=l^2-u1-c) (h5:u5=m^2-u3-c) (d:p∣u3-u4) (hN:p∣t+l*u4+m*u3)
 (hk:p∣k*(u1-u5)-(t+l*u1+m*u5)) (d2:¬p∣u1-u5):p∣k*(m-l)-((u3-u1)-m*(m-l)):=by
 have h3:¬p∣l+m:=λh=>d2 (lin2 (l-m) 1 h d (by subst h4 h5;grind))
 refine hp.cancel h3 ?_
 exact lin3 (-1) (-1) (k-l+m) hk hN d (by subst h4 h5;grind)
theorem core2f {p l m n k u1 u3 c u4 u5:Int} (hp:Prm p) (h4:u4=l^2-u1-c) (h5:u5=m^2-u3-c) (d:p∣u3-u4) (hd:¬p∣m-l)
 (hn:p∣n*(m-l)-((u3-u1)-l*(m-l))) (hk:p∣k*(m-l)-((u3-u1)-m*(m-l))) :
 p∣n^2-k^2-(u3+u4-u1-u5)/\p∣(n-m)*u3-(k-l)*u1-(n-k)*(n^2-u4-u3-c):=by
 have e:p∣n-k-(m-l):=hp.cancel hd (lin2 1 (-1) hn hk (by grind))
 have hX:p∣n^2-k^2-(u3+u4-u1-u5):=by
  subst h4 h5
  exact lin2 (n+k+m-l) 2 e hk (by grind)
 refine⟨hX,?_⟩
 exact lin2 (u1-(n^2-u4-u3-c)) (-(n-l)) e hn (by subst h4 h5;grind)
theorem core0 {p l m n k u1 u3 t c q u4 u5:Int} (hp:Prm p) (h4:u4=l^2-u1-c) (h5:u5=m^2-u3-c) (hr1:p∣l*t+u1*u4-q) (hr2:p∣m*t+u3*u5-q)
 (hn:p∣n*(u3-u4)-(t+l*u4+m*u3)) (hk:p∣k*(u1-u5)-(t+l*u1+m*u5))
 (htn:p∣n*(m*u3-l*u4)-(u4^2+u4*u3+u3^2+c*(u3+u4)+q)) (htk:p∣k*(l*u1-m*u5)-(u5^2+u5*u1+u1^2+c*(u1+u5)+q))
 (d1:¬(p∣u3-u4/\p∣m*u3-l*u4)) (d2:¬(p∣u1-u5/\p∣l*u1-m*u5)) :
 p∣n^2-k^2-(u3+u4-u1-u5)/\p∣(n-m)*u3-(k-l)*u1-(n-k)*(n^2-u4-u3-c):=by
 by_cases c1:p∣u3-u4
 . have hN:p∣t+l*u4+m*u3:=lin2 n (-1) c1 hn (by grind)
   obtain⟨hd,en⟩:=core2n hp h4 c1 hN hr1 htn (λh=>d1 ⟨c1,h⟩)
   have ek:p∣k*(m-l)-((u3-u1)-m*(m-l)):=by
    by_cases c2:p∣u1-u5
    . have hK:p∣t+m*u5+l*u1:=lin2 k (-1) c2 hk (by grind)
      have:=(core2n hp h5 c2 hK hr2 htk (λh=>d2 ⟨c2,h⟩)).2
      exact zzq (-1) this (by grind)
    . exact core2k hp h4 h5 c1 hN hk c2
   exact core2f hp h4 h5 c1 hd en ek
 . by_cases c2:p∣u1-u5
   . have hK:p∣t+m*u5+l*u1:=lin2 k (-1) c2 hk (by grind)
     obtain⟨hd,ek⟩:=core2n hp h5 c2 hK hr2 htk (λh=>d2 ⟨c2,h⟩)
     have hn':p∣n*(u3-u4)-(t+m*u3+l*u4):=zzq 1 hn (by grind)
     have en:=core2k hp h5 h4 c2 hK hn' c1
     obtain⟨e1,e2⟩:=core2f hp h5 h4 c2 hd ek en
     refine⟨zzq (-1) e1 (by grind),lin2 (-1) (n-k) e2 e1 (by grind)⟩
   . exact core1 hp h4 h5 (lin2 1 (-1) hr1 hr2 (by grind)) hn hk c1 c2
theorem assoc_core {p a x1 y1 x2 y2 x3 y3 x4 y4 x5 y5 x6 y6 x7 y7 l m n k:Int} (hp:Prm p)
 (hl:Sl p a x1 y1 x2 y2 l) (hx4:p∣x4-(l^2-x1-x2)) (hy4:p∣y4-(l*(x1-x4)-y1))
 (hm:Sl p a x2 y2 x3 y3 m) (hx5:p∣x5-(m^2-x2-x3)) (hy5:p∣y5-(m*(x2-x5)-y2))
 (hn:Sl p a x4 y4 x3 y3 n) (hx6:p∣x6-(n^2-x4-x3)) (hy6:p∣y6-(n*(x4-x6)-y4))
 (hk:Sl p a x1 y1 x5 y5 k) (hx7:p∣x7-(k^2-x1-x5)) (hy7:p∣y7-(k*(x1-x7)-y1)) :
 p∣x6-x7/\p∣y6-y7:=by
 have lc:=hl.chord
 have lt:=hl.tang
 have mc:=hm.chord
 have mt:=hm.tang
 have nc:=hn.chord
 have nt:=hn.tang
 have kc:=hk.chord
 have kt:=hk.tang
 have nne:=hn.ne
 have kne:=hk.ne
 obtain⟨u1,rfl⟩:∃ u,x1=x2+u:=⟨x1-x2,by omega⟩
 obtain⟨u3,rfl⟩:∃ u,x3=x2+u:=⟨x3-x2,by omega⟩
 -- the exact coordinates of the two sums
 have g4:p∣x4-(x2+(l^2-u1-3*x2)):=zzq 1 hx4 (by grind)
 have g5:p∣x5-(x2+(m^2-u3-3*x2)):=zzq 1 hx5 (by grind)
 have gy4:p∣y4+(y2+l*(l^2-u1-3*x2)):=lin3 1 (-l) 1 hy4 g4 lc (by grind)
 have gy5:p∣y5+(y2+m*(m^2-u3-3*x2)):=lin2 1 (-m) hy5 g5 (by grind)
 have gy1:p∣y1-(y2+l*u1):=lin2 (-1) 0 lc lc (by grind)
 have gy3:p∣y3-(y2+m*u3):=lin2 1 0 mc mc (by grind)
 generalize h4:l^2-u1-3*x2=u4 at *
 generalize h5:m^2-u3-3*x2=u5 at *
 have en:p∣n*(u3-u4)-(2*y2+l*u4+m*u3):=lin4 (-1) n (-1) 1 nc g4 gy4 gy3 (by grind)
 have ek:p∣k*(u1-u5)-(2*y2+l*u1+m*u5):=lin4 1 k 1 (-1) kc g5 gy1 gy5 (by grind)
 have:=core0 (p:=p) (l:=l) (m:=m) (n:=n) (k:=k) (u1:=u1) (u3:=u3) (t:=2*y2) (c:=3*x2) (q:=3*x2^2+a) (u4:=u4) (u5:=u5) hp h4.symm h5.symm
  (lin2 1 l lt lc (by subst h4;grind)) (lin2 1 (-m) mt mc (by subst h5;grind))
  en ek (lin4 1 (-n) (-n) (x4+(x2+u4)+(x2+u3)) nt gy4 gy3 g4 (by grind)) (lin4 1 (-k) (-k) (x5+(x2+u5)+(x2+u1)) kt gy1 gy5 g5 (by grind))
  (λh=>nne ⟨lin2 1 (-1) g4 h.1 (by grind),lin3 1 1 1 gy4 gy3 h.2 (by grind)⟩)
  (λh=>kne ⟨lin2 (-1) 1 g5 h.1 (by grind),lin3 1 1 1 gy1 gy5 h.2 (by grind)⟩)
 obtain⟨gx,gy⟩:=this
 have ex:p∣x6-x7:=lin2 1 1 (lin3 1 (-1) 1 hx6 hx7 gx rfl) (lin2 (-1) 1 g4 g5 rfl) (by grind)
 have hxx:p∣x6-(x2+(n^2-u4-u3-3*x2)):=lin2 1 (-1) hx6 g4 (by grind)
 refine⟨ex,?_⟩
 exact lin3 1 1 1 (lin4 1 (-1) 1 (-1) hy6 hy7 gy en rfl) (lin3 n (-(n-k)) (-k) g4 hxx ex rfl) (lin2 (-1) 1 gy4 gy1 rfl) (by grind)
theorem add_assoc {p a b:Int} (h:Cv p a b) {A B C:Pt} (hA:On p a b A) (hB:On p a b B) (hC:On p a b C) :
 add p a (add p a A B) C=add p a A (add p a B C):=by
 have hp:=h.prm
 match A,B,C with
 | .inf,_,_=>cases B <;> rfl
 | .aff _ _,.inf,_=>rfl
 | .aff x1 y1,.aff x2 y2,.inf=>
  rw[add_inf,add_inf]
 | .aff x1 y1,.aff x2 y2,.aff x3 y3=>
  by_cases hAB:p∣x1-x2/\p∣y1+y2
  · -- B = - A
    rw[add_opp hAB]
    have e:Pt.aff x2 y2=neg p (.aff x1 y1):=aff_eq hB (neg_on hp hA:On p a b (.aff x1 ((-y1)%p))) (dvd_sub_comm' hAB.1) (lin2 1 (-1) hAB.2 (zyq p (-y1)) (by grind))
    rw[e]
    have:=cancel h (neg_on hp hA) hC
    rw[neg_neg hp hA] at this
    rw[this]
    rfl
  . by_cases hBC:p∣x2-x3/\p∣y2+y3
    . rw[add_opp hBC]
      have e:Pt.aff x3 y3=neg p (.aff x2 y2):=aff_eq hC (neg_on hp hB:On p a b (.aff x2 ((-y2)%p))) (dvd_sub_comm' hBC.1) (lin2 1 (-1) hBC.2 (zyq p (-y2)) (by grind))
      rw[e,add_comm hp hA hB,add_comm hp (add_on hp hB hA) (neg_on hp hB),cancel h hB hA]
      rfl
    . obtain⟨l,x4,y4,eD,hD,hl,hx4,hy4⟩:=add_inv hp hA hB hAB
      obtain⟨m,x5,y5,eE,hE,hm,hx5,hy5⟩:=add_inv hp hB hC hBC
      rw[eD,eE]
      by_cases hDC:p∣x4-x3/\p∣y4+y3
      · -- C = - (A + B): so B + C = - A
        rw[add_opp hDC]
        have e:Pt.aff x3 y3=neg p (.aff x4 y4):=aff_eq hC (neg_on hp hD:On p a b (.aff x4 ((-y4)%p))) (dvd_sub_comm' hDC.1) (lin2 1 (-1) hDC.2 (zyq p (-y4)) (by grind))
        rw[<-eE,e,<-eD]
        have h1:=cancel h hB hA
        rw[add_comm hp hB hA] at h1
        have h2:=neg_add hp (neg_on hp hB) (add_on hp hA hB)
        rw[h1,neg_neg hp hB] at h2
        rw[<-h2,add_neg hA]
      . by_cases hAE:p∣x1-x5/\p∣y1+y5
        . have e:Pt.aff x1 y1=neg p (.aff x5 y5):=aff_eq hA (neg_on hp hE:On p a b (.aff x5 ((-y5)%p))) hAE.1 (lin2 1 (-1) hAE.2 (zyq p (-y5)) (by grind))
          rw[add_opp hAE,<-eD,e,<-eE]
          have h1:=cancel h hB hC
          have h2:=neg_add hp (neg_on hp hB) (add_on hp hB hC)
          rw[h1,neg_neg hp hB] at h2
          rw[add_comm hp (neg_on hp (add_on hp hB hC)) hB,<-h2,add_comm hp (neg_on hp hC) hC,add_neg hC]
        . obtain⟨n,x6,y6,eF,hF,hn,hx6,hy6⟩:=add_inv hp hD hC hDC
          obtain⟨k,x7,y7,eG,hG,hk,hx7,hy7⟩:=add_inv hp hA hE hAE
          rw[eF,eG]
          have:=assoc_core hp hl hx4 hy4 hm hx5 hy5 hn hx6 hy6 hk hx7 hy7
          exact aff_eq hF hG this.1 this.2
end Go.Proofs.YtohhkjamddojmaaGreatDoor.EcLaw
namespace Go.Proofs.YtohhkjamddojmaaGreatDoor.EcLaw
noncomputable def mul (p a:Int):Nat->Pt->Pt
 | 0,_=>.inf
 | n+1,P=>add p a (mul p a n P) P
theorem mul_on {p a b:Int} (h:Prm p) {P:Pt} (hP:On p a b P):∀ n,On p a b (mul p a n P)
 | 0=>trivial
 | n+1=>add_on h (mul_on h hP n) hP
theorem mul_add {p a b:Int} (h:Cv p a b) {P:Pt} (hP:On p a b P) (m:Nat):∀ n,mul p a (m+n) P=add p a (mul p a m P) (mul p a n P)
 | 0=>(add_inf p a _).symm
 | n+1=>by
  show add p a (mul p a (m+n) P) P=add p a (mul p a m P) (add p a (mul p a n P) P)
  rw[mul_add h hP m n,add_assoc h (mul_on h.prm hP m) (mul_on h.prm hP n) hP]
theorem mul_one (p a:Int) (P:Pt):mul p a 1 P=P:=rfl
theorem mul_two_mul {p a b:Int} (h:Cv p a b) {P:Pt} (hP:On p a b P) (n:Nat):mul p a (2*n) P=add p a (mul p a n P) (mul p a n P):=by
 rw[<-mul_add h hP,Nat.two_mul]
theorem mul_mul {p a b:Int} (h:Cv p a b) {P:Pt} (hP:On p a b P) (m:Nat):∀ n,mul p a (m*n) P=mul p a n (mul p a m P)
 | 0=>rfl
 | n+1=>by
  rw[Nat.mul_succ,mul_add h hP,mul_mul h hP m n];rfl
theorem mul_inf (p a:Int):∀ n,mul p a n .inf=.inf
 | 0=>rfl
 | n+1=>by show add p a (mul p a n .inf) .inf=.inf;rw[mul_inf p a n];rfl
def Jac (p:Int) (X Y Z:Int):Pt->Prop
 | .inf=>p∣Z
 | .aff x y=>¬p∣Z/\p∣X-x*Z^2/\p∣Y-y*Z^3
theorem jac_add {p a b x1 y1 x2 y2 X1 Y1 Z1 X2 Y2 Z2 U1 U2 H S1 S2 R X3 Y3 Z3:Int} (h:Prm p) (hA:On p a b (.aff x1 y1)) (hB:On p a b (.aff x2 y2))
 (jA:Jac p X1 Y1 Z1 (.aff x1 y1)) (jB:Jac p X2 Y2 Z2 (.aff x2 y2))
 (hU1:p∣U1-X1*Z2^2) (hU2:p∣U2-X2*Z1^2) (hH:p∣H-(U2-U1)) (hS1:p∣S1-Y1*Z2^3) (hS2:p∣S2-Y2*Z1^3) (hR:p∣R-(S2-S1))
 (hX3:p∣X3-(4*R^2-4*H^3-8*U1*H^2)) (hY3:p∣Y3-(2*R*(4*U1*H^2-X3)-8*S1*H^3)) (hZ3:p∣Z3-2*Z1*Z2*H)
 (hne:¬(p∣H/\p∣R)):Jac p X3 Y3 Z3 (add p a (.aff x1 y1) (.aff x2 y2)):=by
 obtain⟨n1,ex1,ey1⟩:=jA
 obtain⟨n2,ex2,ey2⟩:=jB
 have n12:=h.nmul n1 n2
 have n2':=h.nmul h.not2 n12
 -- the values, told by the affine coordinates
 have gU1:p∣U1-x1*(Z1*Z2)^2:=lin2 1 (Z2^2) hU1 ex1 (by grind)
 have gU2:p∣U2-x2*(Z1*Z2)^2:=lin2 1 (Z1^2) hU2 ex2 (by grind)
 have gS1:p∣S1-y1*(Z1*Z2)^3:=lin2 1 (Z2^3) hS1 ey1 (by grind)
 have gS2:p∣S2-y2*(Z1*Z2)^3:=lin2 1 (Z1^3) hS2 ey2 (by grind)
 generalize hZ:Z1*Z2=Z at *
 have gZ:p∣Z3-2*Z*H:=by rwa [show 2*Z1*Z2*H=2*Z*H by rw[<-hZ];grind] at hZ3
 have gH:p∣H-(x2-x1)*Z^2:=lin3 1 1 (-1) hH gU2 gU1 (by grind)
 have gR:p∣R-(y2-y1)*Z^3:=lin3 1 1 (-1) hR gS2 gS1 (by grind)
 have nz:¬p∣Z:=n12
 have nz2:=h.nmul nz nz
 by_cases cH:p∣H
 . have cx:p∣x1-x2:=by
    refine h.cancel nz2 ?_
    exact lin2 1 (-1) gH cH (by grind)
   have cy:¬p∣y1-y2:=by
    intro hy
    refine hne ⟨cH,?_⟩
    exact lin2 1 (-Z^3) gR hy (by grind)
   have e:=h.mul (y1-y2) (y1+y2) (lin3 1 (-1) (x1^2+x1*x2+x2^2+a) hA.2.2.2.2 hB.2.2.2.2 cx (by grind))
   rw[add_opp ⟨cx,e.resolve_left cy⟩]
   exact lin2 1 (2*Z) gZ cH (by grind)
 . have cx:¬p∣x1-x2:=λhh=>cH (lin2 1 (-Z^2) gH hh (by grind))
   obtain⟨l,x3,y3,e,h3,hl,hx3,hy3⟩:=add_inv h hA hB (λhh=>cx hh.1)
   rw[e]
   have hc:=hl.chord
   -- R = l Z H
   have gl:p∣R-l*Z*H:=lin3 1 (-l*Z) (Z^3) gR gH hc (by grind)
   have gX:p∣X3-x3*Z3^2:=by
    have t1:p∣x3*Z3^2-x3*(2*Z*H)^2:=zzq (x3*(Z3+2*Z*H)) gZ (by grind)
    have t2:p∣4*R^2-4*(l*Z*H)^2:=zzq (4*(R+l*Z*H)) gl (by grind)
    have t3:p∣4*H^3+8*U1*H^2-4*H^2*(x1+x2)*Z^2:=lin2 (4*H^2) (8*H^2) gH gU1 (by grind)
    have t4:p∣x3*(2*Z*H)^2-(l^2-x1-x2)*(2*Z*H)^2:=zzq ((2*Z*H)^2) hx3 (by grind)
    exact lin2 1 1 (lin3 1 1 (-1) hX3 t2 t3 rfl) (lin2 (-1) (-1) t1 t4 rfl) (by grind)
   refine⟨λhh=>cH ?_,gX,?_⟩
   . refine h.cancel (h.nmul h.not2 nz) ?_
     exact lin2 1 (-1) hh gZ (by grind)
   . have t1:p∣y3*Z3^3-y3*(2*Z*H)^3:=zzq (y3*(Z3^2+Z3*(2*Z*H)+(2*Z*H)^2)) gZ (by grind)
     have t2:p∣y3*(2*Z*H)^3-(l*(x1-x3)-y1)*(2*Z*H)^3:=zzq ((2*Z*H)^3) hy3 (by grind)
     have t3:p∣X3-x3*(2*Z*H)^2:=lin2 1 (x3*(Z3+2*Z*H)) gX gZ (by grind)
     have t4:p∣4*U1*H^2-X3-(x1-x3)*(2*Z*H)^2:=lin2 (4*H^2) (-1) gU1 t3 (by grind)
     have t5:p∣2*R*(4*U1*H^2-X3)-2*(l*Z*H)*((x1-x3)*(2*Z*H)^2):=lin2 (2*(4*U1*H^2-X3)) (2*l*Z*H) gl t4 (by grind)
     have t6:p∣8*S1*H^3-y1*(2*Z*H)^3:=zzq (8*H^3) gS1 (by grind)
     exact lin2 1 1 (lin3 1 1 (-1) hY3 t5 t6 rfl) (lin2 (-1) (-1) t1 t2 rfl) (by grind)
theorem jac_double {p a b x y X Y Z M S X3 Y3 Z3:Int} (h:Prm p) (hA:On p a b (.aff x y)) (jA:Jac p X Y Z (.aff x y))
 (hM:p∣M-(3*X^2+a*Z^4)) (hS:p∣S-4*X*Y^2) (hX3:p∣X3-(M^2-2*S)) (hY3:p∣Y3-(M*(S-X3)-8*Y^4)) (hZ3:p∣Z3-2*Y*Z) :
 Jac p X3 Y3 Z3 (add p a (.aff x y) (.aff x y)):=by
 obtain⟨n1,ex,ey⟩:=jA
 have g1:p∣Z3-2*y*Z^4:=lin2 1 (2*Z) hZ3 ey (by grind)
 have gM:p∣M-(3*x^2+a)*Z^4:=lin2 1 (3*(X+x*Z^2)) hM ex (by grind)
 have gY2:p∣Y^2-y^2*Z^6:=zzq (Y+y*Z^3) ey (by grind)
 have gS:p∣S-4*x*y^2*Z^8:=lin3 1 (4*X) (4*y^2*Z^6) hS gY2 ex (by grind)
 have gY4:p∣Y^4-y^4*Z^12:=zzq (Y^2+y^2*Z^6) gY2 (by grind)
 have nz2:=h.nmul n1 n1
 have nz4:=h.nmul nz2 nz2
 by_cases cy:p∣y
 . rw[add_opp ⟨by simp,lin2 2 0 cy cy (by grind)⟩]
   exact lin2 1 (2*Z^4) g1 cy (by grind)
 . have ny2:¬p∣y+y:=λhh=>h.nmul h.not2 cy (by rwa [show 2*y=y+y by omega])
   obtain⟨l,x3,y3,e,h3,hl,hx3,hy3⟩:=add_inv h hA hA (λhh=>ny2 hh.2)
   rw[e]
   have ht:=hl.tang
   have gl:p∣M-l*(2*y*Z^4):=lin2 1 (-Z^4) gM ht (by grind)
   have gX:p∣X3-x3*Z3^2:=by
    have t1:p∣x3*Z3^2-x3*(2*y*Z^4)^2:=zzq (x3*(Z3+2*y*Z^4)) g1 (by grind)
    have t2:p∣M^2-(l*(2*y*Z^4))^2:=zzq (M+l*(2*y*Z^4)) gl (by grind)
    have t4:p∣x3*(2*y*Z^4)^2-(l^2-x-x)*(2*y*Z^4)^2:=zzq ((2*y*Z^4)^2) hx3 (by grind)
    exact lin2 1 1 (lin3 1 1 (-2) hX3 t2 gS rfl) (lin2 (-1) (-1) t1 t4 rfl) (by grind)
   refine⟨λhh=>?_,gX,?_⟩
   . refine h.nmul (h.nmul h.not2 cy) nz4 ?_
     exact lin2 1 (-1) hh g1 (by grind)
   . have t1:p∣y3*Z3^3-y3*(2*y*Z^4)^3:=zzq (y3*(Z3^2+Z3*(2*y*Z^4)+(2*y*Z^4)^2)) g1 (by grind)
     have t2:p∣y3*(2*y*Z^4)^3-(l*(x-x3)-y)*(2*y*Z^4)^3:=zzq ((2*y*Z^4)^3) hy3 (by grind)
     have t3:p∣X3-x3*(2*y*Z^4)^2:=lin2 1 (x3*(Z3+2*y*Z^4)) gX g1 (by grind)
     have t4:p∣S-X3-(x-x3)*(2*y*Z^4)^2:=lin2 1 (-1) gS t3 (by grind)
     have t5:p∣M*(S-X3)-l*(2*y*Z^4)*((x-x3)*(2*y*Z^4)^2):=lin2 (S-X3) (l*(2*y*Z^4)) gl t4 (by grind)
     have t6:p∣8*Y^4-y*(2*y*Z^4)^3:=zzq 8 gY4 (by grind)
     exact lin2 1 1 (lin3 1 1 (-1) hY3 t5 t6 rfl) (lin2 (-1) (-1) t1 t2 rfl) (by grind)
theorem jac_double_inf {p Y Z Z3:Int} (hZ:p∣Z) (hZ3:p∣Z3-2*Y*Z):p∣Z3:=lin2 1 (2*Y) hZ3 hZ (by grind)
theorem jac_affine {p a b x y X Y Z i u v:Int} (_h:Prm p) (hA:On p a b (.aff x y)) (jA:Jac p X Y Z (.aff x y)) (hi:p∣i*Z-1)
 (hu:p∣u-X*i^2) (hv:p∣v-Y*i^3) (u0:0<=u) (u1:u<p) (v0:0<=v) (v1:v<p):u=x/\v=y:=by
 obtain⟨_,ex,ey⟩:=jA
 have i2:p∣(i*Z)^2-1:=zzq (i*Z+1) hi (by grind)
 have i3:p∣(i*Z)^3-1:=zzq ((i*Z)^2+i*Z+1) hi (by grind)
 refine⟨eq_of_range u0 u1 hA.1 hA.2.1 ?_,eq_of_range v0 v1 hA.2.2.1 hA.2.2.2.1 ?_⟩
 . exact lin3 1 (i^2) x hu ex i2 (by grind)
 . exact lin3 1 (i^3) y hv ey i3 (by grind)
end Go.Proofs.YtohhkjamddojmaaGreatDoor.EcLaw
namespace Go.Proofs.YtohhkjamddojmaaGreatDoor.EcLaw
open NumLaw
end Go.Proofs.YtohhkjamddojmaaGreatDoor.EcLaw
