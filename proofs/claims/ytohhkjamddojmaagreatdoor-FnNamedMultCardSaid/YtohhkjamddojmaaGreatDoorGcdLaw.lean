/- Plain mathematics: Euclid's algorithm and Lehmer's steps. -/
import Derived.Test.YtohhkjamddojmaaGreatDoorBits
namespace Go.Proofs.YtohhkjamddojmaaGreatDoor.GcdLaw
structure G (g n A B U V:Int):Prop where
 b0:0<=B
 ab:B<=A
 a1:0<A
 cA:n∣A-U*g
 cB:n∣B-V*g
 bd:(V.natAbs:Int)*A+(U.natAbs:Int)*B=n
 ub:(U.natAbs:Int)<=n
 sg:U*V<=0
 gcd:Int.gcd A B=Int.gcd g n
theorem G.start {g n:Int} (hg:0<g) (hn:0<n) (h:n<=g):G g n g n 1 0:=
 ⟨by omega,h,hg,⟨0,by omega⟩,⟨1,by omega⟩,by simp,by omega,by simp,rfl⟩
theorem G.startSwap {g n:Int} (hg:0<g) (hn:0<n) (h:g<=n):G g n n g 0 1:=
 ⟨by omega,h,hn,⟨1,by omega⟩,⟨0,by omega⟩,by simp,by simp;omega,by simp,Int.gcd_comm n g⟩
theorem gcd_lin {A B A' B' a b c d e f k l:Int} (h1:A'=a*A+b*B) (h2:B'=c*A+d*B) (h3:A=e*A'+f*B') (h4:B=k*A'+l*B'):Int.gcd A' B'=Int.gcd A B:=by
 have t:∀ {x y X Y p q r s:Int},X=p*x+q*y->Y=r*x+s*y->Int.gcd x y∣Int.gcd X Y:=by
  intro x y X Y p q r s hX hY
  have g1:=Int.gcd_dvd_left x y
  have g2:=Int.gcd_dvd_right x y
  refine Int.dvd_gcd ?_ ?_
  . rw[hX];exact Int.dvd_add (Int.dvd_mul_of_dvd_right g1) (Int.dvd_mul_of_dvd_right g2)
  . rw[hY];exact Int.dvd_add (Int.dvd_mul_of_dvd_right g1) (Int.dvd_mul_of_dvd_right g2)
 exact Nat.dvd_antisymm (t h3 h4) (t h1 h2)
theorem natAbs_sub_mul {U V q:Int} (h:U*V<=0) (hq:0<=q):((U-q*V).natAbs:Int)=(U.natAbs:Int)+q*(V.natAbs:Int):=by
 rcases Int.le_total 0 U with hu|hu
 . rcases Int.le_total 0 V with hv|hv
   . have:U*V=0:=Int.le_antisymm h (Int.mul_nonneg hu hv)
     rcases Int.mul_eq_zero.1 this with rfl|rfl
     . have e:(0-q*V)=-(q*V):=by omega
       rw[e,Int.natAbs_neg,Int.natAbs_of_nonneg (Int.mul_nonneg hq hv),Int.natAbs_of_nonneg hv];simp
     . simp
   . have h1:0<=q * -V:=Int.mul_nonneg hq (by omega)
     have h2:q * -V=-(q*V):=by rw[Int.mul_neg]
     have h3:((V.natAbs:Int))=-V:=by omega
     rw[h3,h2]
     omega
 . rcases Int.le_total 0 V with hv|hv
   . have h1:0<=q*V:=Int.mul_nonneg hq hv
     have h3:((V.natAbs:Int))=V:=by omega
     rw[h3]
     omega
   . have h0:0<=(-U)*(-V):=Int.mul_nonneg (by omega) (by omega)
     rw[Int.neg_mul_neg] at h0
     have:U*V=0:=Int.le_antisymm h h0
     rcases Int.mul_eq_zero.1 this with rfl|rfl
     . have h1:0<=q * -V:=Int.mul_nonneg hq (by omega)
       have h2:q * -V=-(q*V):=by rw[Int.mul_neg]
       have h3:((V.natAbs:Int))=-V:=by omega
       rw[h3,h2]
       omega
     . simp
theorem sign_sub {U V q:Int} (h:U*V<=0) (hq:0<=q):V*(U-q*V)<=0:=by
 have h1:V*(U-q*V)=U*V-q*(V*V):=by grind
 have h2:0<=V*V:=by
  rcases Int.le_total 0 V with hv|hv
  . exact Int.mul_nonneg hv hv
  . have:=Int.mul_nonneg (show 0 ≤ -V by omega) (show 0 ≤ -V by omega);rwa [Int.neg_mul_neg] at this
 have h3:=Int.mul_nonneg hq h2
 omega
theorem G.euclid {g n A B U V:Int} (h:G g n A B U V) (hB:0<B):G g n B (A%B) V (U-A/B*V):=by
 have hA:=h.a1
 have hq:0<=A/B:=Int.ediv_nonneg (by omega) h.b0
 have e:=Int.emod_add_mul_ediv A B
 refine⟨Int.emod_nonneg A (by omega),Int.le_of_lt (Int.emod_lt_of_pos A hB),hB,h.cB,?_,?_,?_,sign_sub h.sg hq,?_⟩
 . obtain⟨s,hs⟩:=h.cA
   obtain⟨t,ht⟩:=h.cB
   exact⟨s-A/B*t,by grind⟩
 . rw[natAbs_sub_mul h.sg hq]
   have:=h.bd
   generalize (V.natAbs:Int)=v at *
   generalize (U.natAbs:Int)=u at *
   generalize A/B=q at *
   generalize A%B=r at *
   subst e
   rw[<-this];grind
 . have h1:=h.bd
   have h2:0<=(U.natAbs:Int)*B:=Int.mul_nonneg (by omega) h.b0
   have h3:(V.natAbs:Int)*1<=(V.natAbs:Int)*A:=Int.mul_le_mul_of_nonneg_left (by omega) (by omega)
   omega
 . rw[<-h.gcd]
   exact gcd_lin (a:=0) (b:=1) (c:=1) (d:=-(A/B)) (e:=A/B) (f:=1) (k:=1) (l:=0) (by grind) (by grind) (by grind) (by grind)
theorem G.fin {g n A U V:Int} (h:G g n A 0 U V) (hn:1<n) (hc:A=1):n∣U*g-1/\(U.natAbs:Int)<n:=by
 subst hc
 have hd:n∣U*g-1:=by
  obtain⟨s,hs⟩:=h.cA
  exact⟨-s,by grind⟩
 refine⟨hd,?_⟩
 have:=h.ub
 rcases Int.lt_or_eq_of_le this with h1|h1
 . exact h1
 . exfalso
   have hU:n∣U:=by
    rcases Int.natAbs_eq U with e|e <;> rw[e,h1]
    . exact Int.dvd_refl _
    . exact Int.dvd_neg.2 (Int.dvd_refl _)
   obtain⟨s,hs⟩:=hd
   obtain⟨t,ht⟩:=hU
   have:n∣1:=⟨t*g-s,by grind⟩
   have:=Int.le_of_dvd (by omega) this
   omega
theorem G.fin_gcd {g n A U V:Int} (h:G g n A 0 U V):A=(Int.gcd g n:Int):=by
 rw[<-h.gcd,Int.gcd_zero_right]
 have:=h.a1
 omega
theorem inv_range {g n U:Int} (h:n∣U*g-1/\(U.natAbs:Int)<n):∃ i,i=(if U<0 then U+n else U)/\n∣i*g-1/\0<=i/\i<n:=by
 obtain⟨⟨s,hs⟩,hU⟩:=h
 refine⟨_,rfl,?_,?_,?_⟩
 . split
   . exact⟨s+g,by grind⟩
   . exact⟨s,hs⟩
 . split <;> omega
 . split <;> omega
/-! ### Lehmer's steps: the first word of each number -/
structure Sim (c d:Int) (x y u1 u2 v1 v2:Int) (even:Bool):Prop where
 u10:0<=u1
 u20:0<=u2
 v10:0<=v1
 v21:1<=v2
 uv:u2<=v2
 uv2:u1+u2<=v1+v2
 y0:0<=y
 yx:y<=x
 hx:x=if even then v1*d-u1*c else u1*c-v1*d
 hy:y=if even then u2*c-v2*d else v2*d-u2*c
 det:u1*v2-v1*u2=if even then -1 else 1
 tot:v2*x+v1*y=c
 mono:v1=0\/(u1<=u2/\1<=u2)
 vmono:v1<=v2
theorem Sim.start {c d:Int} (hd:0<=d) (h:d<=c):Sim c d c d 1 0 0 1 false:=
 ⟨by omega,by omega,by omega,by omega,by omega,by omega,hd,h,by simp,by simp,by simp,by omega,.inl rfl,by omega⟩
theorem Sim.pos {c d x y u1 u2 v1 v2:Int} {even:Bool} (h:Sim c d x y u1 u2 v1 v2 even) (h1:v2<=y):1<=x/y:=by
 have:=h.v21;have:=h.yx
 exact Int.le_ediv_of_mul_le (by omega) (by omega)
theorem Sim.next {c d x y u1 u2 v1 v2:Int} {even:Bool} (h:Sim c d x y u1 u2 v1 v2 even) (h1:v2<=y) :
 Sim c d y (x%y) u2 (u1+x/y*u2) v2 (v1+x/y*v2) (!even):=by
 have hq:=h.pos h1
 have hy1:=h.v21
 have e:=Int.emod_add_mul_ediv x y
 have hr0:=Int.emod_nonneg x (show y≠0 by omega)
 have hr1:=Int.emod_lt_of_pos x (show 0<y by omega)
 obtain⟨u10,u20,v10,v21,uv,uv2,y0,yx,hx,hy,det,tot,mono,vmono⟩:=h
 generalize x/y=q at *
 generalize x%y=r at *
 have hqu:u2<=q*u2:=by have:=Int.mul_le_mul_of_nonneg_right hq u20;omega
 have hqv:v2<=q*v2:=by have:=Int.mul_le_mul_of_nonneg_right hq (show 0<=v2 by omega);omega
 have hquv:q*u2-u2<=q*v2-v2:=by
  have h0:0<=(q-1)*(v2-u2):=Int.mul_nonneg (by omega) (by omega)
  have h1:(q-1)*(v2-u2)=(q*v2-v2)-(q*u2-u2):=by grind
  omega
 refine⟨u20,by omega,by omega,by omega,by omega,by omega,hr0,by omega,?_,?_,?_,?_,.inr ⟨?_,?_⟩,by omega⟩
 . cases even <;> simp at * <;> omega
 . cases even <;> simp at * <;> grind
 . cases even <;> simp at * <;> grind
 . grind
 . omega
 . rcases mono with rfl|⟨_,m⟩
   . have:u1*v2=if even then -1 else 1:=by simpa using det
     have:0<u1:=by
      rcases Int.lt_or_eq_of_le u10 with h|h
      . exact h
      . subst h;cases even <;> simp at this
     omega
   . omega
theorem Sim.bounds {c d x y u1 u2 v1 v2:Int} {even:Bool} (h:Sim c d x y u1 u2 v1 v2 even) (h1:v2<=y):v1+v2<=c/\v1+x/y*v2<=c/\u1+x/y*u2<=v1+x/y*v2:=by
 have hq:=h.pos h1
 have hn:=(h.next h1).uv
 have e:=Int.emod_add_mul_ediv x y
 have hr0:=Int.emod_nonneg x (show y≠0 by have:=h.v21;omega)
 have hy1:=h.v21
 have hx1:=h.yx
 have hv:=h.v10
 have tot:=h.tot
 have a1:v2*1<=v2*x:=Int.mul_le_mul_of_nonneg_left (by omega) (by omega)
 have a2:v1*1<=v1*y:=Int.mul_le_mul_of_nonneg_left (by omega) hv
 refine⟨by omega,?_,hn⟩
 generalize x/y=q at *
 generalize x%y=r at *
 have b1:q*v2*1<=q*v2*y:=Int.mul_le_mul_of_nonneg_left (by omega) (Int.mul_nonneg (by omega) (by omega))
 have b2:0<=v2*r:=Int.mul_nonneg (by omega) hr0
 have b3:v2*x=v2*r+q*v2*y:=by rw[<-e];grind
 omega
structure Leh (A B u0 u1 v0 v1 A' B':Int) (even:Bool):Prop where
 u00:0<=u0
 u10:1<=u1
 v00:1<=v0
 v10:1<=v1
 eA:A'=if even then u0*A-v0*B else v0*B-u0*A
 eB:B'=if even then v1*B-u1*A else u1*A-v1*B
 det:u0*v1-v0*u1=if even then 1 else -1
 b0:0<=B'
 ab:B'<=A'
 um:u0<=u1
 vm:v0<=v1
theorem Sim.leh {c d x y u1 u2 v1 v2 A B S s t:Int} {even:Bool} (h:Sim c d x y u1 u2 v1 v2 even) (hA:A=c*S+s) (hB:B=d*S+t) (s0:0<=s) (s1:s<S) (t0:0<=t) (t1:t<S)
 (h1:v2<=y) (h2:v1+v2<=x-y) (hv:v1≠0) :
 Leh A B u1 u2 v1 v2 (if even then v1*B-u1*A else u1*A-v1*B) (if even then u2*A-v2*B else v2*B-u2*A) (!even):=by
 obtain⟨u10,u20,v10,v21,uv,uv2,y0,yx,hx,hy,det,tot,mono,vmono⟩:=h
 have hm:=mono.resolve_left hv
 have k1:0<=(y-v2)*S:=Int.mul_nonneg (by omega) (by omega)
 have k2:0<=(x-y-v1-v2)*S:=Int.mul_nonneg (by omega) (by omega)
 have k3:0<=v2*(S-t):=Int.mul_nonneg (by omega) (by omega)
 have k4:0<=v2*(S-s):=Int.mul_nonneg (by omega) (by omega)
 have k5:0<=(v2-u2)*s:=Int.mul_nonneg (by omega) s0
 have k6:0<=v2*t:=Int.mul_nonneg (by omega) t0
 have k7:0<=u2*s:=Int.mul_nonneg u20 s0
 have k8:0<=(v1+v2)*(S-t):=Int.mul_nonneg (by omega) (by omega)
 have k9:0<=(u1+u2)*s:=Int.mul_nonneg (by omega) s0
 have k10:0<=(v1+v2)*t:=Int.mul_nonneg (by omega) t0
 have k11:0<=(v1+v2-u1-u2)*s:=Int.mul_nonneg (by omega) s0
 have k12:0<=(v1+v2)*(S-s):=Int.mul_nonneg (by omega) (by omega)
 refine⟨u10,hm.2,by omega,v21,?_,?_,?_,?_,?_,hm.1,vmono⟩
 . cases even <;> rfl
 . cases even <;> rfl
 . cases even <;> simp at * <;> omega
 . cases even
   . simp only[Bool.false_eq_true,if_false] at *
     have:v2*B-u2*A=y*S+v2*t-u2*s:=by rw[hA,hB,hy];grind
     have:(y-v2)*S+v2*(S-s)+(v2-u2)*s=y*S-u2*s:=by grind
     omega
   . simp only[if_true] at *
     have:u2*A-v2*B=y*S+u2*s-v2*t:=by rw[hA,hB,hy];grind
     have:(y-v2)*S+v2*(S-t)=y*S-v2*t:=by grind
     omega
 . cases even
   . simp only[Bool.false_eq_true,if_false] at *
     have:(u1*A-v1*B)-(v2*B-u2*A)=(x-y)*S+(u1+u2)*s-(v1+v2)*t:=by rw[hA,hB,hx,hy];grind
     have:(x-y-v1-v2)*S+(v1+v2)*(S-t)=(x-y)*S-(v1+v2)*t:=by grind
     omega
   . simp only[if_true] at *
     have:(v1*B-u1*A)-(u2*A-v2*B)=(x-y)*S+(v1+v2)*t-(u1+u2)*s:=by rw[hA,hB,hx,hy];grind
     have:(x-y-v1-v2)*S+(v1+v2)*(S-s)+(v1+v2-u1-u2)*s=(x-y)*S-(u1+u2)*s:=by grind
     omega
theorem Leh.back {A B u0 u1 v0 v1 A' B':Int} {even:Bool} (h:Leh A B u0 u1 v0 v1 A' B' even):A=v1*A'+v0*B'/\B=u1*A'+u0*B':=by
 obtain⟨_,_,_,_,eA,eB,det,_⟩:=h
 cases even <;> simp at * <;> subst eA eB
 . constructor
   . have:A=-(u0*v1-v0*u1)*A:=by rw[det];omega
     grind
   . have:B=-(u0*v1-v0*u1)*B:=by rw[det];omega
     grind
 . constructor
   . have:A=(u0*v1-v0*u1)*A:=by rw[det];omega
     grind
   . have:B=(u0*v1-v0*u1)*B:=by rw[det];omega
     grind
theorem natAbs_mix {U V p q:Int} (h:U*V<=0) (hp:0<=p) (hq:0<=q):((p*U-q*V).natAbs:Int)=p*(U.natAbs:Int)+q*(V.natAbs:Int):=by
 have hpU:(p*U)*V<=0:=by
  have:0<=p * -(U*V):=Int.mul_nonneg hp (by omega)
  have e:p * -(U*V)=-((p*U)*V):=by grind
  omega
 rw[natAbs_sub_mul hpU hq,Int.natAbs_mul,Int.natCast_mul,Int.natAbs_of_nonneg hp]
theorem sign_mix {U V p q r s:Int} (h:U*V<=0) (hp:0<=p) (hq:0<=q) (hr:0<=r) (hs:0<=s):(p*U-q*V)*(r*V-s*U)<=0:=by
 have e:(p*U-q*V)*(r*V-s*U)=(p*r+q*s)*(U*V)-p*s*(U*U)-q*r*(V*V):=by grind
 have sq:∀ x:Int,0<=x*x:=λx=>by
  rcases Int.le_total 0 x with hv|hv
  . exact Int.mul_nonneg hv hv
  . have:=Int.mul_nonneg (show 0 ≤ -x by omega) (show 0 ≤ -x by omega);rwa [Int.neg_mul_neg] at this
 have a1:0<=(p*r+q*s) * -(U*V):=Int.mul_nonneg (Int.add_nonneg (Int.mul_nonneg hp hr) (Int.mul_nonneg hq hs)) (by omega)
 have a2:0<=p*s*(U*U):=Int.mul_nonneg (Int.mul_nonneg hp hs) (sq U)
 have a3:0<=q*r*(V*V):=Int.mul_nonneg (Int.mul_nonneg hq hr) (sq V)
 have a4:(p*r+q*s) * -(U*V)=-((p*r+q*s)*(U*V)):=by grind
 omega
theorem G.lehmer {g n A B U V u0 u1 v0 v1 A' B':Int} {even:Bool} (h:G g n A B U V) (l:Leh A B u0 u1 v0 v1 A' B' even) :
 G g n A' B' (if even then u0*U-v0*V else v0*V-u0*U) (if even then v1*V-u1*U else u1*U-v1*V)/\A'+B'<A+B:=by
 obtain⟨hA,hB⟩:=l.back
 have l1:=l.u00;have l2:=l.u10;have l3:=l.v00;have l4:=l.v10;have l5:=l.b0;have l6:=l.ab
 have ha:=h.a1
 have hA':0<A':=by
  rcases Int.lt_or_le 0 A' with h|h
  . exact h
  . have e1:A'=0:=by omega
    have e2:B'=0:=by omega
    rw[e1,e2] at hA;simp at hA;omega
 have nU:((if even then u0*U-v0*V else v0*V-u0*U:Int).natAbs:Int)=u0*(U.natAbs:Int)+v0*(V.natAbs:Int):=by
  cases even
  . simp only[Bool.false_eq_true,if_false]
    rw[natAbs_mix (by rw[Int.mul_comm];exact h.sg) (by omega) l1];omega
  . simp only[if_true]
    rw[natAbs_mix h.sg l1 (by omega)]
 have nV:((if even then v1*V-u1*U else u1*U-v1*V:Int).natAbs:Int)=v1*(V.natAbs:Int)+u1*(U.natAbs:Int):=by
  cases even
  . simp only[Bool.false_eq_true,if_false]
    rw[natAbs_mix h.sg (by omega) (by omega)];omega
  . simp only[if_true]
    rw[natAbs_mix (by rw[Int.mul_comm];exact h.sg) (by omega) (by omega)]
 have bd':(v1*(V.natAbs:Int)+u1*(U.natAbs:Int))*A'+(u0*(U.natAbs:Int)+v0*(V.natAbs:Int))*B'=n:=by
  have e:=h.bd
  rw[<-e,hA,hB]
  grind
 refine⟨⟨l5,l6,hA',?_,?_,?_,?_,?_,?_⟩,?_⟩
 . obtain⟨s,hs⟩:=h.cA
   obtain⟨t,ht⟩:=h.cB
   rw[l.eA]
   cases even
   . exact⟨v0*t-u0*s,by simp;grind⟩
   . exact⟨u0*s-v0*t,by simp;grind⟩
 . obtain⟨s,hs⟩:=h.cA
   obtain⟨t,ht⟩:=h.cB
   rw[l.eB]
   cases even
   . exact⟨u1*s-v1*t,by simp;grind⟩
   . exact⟨v1*t-u1*s,by simp;grind⟩
 . rw[nU,nV];exact bd'
 . rw[nU]
   have k1:u0*(U.natAbs:Int)<=u1*(U.natAbs:Int):=Int.mul_le_mul_of_nonneg_right l.um (by omega)
   have k2:v0*(V.natAbs:Int)<=v1*(V.natAbs:Int):=Int.mul_le_mul_of_nonneg_right l.vm (by omega)
   have k0:0<=u0*(U.natAbs:Int):=Int.mul_nonneg l1 (by omega)
   have k0':0<=v0*(V.natAbs:Int):=Int.mul_nonneg (by omega) (by omega)
   have k3:(v1*(V.natAbs:Int)+u1*(U.natAbs:Int))*1<=(v1*(V.natAbs:Int)+u1*(U.natAbs:Int))*A':=Int.mul_le_mul_of_nonneg_left (by omega) (by omega)
   have k4:0<=(u0*(U.natAbs:Int)+v0*(V.natAbs:Int))*B':=Int.mul_nonneg (by omega) l5
   omega
 . cases even
   . simp only[Bool.false_eq_true,if_false]
     have:=sign_mix (U:=V) (V:=U) (p:=v0) (q:=u0) (r:=u1) (s:=v1) (by rw[Int.mul_comm];exact h.sg) (by omega) l1 (by omega) (by omega)
     exact this
   . simp only[if_true]
     exact sign_mix h.sg l1 (by omega) (by omega) (by omega)
 . rw[<-h.gcd]
   cases even
   . exact gcd_lin (a:=-u0) (b:=v0) (c:=u1) (d:=-v1) (e:=v1) (f:=v0) (k:=u1) (l:=u0) (by rw[l.eA];simp;grind) (by rw[l.eB];simp;grind) hA hB
   . exact gcd_lin (a:=u0) (b:=-v0) (c:=-u1) (d:=v1) (e:=v1) (f:=v0) (k:=u1) (l:=u0) (by rw[l.eA];simp;grind) (by rw[l.eB];simp;grind) hA hB
 . have k1:1*A'<=v1*A':=Int.mul_le_mul_of_nonneg_right l4 (by omega)
   have k2:1*A'<=u1*A':=Int.mul_le_mul_of_nonneg_right l2 (by omega)
   have k3:1*B'<=v0*B':=Int.mul_le_mul_of_nonneg_right l3 (by omega)
   have k4:0<=u0*B':=Int.mul_nonneg l1 (by omega)
   omega
end Go.Proofs.YtohhkjamddojmaaGreatDoor.GcdLaw
