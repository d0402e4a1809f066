/- Long division, one word of the quotient: Knuth's guess. -/
import Derived.Test.YtohhkjamddojmaaGreatDoorWA
namespace Go.Proofs.YtohhkjamddojmaaGreatDoor.Big
structure KD (S v1 v2 v0 u2 u1 u0 ur v U:Nat):Prop where
 hv:v=(v1*B64+v2)*S+v0
 hU:U=((u2*B64+u1)*B64+u0)*S+ur
 v0S:v0<S
 urS:ur<S
 v2B:v2<B64
 u1B:u1<B64
 u0B:u0<B64
 v1B:v1<B64
 top:B64<=2*v1
 less:U<v*B64
section
variable {S v1 v2 v0 u2 u1 u0 ur v U : Nat}
theorem KD.v_pos (h:KD S v1 v2 v0 u2 u1 u0 ur v U):0<v:=by
 have h1:0<v1:=by have:=h.top;have:=zxw;omega
 have h2:0<S:=by have:=h.v0S;omega
 rw[h.hv]
 have:0<(v1*B64+v2)*S:=Nat.mul_pos (by have:=Nat.mul_pos h1 zxw;omega) h2
 omega
theorem KD.v_ge (h:KD S v1 v2 v0 u2 u1 u0 ur v U) (x:Nat):x*v1*B64*S<=x*v:=by
 rw[h.hv,Nat.mul_assoc x,Nat.mul_assoc x]
 apply Nat.mul_le_mul_left
 have:v1*B64*S<=(v1*B64+v2)*S:=Nat.mul_le_mul_right _ (by omega)
 omega
theorem KD.U_lt (h:KD S v1 v2 v0 u2 u1 u0 ur v U):U<((u2*B64+u1)*B64+u0+1)*S:=by
 rw[h.hU,Nat.add_mul _ 1]
 have:=h.urS
 omega
theorem KD.U_lt2 (h:KD S v1 v2 v0 u2 u1 u0 ur v U):U<(u2*B64+u1+1)*B64*S:=by
 refine Nat.lt_of_lt_of_le h.U_lt (Nat.mul_le_mul_right _ ?_)
 rw[Nat.add_mul _ 1]
 have:=h.u0B
 omega
theorem KD.u2_le (h:KD S v1 v2 v0 u2 u1 u0 ur v U):u2<=v1:=by
 refine Nat.le_of_not_lt λhlt=>?_
 have h1:(v1+1)*B64*B64*S<=U:=by
  rw[h.hU]
  refine Nat.le_trans (Nat.mul_le_mul_right S (Nat.mul_le_mul_right B64 (Nat.mul_le_mul_right B64 hlt))) ?_
  refine Nat.le_trans (Nat.mul_le_mul_right S (?_:_<=(u2*B64+u1)*B64+u0)) (Nat.le_add_right _ _)
  rw[Nat.add_mul]
  omega
 have h2:v<=(v1+1)*B64*S:=by
  rw[h.hv]
  have h3:(v1*B64+v2+1)*S<=(v1+1)*B64*S:=Nat.mul_le_mul_right _ (by rw[Nat.add_mul];have:=h.v2B;omega)
  rw[Nat.add_mul _ 1] at h3
  have:=h.v0S
  omega
 have h3:=Nat.mul_le_mul_right B64 h2
 have h4:(v1+1)*B64*S*B64=(v1+1)*B64*B64*S:=by ac_rfl
 have:=h.less
 omega
structure KG (v1 u2 u1 v U qh rh:Nat):Prop where
 eq:qh*v1+rh=u2*B64+u1
 ge:U<(qh+1)*v
 qB:qh<B64
theorem KD.guess (h:KD S v1 v2 v0 u2 u1 u0 ur v U) (hlt:u2<v1):KG v1 u2 u1 v U ((u2*B64+u1)/v1) ((u2*B64+u1)%v1):=by
 have hv1:0<v1:=by omega
 have e:=Nat.div_add_mod (u2*B64+u1) v1
 have hm:=Nat.mod_lt (u2*B64+u1) hv1
 refine⟨by rw[Nat.mul_comm];exact e,?_,?_⟩
 . refine Nat.lt_of_lt_of_le h.U_lt2 (Nat.le_trans ?_ (h.v_ge _))
   refine Nat.mul_le_mul_right _ (Nat.mul_le_mul_right _ ?_)
   rw[Nat.add_mul,Nat.one_mul,Nat.mul_comm _ v1]
   omega
 . rw[Nat.div_lt_iff_lt_mul hv1]
   have:=Nat.mul_le_mul_right B64 hlt
   rw[Nat.succ_mul] at this
   rw[Nat.mul_comm B64]
   have:=h.u1B
   omega
theorem KG.down {qh rh:Nat} (g:KG v1 u2 u1 v U qh rh) (h:KD S v1 v2 v0 u2 u1 u0 ur v U) (ht:rh*B64+u0<qh*v2):0<qh/\KG v1 u2 u1 v U (qh-1) (rh+v1):=by
 have h0:0<qh:=by
  rcases Nat.eq_zero_or_pos qh with e|e
  . rw[e] at ht;omega
  . exact e
 obtain⟨k,rfl⟩:∃ k,qh=k+1:=⟨qh-1,by omega⟩
 refine⟨h0,⟨?_,?_,?_⟩⟩
 . have:=g.eq
   rw[Nat.add_mul,Nat.one_mul] at this
   rw[Nat.add_sub_cancel]
   omega
 . rw[Nat.add_sub_cancel]
   refine Nat.lt_of_lt_of_le h.U_lt ?_
   have e1:(k+1)*(v1*B64+v2)=(k+1)*v1*B64+(k+1)*v2:=by rw[Nat.mul_add,Nat.mul_assoc]
   have e2:((k+1)*v1+rh)*B64=(u2*B64+u1)*B64:=by rw[g.eq]
   rw[Nat.add_mul] at e2
   have e3:(u2*B64+u1)*B64+u0+1<=(k+1)*(v1*B64+v2):=by rw[e1];omega
   refine Nat.le_trans (Nat.mul_le_mul_right S e3) ?_
   rw[h.hv,Nat.mul_assoc,Nat.mul_add (k+1)]
   omega
 . have:=g.qB;omega
theorem KG.near {qh rh:Nat} (g:KG v1 u2 u1 v U qh rh) (h:KD S v1 v2 v0 u2 u1 u0 ur v U) (ht:qh*v2<=rh*B64+u0):(qh-1)*v<=U:=by
 rcases Nat.eq_zero_or_pos qh with e|e
 . rw[e];simp
 obtain⟨k,rfl⟩:∃ k,qh=k+1:=⟨qh-1,by omega⟩
 rw[Nat.add_sub_cancel]
 have e1:(k+1)*(v1*B64+v2)=(k+1)*v1*B64+(k+1)*v2:=by rw[Nat.mul_add,Nat.mul_assoc]
 have e2:((k+1)*v1+rh)*B64=(u2*B64+u1)*B64:=by rw[g.eq]
 rw[Nat.add_mul] at e2
 have e3:(k+1)*(v1*B64+v2)<=(u2*B64+u1)*B64+u0:=by rw[e1];omega
 have hv1:B64<=v1*B64:=by
  have:0<v1:=by have:=h.top;have:=zxw;omega
  exact Nat.le_mul_of_pos_left _ this
 have hk:=g.qB
 have e4:k*(v1*B64+v2+1)<=(u2*B64+u1)*B64+u0:=by
  refine Nat.le_trans ?_ e3
  rw[Nat.mul_add,Nat.add_mul k 1]
  omega
 have e5:v<=(v1*B64+v2+1)*S:=by rw[h.hv,Nat.add_mul _ 1];have:=h.v0S;omega
 refine Nat.le_trans (Nat.mul_le_mul_left k e5) ?_
 rw[<-Nat.mul_assoc]
 refine Nat.le_trans (Nat.mul_le_mul_right S e4) ?_
 rw[h.hU]
 omega
theorem KG.over {qh rh:Nat} (g:KG v1 u2 u1 v U qh rh) (h:KD S v1 v2 v0 u2 u1 u0 ur v U) (hr:B64<=rh):(qh-1)*v<=U:=by
 refine g.near h ?_
 have h1:qh*v2<=B64*B64:=Nat.mul_le_mul (by have:=g.qB;omega) (by have:=h.v2B;omega)
 have:=Nat.mul_le_mul_right B64 hr
 omega
theorem KD.most (h:KD S v1 v2 v0 u2 u1 u0 ur v U) (he:u2=v1):U<(B64-1+1)*v/\(B64-1-1)*v<=U:=by
 refine⟨by rw[Nat.sub_add_cancel zxw,Nat.mul_comm];exact h.less,?_⟩
 subst he
 have e5:v<=(u2+1)*B64*S:=by
  rw[h.hv]
  have h3:(u2*B64+v2+1)*S<=(u2+1)*B64*S:=Nat.mul_le_mul_right _ (by rw[Nat.add_mul];have:=h.v2B;omega)
  rw[Nat.add_mul _ 1] at h3
  have:=h.v0S
  omega
 refine Nat.le_trans (Nat.mul_le_mul_left _ e5) ?_
 have e6:(B64-1-1)*(u2+1)<=u2*B64:=by
  obtain⟨k,hk⟩:∃ k,B64=k+2:=⟨B64-2,rfl⟩
  have ht:=h.top
  rw[hk] at ht ⊢
  rw[show k+2-1-1=k by omega,Nat.mul_add,Nat.mul_one,Nat.mul_add u2,Nat.mul_comm k]
  omega
 have e7:(B64-1-1)*((u2+1)*B64*S)=(B64-1-1)*(u2+1)*B64*S:=by simp only[Nat.mul_assoc]
 rw[e7,h.hU]
 refine Nat.le_trans (Nat.mul_le_mul_right S (Nat.mul_le_mul_right B64 e6)) ?_
 refine Nat.le_trans (Nat.mul_le_mul_right S (?_:_<=(u2*B64+u1)*B64+u0)) (Nat.le_add_right _ _)
 rw[Nat.add_mul]
 omega
end
theorem near_div {qh v U:Nat} (hv:0<v) (h1:U<(qh+1)*v) (h2:(qh-1)*v<=U):(qh*v<=U/\U/v=qh/\U%v=U-qh*v)\/(U<qh*v/\0<qh/\U/v=qh-1/\U%v=U+v-qh*v):=by
 by_cases hc:qh*v<=U
 . refine .inl ⟨hc,?_⟩
   have e:U/v=qh:=by
    refine Nat.le_antisymm (Nat.le_of_lt_succ ?_) ?_
    . rwa [Nat.div_lt_iff_lt_mul hv]
    . rwa [Nat.le_div_iff_mul_le hv]
   refine⟨e,?_⟩
   have:=Nat.div_add_mod U v
   rw[e,Nat.mul_comm] at this
   omega
 . have h0:0<qh:=by
    rcases Nat.eq_zero_or_pos qh with e|e
    . rw[e] at hc;simp at hc
    . exact e
   refine .inr ⟨by omega,h0,?_⟩
   have e:U/v=qh-1:=by
    refine Nat.le_antisymm (Nat.le_of_lt_succ ?_) ?_
    . rw[Nat.div_lt_iff_lt_mul hv,Nat.succ_eq_add_one,Nat.sub_add_cancel h0];omega
    . rwa [Nat.le_div_iff_mul_le hv]
   refine⟨e,?_⟩
   obtain⟨k,rfl⟩:∃ k,qh=k+1:=⟨qh-1,by omega⟩
   rw[Nat.add_sub_cancel] at e h2
   have:=Nat.div_add_mod U v
   rw[e,Nat.mul_comm] at this
   rw[Nat.add_mul,Nat.one_mul] at hc ⊢
   omega
/-! ### lists of words -/
theorem val_split (us:List Nat) (k:Nat) (h:k<=us.length):val us=val (us.take k)+B64^k*val (us.drop k):=by
 conv=>lhs;rw[<-List.take_append_drop k us]
 rw[val_append,List.length_take,Nat.min_eq_left h]
theorem val_top2 {vs:List Nat} {n:Nat} (h:vs.length=n+2):val vs=(vs.getD (n+1) 0*B64+vs.getD n 0)*B64^n+val (vs.take n):=by
 have e:val vs=val (vs.take (n+1+1)):=by rw[List.take_of_length_le (by omega)]
 rw[e,zwy _ _ (by omega),zwy _ _ (by omega),zyk,zyk,List.length_append,List.length_take,Nat.min_eq_left (by omega)]
 have e3:B64^(n+1)=B64^n*B64:=rfl
 have e4:B64^n*B64*vs.getD (n+1) 0=vs.getD (n+1) 0*B64*B64^n:=by ac_rfl
 have e5:B64^n*vs.getD n 0=vs.getD n 0*B64^n:=Nat.mul_comm _ _
 rw[Nat.add_mul]
 show _+B64^(n+1)*_=_
 rw[e3]
 omega
theorem val_top3 {vs:List Nat} {n:Nat} (h:vs.length=n+3):val vs=((vs.getD (n+2) 0*B64+vs.getD (n+1) 0)*B64+vs.getD n 0)*B64^n+val (vs.take n):=by
 have e:val vs=val (vs.take (n+1+1+1)):=by rw[List.take_of_length_le (by omega)]
 have e2:=val_top2 (vs:=vs.take (n+1+1)) (n:=n) (by rw[List.length_take];omega)
 have g:∀ i,i<n+1+1->(vs.take (n+1+1)).getD i 0=vs.getD i 0:=λi hi=>by
  rw[List.getD,List.getElem?_take,if_pos hi,List.getD]
 rw[g _ (by omega),g _ (by omega),List.take_take,Nat.min_eq_left (by omega)] at e2
 rw[e,zwy _ _ (by omega),zyk,e2,List.length_take,Nat.min_eq_left (by omega)]
 have e3:((vs.getD (n+2) 0*B64+vs.getD (n+1) 0)*B64+vs.getD n 0)*B64^n=B64^(n+1+1)*vs.getD (n+2) 0+(vs.getD (n+1) 0*B64+vs.getD n 0)*B64^n:=by
  rw[Nat.pow_succ,Nat.pow_succ]
  generalize vs.getD (n+2) 0=x
  generalize vs.getD (n+1) 0=y
  generalize vs.getD n 0=z
  generalize B64^n=S
  generalize B64=B
  simp only[Nat.add_mul]
  have:x*B*B*S=S*B*B*x:=by ac_rfl
  omega
 rw[e3]
 show _+B64^(n+1+1)*_=_
 omega
structure DBs (U0 v n m i:Nat) (us ks:List Nat):Prop where
 len:us.length=m+n
 le:i<=m
 lk:ks.length=m-i
 ws:Words us
 wk:Words ks
 eq:val us+B64^i*(val ks*v)=U0
 low:val (us.drop i)<v
theorem DBs.sec {U0 v n m j:Nat} {us ks:List Nat} (h:DBs U0 v n m (j+1) us ks) (hv:v<B64^n) :
 val ((us.drop j).take (n+1))=val (us.drop j)/\val (us.drop (j+(n+1)))=0/\val (us.drop j)<v*B64:=by
 have hl:=h.len
 have hle:=h.le
 have h0:val (us.drop (j+(n+1)))=0:=by
  have e:=val_split (us.drop (j+1)) n (by rw[List.length_drop];omega)
  rw[List.drop_drop,show j+1+n=j+(n+1) by omega] at e
  have:=h.low
  rcases Nat.eq_zero_or_pos (val (us.drop (j+(n+1)))) with e0|e0
  . exact e0
  . have:=Nat.le_mul_of_pos_right (B64^n) e0
    omega
 refine⟨?_,h0,?_⟩
 . have e:=val_split (us.drop j) (n+1) (by rw[List.length_drop];omega)
   rw[List.drop_drop,h0] at e
   omega
 . have e:=val_split (us.drop j) 1 (by rw[List.length_drop];omega)
   rw[List.drop_drop] at e
   have hw:=(val_lt ((us.drop j).take 1) ((h.ws.drop _).take _))
   rw[List.length_take,Nat.min_eq_left (by rw[List.length_drop];omega),Nat.pow_one] at hw
   rw[Nat.pow_one] at e
   have h2:B64*(val (us.drop (j+1))+1)<=B64*v:=Nat.mul_le_mul_left _ h.low
   rw[Nat.mul_add,Nat.mul_one] at h2
   rw[e,Nat.mul_comm v]
   omega
theorem spl_drop {us ss:List Nat} {j:Nat} (h:j<=us.length):(spl us j ss).drop j=ss++us.drop (j+ss.length):=by
 unfold spl
 rw[List.append_assoc]
 have e:(us.take j).length=j:=by rw[List.length_take,Nat.min_eq_left h]
 exact List.drop_left' e
theorem DBs.step {U0 v n m j q:Nat} {us ks ss:List Nat} (h:DBs U0 v n m (j+1) us ks) (hv:v<B64^n) (hs:ss.length=n+1) (hw:Words ss) (hq:q<B64) (e:val ss+q*v=val (us.drop j)) (hl:val ss<v):DBs U0 v n m j (spl us j ss) (q :: ks):=by
 obtain⟨-,h0,-⟩:=h.sec hv
 have hlen:=h.len
 have hle:=h.le
 have hlk:=h.lk
 have hd:val ((spl us j ss).drop j)=val ss:=by
  rw[spl_drop (by omega),val_append,hs,h0]
  omega
 refine⟨by rw[zzk (by omega)];exact h.len,by omega,by rw[List.length_cons];omega,h.ws.spl hw,λx hx=>?_,?_,?_⟩
 . rcases List.mem_cons.1 hx with rfl|hx
   . exact hq
   . exact h.wk x hx
 . rw[<-h.eq]
   have e1:=val_split (spl us j ss) j (by rw[zzk (by omega)];omega)
   have e2:=val_split us j (by omega)
   have e3:(spl us j ss).take j=us.take j:=by
    unfold spl
    rw[List.append_assoc]
    have e:(us.take j).length=j:=by rw[List.length_take,Nat.min_eq_left (by omega)]
    exact List.take_left' e
   rw[hd,e3] at e1
   rw[e1,e2,<-e]
   show _+B64^j*((q+B64*val ks)*v)=_
   rw[Nat.pow_succ]
   generalize B64^j=S
   generalize B64=B
   simp only[Nat.mul_add,Nat.add_mul]
   have:S*(B*val ks*v)=S*B*(val ks*v):=by simp only[Nat.mul_assoc]
   omega
 . rw[hd];exact hl
theorem add_back {n z t c r:Nat} (hz:z<B64^n) (hr:r<B64^n) (e:z+B64^n*(c+t)=r+B64^(n+1)):z=r/\t+c=B64:=by
 rw[Nat.pow_succ] at e
 have h1:(z+B64^n*(c+t))%B64^n=z:=by rw[Nat.add_mul_mod_self_left,Nat.mod_eq_of_lt hz]
 have h2:(r+B64^n*B64)%B64^n=r:=by rw[Nat.add_mul_mod_self_left,Nat.mod_eq_of_lt hr]
 have h3:z=r:=by rw[<-h1,<-h2,e]
 refine⟨h3,?_⟩
 have h4:B64^n*(c+t)=B64^n*B64:=by omega
 have:=Nat.eq_of_mul_eq_mul_left (by have:=Nat.pow_pos (n:=n) zxw;omega) h4
 omega
theorem DBs.kd {U0 v n m j:Nat} {us ks vs:List Nat} (h:DBs U0 v (n+2) m (j+1) us ks) (hl:vs.length=n+2) (hw:Words vs) (hv:val vs=v) (ht:B64<=2*vs.getD (n+1) 0) :
 KD (B64^n) (vs.getD (n+1) 0) (vs.getD n 0) (val (vs.take n)) (us.getD (j+(n+2)) 0) (us.getD (j+(n+1)) 0) (us.getD (j+n) 0) (val ((us.drop j).take n)) v (val (us.drop j)):=by
 have hvl:v<B64^(n+2):=by rw[<-hv,<-hl];exact val_lt _ hw
 obtain⟨h1,-,h3⟩:=h.sec hvl
 have hlen:=h.len
 have hle:=h.le
 have e:=val_top3 (vs:=(us.drop j).take (n+2+1)) (n:=n) (by rw[List.length_take,List.length_drop];omega)
 have g:∀ i,i<n+2+1->((us.drop j).take (n+2+1)).getD i 0=us.getD (j+i) 0:=λi hi=>by
  rw[List.getD,List.getElem?_take,if_pos hi,List.getElem?_drop,List.getD]
 rw[g _ (by omega),g _ (by omega),g _ (by omega),List.take_take,Nat.min_eq_left (by omega),h1] at e
 refine⟨by rw[<-hv];exact val_top2 hl,e,?_,?_,hw.getD _,h.ws.getD _,h.ws.getD _,hw.getD _,ht,h3⟩
 . have:=val_lt (vs.take n) (hw.take _);rw[List.length_take,Nat.min_eq_left (by omega)] at this;exact this
 . have:=val_lt ((us.drop j).take n) ((h.ws.drop _).take _);rw[List.length_take,List.length_drop,Nat.min_eq_left (by omega)] at this;exact this
end Go.Proofs.YtohhkjamddojmaaGreatDoor.Big
