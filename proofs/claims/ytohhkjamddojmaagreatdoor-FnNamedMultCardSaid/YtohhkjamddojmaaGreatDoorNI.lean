/- Division by a number of two to four words. Lehmer's simulation on the leading words. -/
import Derived.Test.YtohhkjamddojmaaGreatDoorNH
import Derived.Test.YtohhkjamddojmaaGreatDoorIntH
import Derived.Test.YtohhkjamddojmaaGreatDoorGcdLaw
set_option maxRecDepth 100000
set_option maxHeartbeats 16000000
namespace Go.Proofs.YtohhkjamddojmaaGreatDoor.Big
open Go.RowKit
attribute [local go_sem] ptr
theorem getStk (w:World):Calls Tryz.prog 201 #[] w λe w'=>e=.returned (ptr w.heap.size)/\w.alloc (.cells #[.pointer .none] 285)=w':=by
 go_enter Tryz.func201,Tryz.ntmps201
 go_wp2_with fail
 go_ret
 exact⟨rfl,rfl⟩
def FreeP (N:Nat) (u:FrameMode) (w:World) (e:Ending) (u':FrameMode) (w':World):Prop:=u'=u/\e=.returned (.tuple #[])/\Grow w w' (TS N w)
theorem freeS {N s:Nat} {w:World} (h:Stk N s w) (u:FrameMode):CallsD Tryz.prog 202 #[.pointer (some ⟨s,0,.none⟩)] u w (FreeP N u w):=by
 rcases h with h|⟨si,b,l,c,h1,h2,h3,h4,h5,h6⟩
 . have hs:=(zwx (k:=0) h.2 rfl:w.cell? ⟨s,0,.none⟩=some (.pointer .none))
   clear h
   go_enter_d Tryz.func202,Tryz.ntmps202
   go_wp2
   first|go_end0|refine bodyPost_ret (results_none rfl _ _ _) rfl ?_
   exact⟨rfl,Grow.refl _ _⟩
 . have hs:=(zwx (k:=0) h3 rfl:w.cell? ⟨s,0,.none⟩=some (.pointer (some ⟨si,0,.none⟩)))
   have hi:=(zwx (k:=0) h4 rfl:w.cell? ⟨si,0,.none⟩=some (.slice (some ⟨b,0,.none⟩) l c))
   have f0:w.frozen? ⟨si,0,.none⟩=false:=by simp[World.frozen?,h4]
   have hc:c<=9223372036854775807:=h6
   have HG:=Lz (show Grow w (w.setCell ⟨si,0,.none⟩ (.slice (some ⟨b,0,.none⟩) 0 c)) (TS N w) from(Grow.of (zzw w si 0 _)).weaken (λk _ e=>by
    obtain rfl:=Option.some.inj e
    exact⟨h2,_,_,h4,.inr rfl⟩))
   clear h1 h2 h3 h4 h6
   have HI:Calls Tryz.prog 227 #[.pointer (some ⟨si,0,.none⟩)] w (λe w'=>e=.returned (.tuple #[])/\w'=w.setCell ⟨si,0,.none⟩ (.slice (some ⟨b,0,.none⟩) 0 c)):=by
    go_enter Tryz.func227,Tryz.ntmps227
    go_wp2_with fail
    first|go_end0|refine bodyPost_ret (results_none rfl _ _ _) rfl ?_
    exact⟨rfl,rfl⟩
   have HII:=Lz HI
   clear HI
   go_enter_d Tryz.func202,Tryz.ntmps202
   go_wp2_with fail
   refine HII.out.mono ?_
   rintro e w1 ⟨rfl,rfl⟩
   go_wp2_with fail
   first|go_end0|refine bodyPost_ret (results_none rfl _ _ _) rfl ?_
   exact⟨rfl,HG.out⟩
theorem sgn_ge {a b:Nat} (h:b<=a):¬sgn a b<0:=by
 unfold sgn
 rw[if_neg (by omega)]
 split <;> omega
theorem nat_div_big (p p2 q q2:Option Addr) (l l2 a b:Nat) (cs cs2 ds es:List Nat) (w:World) (h:Buf w p cs) (h2:Buf w p2 cs2) (hap:Apart p p2) (hx:Num w q (dg a) ds) (hy:Num w q2 (dg b) es) (hX:(dg a).length<=80000)
 (hb2:2<=(dg b).length) (hb4:(dg b).length<=4) (hle:b<=a) (htab:Tab w) :
 Calls Tryz.prog 178 #[.slice p l cs.length,.pointer .none,.slice p2 l2 cs2.length,.slice q (dg a).length ds.length,.slice q2 (dg b).length es.length] w (DivNP p p2 a b w):=by
 have HC:=Lz (nat_cmp q q2 a b ds es w hx hy hX)
 obtain⟨sg,hsg⟩:∃ sg,sg=sgn a b:=⟨_,rfl⟩
 have s0:¬sg<0:=by rw[hsg];exact sgn_ge hle
 have hkn:(dg b).length<=(dg a).length:=by
  rcases Nat.lt_or_ge (dg a).length (dg b).length with hl|hl
  . have:=dg_lt hl;omega
  . exact hl
 obtain⟨k,hk⟩:∃ k,k=(dg a).length:=⟨_,rfl⟩
 obtain⟨n,hn⟩:∃ n,n=(dg b).length:=⟨_,rfl⟩
 have HI:=Lz (And.intro h (And.intro h2 (And.intro hap (And.intro hx (And.intro hy (And.intro hX (And.intro hb2 (And.intro hb4 (And.intro hkn (And.intro htab (And.intro hk hn)))))))))))
 have HGS:=Lz getStk
 rw[<-hk,<-hn] at HC ⊢
 rw[<-hsg] at HC
 have hz0:((n:Int)==0)=false:=by rw[beq_eq_false_iff_ne];omega
 have hz1:((n:Int)==1)=false:=by rw[beq_eq_false_iff_ne];omega
 clear h h2 hap hx hy hX hb2 hb4 hkn htab hk hn hle hsg
 go_enter_defers Tryz.func178,Tryz.ntmps178
 go_wp2_with fail
 refine HC.out.mono ?_
 rintro e w1 ⟨rfl,d,rfl⟩
 go_wp2_with fail
 refine(HGS.out _).mono ?_
 rintro e w2 ⟨rfl,rfl⟩
 obtain⟨h,h2,hap,hx,hy,hX,hb2,hb4,hkn,htab,hk,hn⟩:=HI.out
 have g2:w.grownBy ((w.drewN d).alloc (.cells #[.pointer .none] 285)) .none:=zzx (zzz w d .none) (zzy _ _ _)
 have hst:StkZ w.heap.size w.heap.size ((w.drewN d).alloc (.cells #[.pointer .none] 285)):=⟨Nat.le_refl _,heap_alloc_new (w.drewN d) _⟩
 have h8:8<=w.heap.size:=World.block_lt_of_cell? _ _ htab.kdiv
 have HDL:=Lz (divLarge w.heap.size w.heap.size p p2 q q2 l l2 a b n k cs cs2 ds es _ hst h8 g2.size (h.kept g2 (λ_ _=>by simp)) (h2.kept g2 (λ_ _=>by simp)) hap (hx.kept g2 (λ_ _=>by simp)) (hy.kept g2 (λ_ _=>by simp)) hk hn (by omega) (by omega) (by omega) (by omega) (htab.kept g2 (λ_ e=>by cases e)))
 have HG2:=Lz g2
 clear h h2 hap hx hy hX hb2 hb4 hkn htab hk hn g2 hst h8 HC HGS
 unfold ptr at *
 go_wp2_with fail
 refine HDL.out.mono ?_
 rintro e w3 ⟨p',cs',q',ds',rfl,y1,y2,y3,y4,y5,y6,y7⟩
 have HY:=Lz (And.intro y1 (And.intro y2 (And.intro y3 (And.intro y4 (And.intro y5 (And.intro y6 y7))))))
 clear y1 y2 y3 y4 y5 y6 y7 HDL
 go_wp2_with fail
 refine leaves_cons (f:=202) (args:=#[.pointer (some ⟨w.heap.size,0,.none⟩)]) (by simp) (by simp[go_sem]) ?_
 obtain⟨y1,y2,y3,y4,y5,y6,y7⟩:=HY.out
 refine(freeS y7 .returning).mono ?_
 rintro e9 u9 w9 ⟨rfl,rfl,s1⟩
 have HEND:DivNP p p2 a b w (.returned (.tuple #[.slice p' (dg (a/b)).length cs'.length,.slice q' (dg (a%b)).length ds'.length])) w9:=by
  have kq:∀ {c:Option Addr} {X L:List Nat},Num w3 c X L->Num w9 c X L:=λ{c X L} h=>h.grow s1 (λb hb=>by
   rcases h.buf.1 with⟨rfl,_⟩|⟨b,rfl,hN⟩
   . cases hb
   . cases hb;exact TS.row hN)
  have ga:=(Grow.none HG2.out (λk=>(blk p=some k\/blk p2=some k)\/TS w.heap.size w k)).ts (S:=λk=>blk p=some k\/blk p2=some k) y3
  have gb:=ga.ts (s1.weaken (λx _ e=>(.inr e:(blk p=some x\/blk p2=some x)\/TS w.heap.size w3 x)))
  refine⟨p',cs',q',ds',rfl,kq y1,kq y2,gb.weaken (λx hx e=>?_),Fresh.older HG2.out.size y4,Fresh.older HG2.out.size y5,y6⟩
  rcases e with e|e
  . exact e
  . have:=e.1;omega
 simp[Leaves,settle,results,Tryz.results178,go_sem]
 exact HEND
theorem DivOK.big {b:Nat} (h2:2<=(dg b).length) (h4:(dg b).length<=4):DivOK b:=λp p2 q q2 l l2 a cs cs2 ds es w hp hp2 hap hx hy hX htab=>by
 rcases Nat.lt_or_ge a b with hlt|hle
 . exact nat_div_less p p2 q q2 _ l l2 a b cs cs2 ds es w hp hp2 hap hx hy hX h2 hlt
 . exact nat_div_big p p2 q q2 l l2 a b cs cs2 ds es w hp hp2 hap hx hy hX h2 h4 hle htab
theorem DivOK.four {b:Nat} (h0:b≠0) (h4:b<B64^4):DivOK b:=by
 have hl:(dg b).length<=4:=dg_length.2 h4
 have hp:=zyw h0
 rcases Nat.lt_or_ge (dg b).length 2 with h|h
 . exact DivOK.word (by omega)
 . exact DivOK.big h hl
end Go.Proofs.YtohhkjamddojmaaGreatDoor.Big

set_option maxRecDepth 100000
set_option maxHeartbeats 16000000
namespace Go.Proofs.YtohhkjamddojmaaGreatDoor.Big
open Go.RowKit
attribute [local go_sem] ptr
theorem lead_word {X:List Nat} {n h:Nat} (hl:X.length=n+2) (hw:Words X) (hh:h<=63):val X/(B64^n*2^(64-h))=X.getD (n+1) 0*2^h+X.getD n 0/2^(64-h):=by
 have hr:=val_lt (X.take n) (hw.take _)
 rw[List.length_take,Nat.min_eq_left (by omega)] at hr
 have e1:val X/B64^n=X.getD (n+1) 0*B64+X.getD n 0:=by
  rw[val_top2 hl,Nat.mul_comm,Nat.mul_add_div (Nat.pow_pos zxw),Nat.div_eq_of_lt hr,Nat.add_zero]
 rw[<-Nat.div_div_eq_div_mul,e1]
 have hp:0<2^(64-h):=Nat.pow_pos (by decide)
 have hB:X.getD (n+1) 0*B64=2^(64-h)*(X.getD (n+1) 0*2^h):=by rw[<-sh_pow hh];ac_rfl
 rw[hB,Nat.mul_add_div hp]
theorem lead_word1 {X:List Nat} {n h:Nat} (hl:X.length=n+1) (hw:Words X):val X/(B64^n*2^(64-h))=X.getD n 0/2^(64-h):=by
 have hr:=val_lt (X.take n) (hw.take _)
 rw[List.length_take,Nat.min_eq_left (by omega)] at hr
 have e1:val X/B64^n=X.getD n 0:=by
  have e:X=X.take (n+1):=by rw[List.take_of_length_le (by omega)]
  have e2:val X=val (X.take n)+B64^n*X.getD n 0:=by
   conv=>lhs;rw[e]
   rw[zwy _ _ (by omega),zyk,List.length_take,Nat.min_eq_left (by omega)]
  rw[e2,Nat.add_comm,Nat.mul_add_div (Nat.pow_pos zxw),Nat.div_eq_of_lt hr,Nat.add_zero]
 rw[<-Nat.div_div_eq_div_mul,e1]
def SimP (A B:Nat) (w:World) (e:Ending) (w':World):Prop:=
 ∃ (u0 u1 v0 v1:Nat) (even:Bool),e=.returned (.tuple #[wd u0,wd u1,wd v0,wd v1,.bool even])/\(∃ d,w'=w.drewN d)/\u0<B64/\u1<B64/\v0<B64/\v1<B64/\(v0=0\/∃ A' B',GcdLaw.Leh A B u0 u1 v0 v1 A' B' even)
structure SimI (A B:Nat) (c d:Nat) (u0 u1 u2 v0 v1 v2 a1 a2:Nat) (even:Bool):Prop where
 sim:GcdLaw.Sim c d a1 a2 u1 u2 v1 v2 even
 leh:v0=0\/∃ A' B',GcdLaw.Leh A B u0 u1 v0 v1 A' B' even
 a1B:a1<B64
 u0B:u0<B64
 u1B:u1<B64
 u2B:u2<B64
 v0B:v0<B64
 v1B:v1<B64
 v2B:v2<B64
theorem SimI.next {A B c d u0 u1 u2 v0 v1 v2 a1 a2 S:Nat} {even:Bool} (h:SimI A B c d u0 u1 u2 v0 v1 v2 a1 a2 even) (hc:c=A/S) (hd:d=B/S) (hS:0<S) (hcB:c<B64) (h1:v2<=a2) (h2:v1+v2<=a1-a2) :
 SimI A B c d u1 u2 (u1+a1/a2*u2) v1 v2 (v1+a1/a2*v2) a2 (a1%a2) (!even)/\a1%a2<a2/\0<a2/\a2<=a1/\v1+v2<B64/\a1/a2*u2<B64/\a1/a2*v2<B64:=by
 have hs:=h.sim
 have k1:(v2:Int)<=(a2:Int):=by omega
 have hv21:=hs.v21
 have hyx:=hs.yx
 have hb:=hs.bounds k1
 have hn:=hs.next k1
 have e1:((a1:Int)/(a2:Int))*(v2:Int)=((a1/a2*v2:Nat):Int):=by push_cast;rfl
 have e2:((a1:Int)/(a2:Int))*(u2:Int)=((a1/a2*u2:Nat):Int):=by push_cast;rfl
 have e3:(a1:Int)%(a2:Int)=((a1%a2:Nat):Int):=rfl
 rw[e1,e2] at hb hn
 rw[e3] at hn
 obtain⟨b1,b2,b3⟩:=hb
 have ha2:0<a2:=by omega
 have hm:=Nat.mod_lt a1 ha2
 have hyxN:a2<=a1:=by omega
 have f1:((u1:Int)+((a1/a2*u2:Nat):Int))=((u1+a1/a2*u2:Nat):Int):=by push_cast;rfl
 have f2:((v1:Int)+((a1/a2*v2:Nat):Int))=((v1+a1/a2*v2:Nat):Int):=by push_cast;rfl
 rw[f1,f2] at hn b3
 rw[f2] at b2
 generalize a1/a2*u2=pu at *
 generalize a1/a2*v2=pv at *
 refine⟨⟨hn,?_,by have:=h.a1B;omega,h.u1B,h.u2B,by omega,h.v1B,h.v2B,by omega⟩,hm,ha2,hyxN,by omega,by omega,by omega⟩
 rcases Nat.eq_zero_or_pos v1 with h0|h0
 . exact .inl h0
 . right
   have hA:(A:Int)=(c:Int)*(S:Int)+((A%S:Nat):Int):=by
    have:=Nat.div_add_mod A S
    rw[<-hc,Nat.mul_comm] at this
    omega
   have hB:(B:Int)=(d:Int)*(S:Int)+((B%S:Nat):Int):=by
    have:=Nat.div_add_mod B S
    rw[<-hd,Nat.mul_comm] at this
    omega
   exact⟨_,_,hs.leh hA hB (by omega) (by have:=Nat.mod_lt A hS;omega) (by omega) (by have:=Nat.mod_lt B hS;omega) k1 (by omega) (by omega)⟩
theorem u64_mul {a b:Nat} (h:a*b<B64):IntKind.u64.wrap ((a:Int)*(b:Int))=((a*b:Nat):Int):=by
 rw[show(a:Int)*(b:Int)=((a*b:Nat):Int) by push_cast;rfl,zxx,Nat.mod_eq_of_lt h]
theorem wrap_small {a:Nat} (h:a<B64):IntKind.u64.wrap (a:Int)=(a:Int):=by rw[zxx,Nat.mod_eq_of_lt h]
theorem SimI.start {A B c d S:Nat} (hc:c=A/S) (hd:d=B/S) (hle:B<=A) (hcB:c<B64):SimI A B c d 0 1 0 0 0 1 c d false:=
 ⟨GcdLaw.Sim.start (by omega) (by have : d ≤ c := by rw [hc, hd]; exact Nat.div_le_div_right hle
                                  omega),.inl rfl,hcB,by decide,by decide,by decide,by decide,by decide,by decide⟩
theorem lehmerSim (x y bx bY n0 m cx cy A B:Nat) (w:World) (hle:B<=A) (hn:(dg A).length=n0+2) (hm:(dg B).length=m) (hm2:2<=m) (hX:n0<=80000)
 (c1:w.cell? ⟨x,1,.none⟩=some (.slice (some ⟨bx,0,.none⟩) (n0+2:Nat) cx)) (c2:w.cell? ⟨y,1,.none⟩=some (.slice (some ⟨bY,0,.none⟩) m cy))
 (wX:∀ i,i<n0+2->w.cell? ⟨bx,i,.none⟩=some (wd ((dg A).getD i 0))) (wY:∀ i,i<m->w.cell? ⟨bY,i,.none⟩=some (wd ((dg B).getD i 0))) :
 Calls Tryz.prog 192 #[ptr x,ptr y] w (SimP A B w):=by
 obtain⟨n,hnn⟩:∃ n,n=n0+2:=⟨_,rfl⟩
 obtain⟨n1,hn1⟩:∃ n1,n1=n0+1:=⟨_,rfl⟩
 obtain⟨p1,hp1⟩:∃ p,p=(dg A).getD n1 0:=⟨_,rfl⟩
 obtain⟨p0,hp0⟩:∃ p,p=(dg A).getD n0 0:=⟨_,rfl⟩
 have p1B:p1<B64:=by rw[hp1];exact(dg_words A).getD _
 have p0B:p0<B64:=by rw[hp0];exact(dg_words A).getD _
 have hA0:A≠0:=by rintro rfl;rw[zyv] at hn;simp at hn
 have p10:p1≠0:=by
  intro h0
  have e1:=dg_last hA0
  rw[hn] at e1
  have e2:=val_lt _ ((dg_words A).take (n0+1))
  rw[List.length_take,Nat.min_eq_left (by omega)] at e2
  have e3:val (dg A)=val ((dg A).take (n0+1))+B64^(n0+1)*p1:=by
   have e:dg A=(dg A).take (n0+1+1):=by rw[List.take_of_length_le (by omega)]
   conv=>lhs;rw[e]
   rw[zwy _ _ (by omega),zyk,List.length_take,Nat.min_eq_left (by omega),hp1,hn1]
  rw[val_dg,h0,Nat.mul_zero] at e3
  have:n0+2-1=n0+1:=by omega
  rw[this] at e1
  omega
 obtain⟨h,hh⟩:∃ h,h=lz p1:=⟨_,rfl⟩
 obtain⟨t,ht⟩:∃ t,t=64-h:=⟨_,rfl⟩
 obtain⟨-,h63,nB,-⟩:=lz_facts p1B p10
 unfold nrm at nB
 rw[<-hh] at h63 nB
 obtain⟨S,hS⟩:∃ S,S=B64^n0*2^(64-h):=⟨_,rfl⟩
 obtain⟨c,hc⟩:∃ c,c=A/S:=⟨_,rfl⟩
 obtain⟨d,hd⟩:∃ d,d=B/S:=⟨_,rfl⟩
 have hSp:0<S:=by rw[hS];exact Nat.mul_pos (Nat.pow_pos zxw) (Nat.pow_pos (by decide))
 have hcv:c=p1*2^h+p0/2^(64-h):=by
  have e:=lead_word hn (dg_words A) h63
  rw[val_dg,<-hS,<-hn1,<-hp1,<-hp0] at e
  rw[hc];exact e
 obtain⟨s1,s2⟩:=shl_word (s:=h) (a:=p1) (b:=p0) h63 p0B
 rw[Nat.mod_eq_of_lt nB] at s1 s2
 have s3:=sh_room (s:=h) (c:=p0/2^(64-h)) p1 h63 (sh_carry h63 p0B)
 rw[Nat.mod_eq_of_lt nB] at s3
 rw[<-hcv] at s3
 rw[<-hcv,<-ht] at s2
 obtain⟨pa,hpa⟩:∃ pa,pa=p1*2^h:=⟨_,rfl⟩
 rw[<-hpa] at s1 s2
 have HC:=Lz (And.intro hc (And.intro hd (And.intro hSp s3)))
 have HS0:=Lz (SimI.start hc hd hle s3)
 have HNL:=Lz (nlz p1 p1B p10)
 rw[<-hh] at HNL
 have e64:IntKind.u64.wrap (64-(h:Int))=(t:Int):=by rw[show 64-(h:Int)=(t:Int) by omega,zxx,Nat.mod_eq_of_lt (by unfold B64;omega)]
 have e64':64-(h:Int)=(t:Int):=by omega
 have x1:=wX n1 (by omega)
 have x0:=wX n0 (by omega)
 rw[<-hp1] at x1
 rw[<-hp0] at x0
 rw[<-hnn] at c1
 have W1:=Lz (show wrap64 ((n:Int)-1)=n1 from wrapN (by omega) (by omega))
 have W2:=Lz (show wrap64 ((n:Int)-2)=n0 from wrapN (by omega) (by omega))
 have W3:=Lz (show IntKind.i64.wrap ((n:Int)-1)=n1 from wrapI (by omega) (by omega))
 have W4:=Lz (show IntKind.i64.wrap ((n:Int)-2)=n0 from wrapI (by omega) (by omega))
 have i1:(n1:Int)<n:=by omega
 have i0:(n0:Int)<n:=by omega
 have hml:m<=n:=by
  rcases Nat.lt_or_ge n m with hl|hl
  . have:=dg_lt (a:=A) (b:=B) (by omega);omega
  . exact hl
 have HP:=Lz (And.intro hS (And.intro h63 (And.intro hn (And.intro hm (And.intro hm2 (And.intro hnn (And.intro hn1 (And.intro ht (And.intro wY (And.intro hX (And.intro hml (And.intro hle (And.intro hp1 (And.intro nB hh))))))))))))))
 have hd':=hd
 rw[hS] at hd'
 have HD:=Lz hd'
 unfold ptr
 clear hcv hc hd hd' hSp s3 hh hS h63 nB hn hm2 hle hn1 ht hp1 hp0 p1B p0B hA0 p10 wX wY hpa hX
 by_cases hnm:n=m
 . obtain⟨b1,hb1⟩:∃ b,b=(dg B).getD n1 0:=⟨_,rfl⟩
   obtain⟨b0,hb0⟩:∃ b,b=(dg B).getD n0 0:=⟨_,rfl⟩
   have b0B:b0<B64:=by rw[hb0];exact(dg_words B).getD _
   have hdv:d=b1*2^h+b0/2^(64-h):=by
    have e:=lead_word (X:=dg B) (n:=n0) (h:=h) (by rw[hm];omega) (dg_words B) HP.out.2.1
    rw[val_dg,<-HP.out.2.2.2.2.2.2.1,<-hb1,<-hb0] at e
    rw[HD.out];exact e
   have hdB:d<B64:=Nat.lt_of_le_of_lt (by rw[HC.out.2.1,HC.out.1];exact Nat.div_le_div_right HP.out.2.2.2.2.2.2.2.2.2.2.2.1) HC.out.2.2.2
   have hb1B:b1*2^h<B64:=Nat.lt_of_le_of_lt (by rw[hdv];exact Nat.le_add_right _ _) hdB
   obtain⟨y1,y2⟩:=shl_word (s:=h) (a:=b1) (b:=b0) HP.out.2.1 b0B
   rw[Nat.mod_eq_of_lt hb1B] at y1 y2
   rw[<-hdv,<-HP.out.2.2.2.2.2.2.2.1] at y2
   obtain⟨pb,hpb⟩:∃ pb,pb=b1*2^h:=⟨_,rfl⟩
   rw[<-hpb] at y1 y2
   have z1:=HP.out.2.2.2.2.2.2.2.2.1 n1 (by omega)
   have z0:=HP.out.2.2.2.2.2.2.2.2.1 n0 (by omega)
   rw[<-hb1] at z1
   rw[<-hb0] at z0
   have j1:((n:Int)==(m:Int))=true:=by rw[hnm];exact beq_self_eq_true _
   have j3:(n1:Int)<m:=by omega
   have j4:(n0:Int)<m:=by omega
   have w1:=W1.out
   have w2:=W2.out
   have w3:=W3.out
   have w4:=W4.out
   clear hnm hm hnn hml hb1 hb0 b0B hdv hdB hpb hb1B
   unfold wd at *
   go_enter Tryz.func192,Tryz.ntmps192
   go_wp2_with fail
   refine(HNL.out _).mono ?_
   rintro e w ⟨rfl,rfl⟩
   go_wp2_with fail
   go_quiet (fail)
   go_wp2_with fail
   go_quiet (fail)
   go_wp2_with fail
   clear w1 w2 w3 w4 s1 s2 e64 e64' y1 y2
   go_loopw [4,5,6,7,8,9,10,11,12] (λs4 s5 s6 s7 s8 s9 s10 s11 s12 wr=>∃ (u0 u1 u2 v0 v1 v2 a1 a2 k:Nat) (even:Bool),s4=.int .u64 (u0:Nat)/\s5=.int .u64 (u1:Nat)/\s6=.int .u64 (v0:Nat)/\s7=.int .u64 (v1:Nat)/\s8=.bool even/\s9=.int .u64 (a1:Nat)/\s10=.int .u64 (a2:Nat)/\s11=.int .u64 (u2:Nat)/\s12=.int .u64 (v2:Nat)/\wr=w.drewN k/\RowKit.Hid (SimI A B c d u0 u1 u2 v0 v1 v2 a1 a2 even)) (λ_ _ _ _ _ _ s10 _ _ _=>(intOf s10).toNat)
   case atStart=>exact⟨0,1,0,0,0,1,c,d,_,false,rfl,rfl,rfl,rfl,rfl,rfl,rfl,rfl,rfl,by first|exact World.drewN_drewN _ _ _|rfl,HS0.out⟩
   case round=>
    obtain⟨u0,u1,u2,v0,v1,v2,a1,a2,k,even,rfl,rfl,rfl,rfl,rfl,rfl,rfl,rfl,rfl,rfl,HI⟩:=hrel
    by_cases t1:v2<=a2
    . have i1:(v2:Int)<=a2:=by omega
      have hyx:=HI.out.sim.yx
      have hyxN:a2<=a1:=by omega
      have hvB:v1+v2<B64:=by have:=(HI.out.sim.bounds (by omega)).1;have:=HC.out.2.2.2;omega
      have E1:=Lz (u64_minus hyxN HI.out.a1B)
      have E2:=Lz (u64_plus hvB)
      obtain⟨da,hda⟩:∃ x,x=a1-a2:=⟨_,rfl⟩
      obtain⟨sv,hsv⟩:∃ x,x=v1+v2:=⟨_,rfl⟩
      rw[<-hda] at E1
      rw[<-hsv] at E2
      by_cases t2:sv<=da
      . have i2:(sv:Int)<=da:=by omega
        obtain⟨hN,hm,ha2,-,-,hpu,hpv⟩:=HI.out.next HC.out.1 HC.out.2.1 HC.out.2.2.1 HC.out.2.2.2 t1 (by omega)
        obtain⟨q,hq⟩:∃ q,q=a1/a2:=⟨_,rfl⟩
        obtain⟨r,hr⟩:∃ r,r=a1%a2:=⟨_,rfl⟩
        rw[<-hq,<-hr] at hN
        rw[<-hq] at hpu hpv
        rw[<-hr] at hm
        have Q1:=Lz (show(a1:Int)/(a2:Int)=(q:Int) by rw[hq];push_cast;rfl)
        have Q2:=Lz (show(a1:Int)%(a2:Int)=(r:Int) by rw[hr];rfl)
        have E3:=Lz (u64_mul hpu)
        have E4:=Lz (u64_mul hpv)
        have E5:=Lz (u64_plus hN.u2B)
        have E6:=Lz (u64_plus hN.v2B)
        obtain⟨pu,hpu'⟩:∃ x,x=q*u2:=⟨_,rfl⟩
        obtain⟨pv,hpv'⟩:∃ x,x=q*v2:=⟨_,rfl⟩
        rw[<-hpu'] at E3 E5 hN
        rw[<-hpv'] at E4 E6 hN
        obtain⟨nu,hnu⟩:∃ x,x=u1+pu:=⟨_,rfl⟩
        obtain⟨nv,hnv⟩:∃ x,x=v1+pv:=⟨_,rfl⟩
        rw[<-hnu] at E5 hN
        rw[<-hnv] at E6 hN
        have HN:=Lz (And.intro hN hm)
        have z1:((a2:Int)==0)=false:=by rw[beq_eq_false_iff_ne];omega
        have z2:¬(a2:Int)=0:=by omega
        have z3:(1:Int)<=a2:=by omega
        have qB:q<B64:=by rw[hq];exact Nat.lt_of_le_of_lt (Nat.div_le_self _ _) HI.out.a1B
        have E7:=Lz (wrap_small qB)
        have e1:=E1.out
        have e2:=E2.out
        have e3:=E3.out
        have e4:=E4.out
        have e5:=E5.out
        have e6:=E6.out
        have e7:=E7.out
        have q1:=Q1.out
        have q2:=Q2.out
        clear hN hm ha2 hpu hpv hq hr hpu' hpv' hnu hnv qB t1 t2 hyx hyxN hvB hda hsv
        go_wp2_with fail
        go_quiet (fail)
        go_wp2_with fail
        go_roundw
        case rel=>exact⟨u1,u2,nu,v1,v2,nv,a2,r,_,!even,by go_num,by go_num,by go_num,by go_num,by first|rfl|simp,by go_num,by go_num,by go_num,by go_num,by first|rfl|exact World.drewN_drewN _ _ _,HN.out.1⟩
        case measure=>have:=HN.out.2;have h2:=Q2.out;clear e1 e2 e3 e4 e5 e6 e7 q1 q2;simp only[intOf];rw[h2];omega
      . have i2:¬(sv:Int)<=da:=by omega
        have HF:=Lz (And.intro HI.out.u0B (And.intro HI.out.u1B (And.intro HI.out.v0B (And.intro HI.out.v1B HI.out.leh))))
        have e1:=E1.out
        have e2:=E2.out
        clear t1 t2 hyx hyxN hvB hda hsv HI
        go_wp2_with fail
        have HE:SimP A B w (.returned (.tuple #[wd u0,wd u1,wd v0,wd v1,.bool even])) (w.drewN k):=⟨u0,u1,v0,v1,even,rfl,⟨_,rfl⟩,HF.out⟩
        simp[bodyPost,results,Tryz.results192,go_sem]
        exact HE
    . have i1:¬(v2:Int)<=a2:=by omega
      have HF:=Lz (And.intro HI.out.u0B (And.intro HI.out.u1B (And.intro HI.out.v0B (And.intro HI.out.v1B HI.out.leh))))
      clear t1 HI
      go_wp2_with fail
      have HE:SimP A B w (.returned (.tuple #[wd u0,wd u1,wd v0,wd v1,.bool even])) (w.drewN k):=⟨u0,u1,v0,v1,even,rfl,⟨_,rfl⟩,HF.out⟩
      simp[bodyPost,results,Tryz.results192,go_sem]
      exact HE
 . by_cases hnm1:n=m+1
   . obtain⟨b0,hb0⟩:∃ b,b=(dg B).getD n0 0:=⟨_,rfl⟩
     have hdv:d=b0/2^(64-h):=by
      have e:=lead_word1 (X:=dg B) (n:=n0) (h:=h) (by rw[hm];omega) (dg_words B)
      rw[val_dg,<-hb0] at e
      rw[HD.out];exact e
     have z0:=HP.out.2.2.2.2.2.2.2.2.1 n0 (by omega)
     rw[<-hb0] at z0
     have y2:(b0:Int)/2^t=(d:Int):=by rw[hdv,HP.out.2.2.2.2.2.2.2.1];push_cast;rfl
     obtain⟨mp,hmp⟩:∃ mp,mp=m+1:=⟨_,rfl⟩
     have W5:=Lz (show wrap64 ((m:Int)+1)=mp from wrapN (by omega) (by have:=HP.out.2.2.2.2.2.2.2.2.2.1;have:=HP.out.2.2.2.2.2.1;omega))
     have j1:((n:Int)==(m:Int))=false:=by rw[beq_eq_false_iff_ne];omega
     have j2:((n:Int)==(mp:Int))=true:=by rw[hmp,hnm1];exact beq_self_eq_true _
     have j4:(n0:Int)<m:=by omega
     have w1:=W1.out
     have w2:=W2.out
     have w3:=W3.out
     have w4:=W4.out
     have w5:=W5.out
     clear hnm hnm1 hmp hm hnn hml hb0 hdv
     unfold wd at *
     go_enter Tryz.func192,Tryz.ntmps192
     go_wp2_with fail
     refine(HNL.out _).mono ?_
     rintro e w ⟨rfl,rfl⟩
     go_wp2_with fail
     go_quiet (fail)
     go_wp2_with fail
     clear w1 w2 w3 w4 w5 s1 s2 e64 e64' y2
     go_loopw [4,5,6,7,8,9,10,11,12] (λs4 s5 s6 s7 s8 s9 s10 s11 s12 wr=>∃ (u0 u1 u2 v0 v1 v2 a1 a2 k:Nat) (even:Bool),s4=.int .u64 (u0:Nat)/\s5=.int .u64 (u1:Nat)/\s6=.int .u64 (v0:Nat)/\s7=.int .u64 (v1:Nat)/\s8=.bool even/\s9=.int .u64 (a1:Nat)/\s10=.int .u64 (a2:Nat)/\s11=.int .u64 (u2:Nat)/\s12=.int .u64 (v2:Nat)/\wr=w.drewN k/\RowKit.Hid (SimI A B c d u0 u1 u2 v0 v1 v2 a1 a2 even)) (λ_ _ _ _ _ _ s10 _ _ _=>(intOf s10).toNat)
     case atStart=>exact⟨0,1,0,0,0,1,c,d,_,false,rfl,rfl,rfl,rfl,rfl,rfl,rfl,rfl,rfl,by first|exact World.drewN_drewN _ _ _|rfl,HS0.out⟩
     case round=>
      obtain⟨u0,u1,u2,v0,v1,v2,a1,a2,k,even,rfl,rfl,rfl,rfl,rfl,rfl,rfl,rfl,rfl,rfl,HI⟩:=hrel
      by_cases t1:v2<=a2
      . have i1:(v2:Int)<=a2:=by omega
        have hyx:=HI.out.sim.yx
        have hyxN:a2<=a1:=by omega
        have hvB:v1+v2<B64:=by have:=(HI.out.sim.bounds (by omega)).1;have:=HC.out.2.2.2;omega
        have E1:=Lz (u64_minus hyxN HI.out.a1B)
        have E2:=Lz (u64_plus hvB)
        obtain⟨da,hda⟩:∃ x,x=a1-a2:=⟨_,rfl⟩
        obtain⟨sv,hsv⟩:∃ x,x=v1+v2:=⟨_,rfl⟩
        rw[<-hda] at E1
        rw[<-hsv] at E2
        by_cases t2:sv<=da
        . have i2:(sv:Int)<=da:=by omega
          obtain⟨hN,hm,ha2,-,-,hpu,hpv⟩:=HI.out.next HC.out.1 HC.out.2.1 HC.out.2.2.1 HC.out.2.2.2 t1 (by omega)
          obtain⟨q,hq⟩:∃ q,q=a1/a2:=⟨_,rfl⟩
          obtain⟨r,hr⟩:∃ r,r=a1%a2:=⟨_,rfl⟩
          rw[<-hq,<-hr] at hN
          rw[<-hq] at hpu hpv
          rw[<-hr] at hm
          have Q1:=Lz (show(a1:Int)/(a2:Int)=(q:Int) by rw[hq];push_cast;rfl)
          have Q2:=Lz (show(a1:Int)%(a2:Int)=(r:Int) by rw[hr];rfl)
          have E3:=Lz (u64_mul hpu)
          have E4:=Lz (u64_mul hpv)
          have E5:=Lz (u64_plus hN.u2B)
          have E6:=Lz (u64_plus hN.v2B)
          obtain⟨pu,hpu'⟩:∃ x,x=q*u2:=⟨_,rfl⟩
          obtain⟨pv,hpv'⟩:∃ x,x=q*v2:=⟨_,rfl⟩
          rw[<-hpu'] at E3 E5 hN
          rw[<-hpv'] at E4 E6 hN
          obtain⟨nu,hnu⟩:∃ x,x=u1+pu:=⟨_,rfl⟩
          obtain⟨nv,hnv⟩:∃ x,x=v1+pv:=⟨_,rfl⟩
          rw[<-hnu] at E5 hN
          rw[<-hnv] at E6 hN
          have HN:=Lz (And.intro hN hm)
          have z1:((a2:Int)==0)=false:=by rw[beq_eq_false_iff_ne];omega
          have z2:¬(a2:Int)=0:=by omega
          have z3:(1:Int)<=a2:=by omega
          have qB:q<B64:=by rw[hq];exact Nat.lt_of_le_of_lt (Nat.div_le_self _ _) HI.out.a1B
          have E7:=Lz (wrap_small qB)
          have e1:=E1.out
          have e2:=E2.out
          have e3:=E3.out
          have e4:=E4.out
          have e5:=E5.out
          have e6:=E6.out
          have e7:=E7.out
          have q1:=Q1.out
          have q2:=Q2.out
          clear hN hm ha2 hpu hpv hq hr hpu' hpv' hnu hnv qB t1 t2 hyx hyxN hvB hda hsv
          go_wp2_with fail
          go_quiet (fail)
          go_wp2_with fail
          go_roundw
          case rel=>exact⟨u1,u2,nu,v1,v2,nv,a2,r,_,!even,by go_num,by go_num,by go_num,by go_num,by first|rfl|simp,by go_num,by go_num,by go_num,by go_num,by first|rfl|exact World.drewN_drewN _ _ _,HN.out.1⟩
          case measure=>have:=HN.out.2;have h2:=Q2.out;clear e1 e2 e3 e4 e5 e6 e7 q1 q2;simp only[intOf];rw[h2];omega
        . have i2:¬(sv:Int)<=da:=by omega
          have HF:=Lz (And.intro HI.out.u0B (And.intro HI.out.u1B (And.intro HI.out.v0B (And.intro HI.out.v1B HI.out.leh))))
          have e1:=E1.out
          have e2:=E2.out
          clear t1 t2 hyx hyxN hvB hda hsv HI
          go_wp2_with fail
          have HE:SimP A B w (.returned (.tuple #[wd u0,wd u1,wd v0,wd v1,.bool even])) (w.drewN k):=⟨u0,u1,v0,v1,even,rfl,⟨_,rfl⟩,HF.out⟩
          simp[bodyPost,results,Tryz.results192,go_sem]
          exact HE
      . have i1:¬(v2:Int)<=a2:=by omega
        have HF:=Lz (And.intro HI.out.u0B (And.intro HI.out.u1B (And.intro HI.out.v0B (And.intro HI.out.v1B HI.out.leh))))
        clear t1 HI
        go_wp2_with fail
        have HE:SimP A B w (.returned (.tuple #[wd u0,wd u1,wd v0,wd v1,.bool even])) (w.drewN k):=⟨u0,u1,v0,v1,even,rfl,⟨_,rfl⟩,HF.out⟩
        simp[bodyPost,results,Tryz.results192,go_sem]
        exact HE
   . have W5:=Lz (show wrap64 ((m:Int)+1)=((m+1:Nat):Int) from wrapN (by omega) (by have:=HP.out.2.2.2.2.2.2.2.2.2.1;have:=HP.out.2.2.2.2.2.1;omega))
     have d0:d=0:=by
      rw[HD.out]
      have:B<B64^n0:=dg_length.1 (by rw[hm];have:=HP.out.2.2.2.2.2.1;omega)
      exact Nat.div_eq_of_lt (Nat.lt_of_lt_of_le this (Nat.le_mul_of_pos_right _ (Nat.pow_pos (by decide))))
     subst d0
     obtain⟨mp,hmp⟩:∃ mp,mp=m+1:=⟨_,rfl⟩
     rw[<-hmp] at W5
     have j1:((n:Int)==(m:Int))=false:=by rw[beq_eq_false_iff_ne];omega
     have j2:((n:Int)==(mp:Int))=false:=by rw[beq_eq_false_iff_ne];omega
     have w1:=W1.out
     have w2:=W2.out
     have w3:=W3.out
     have w4:=W4.out
     have w5:=W5.out
     clear hnm hnm1 hmp hm hnn hml
     unfold wd at *
     go_enter Tryz.func192,Tryz.ntmps192
     go_wp2_with fail
     refine(HNL.out _).mono ?_
     rintro e w ⟨rfl,rfl⟩
     go_wp2_with fail
     go_quiet (fail)
     go_wp2_with fail
     clear w1 w2 w3 w4 w5 s1 s2 e64 e64'
     go_loopw [4,5,6,7,8,9,10,11,12] (λs4 s5 s6 s7 s8 s9 s10 s11 s12 wr=>∃ (u0 u1 u2 v0 v1 v2 a1 a2 k:Nat) (even:Bool),s4=.int .u64 (u0:Nat)/\s5=.int .u64 (u1:Nat)/\s6=.int .u64 (v0:Nat)/\s7=.int .u64 (v1:Nat)/\s8=.bool even/\s9=.int .u64 (a1:Nat)/\s10=.int .u64 (a2:Nat)/\s11=.int .u64 (u2:Nat)/\s12=.int .u64 (v2:Nat)/\wr=w.drewN k/\RowKit.Hid (SimI A B c 0 u0 u1 u2 v0 v1 v2 a1 a2 even)) (λ_ _ _ _ _ _ s10 _ _ _=>(intOf s10).toNat)
     case atStart=>exact⟨0,1,0,0,0,1,c,0,_,false,rfl,rfl,rfl,rfl,rfl,rfl,rfl,rfl,rfl,by first|exact World.drewN_drewN _ _ _|rfl,HS0.out⟩
     case round=>
      obtain⟨u0,u1,u2,v0,v1,v2,a1,a2,k,even,rfl,rfl,rfl,rfl,rfl,rfl,rfl,rfl,rfl,rfl,HI⟩:=hrel
      by_cases t1:v2<=a2
      . have i1:(v2:Int)<=a2:=by omega
        have hyx:=HI.out.sim.yx
        have hyxN:a2<=a1:=by omega
        have hvB:v1+v2<B64:=by have:=(HI.out.sim.bounds (by omega)).1;have:=HC.out.2.2.2;omega
        have E1:=Lz (u64_minus hyxN HI.out.a1B)
        have E2:=Lz (u64_plus hvB)
        obtain⟨da,hda⟩:∃ x,x=a1-a2:=⟨_,rfl⟩
        obtain⟨sv,hsv⟩:∃ x,x=v1+v2:=⟨_,rfl⟩
        rw[<-hda] at E1
        rw[<-hsv] at E2
        by_cases t2:sv<=da
        . have i2:(sv:Int)<=da:=by omega
          obtain⟨hN,hm,ha2,-,-,hpu,hpv⟩:=HI.out.next HC.out.1 HC.out.2.1 HC.out.2.2.1 HC.out.2.2.2 t1 (by omega)
          obtain⟨q,hq⟩:∃ q,q=a1/a2:=⟨_,rfl⟩
          obtain⟨r,hr⟩:∃ r,r=a1%a2:=⟨_,rfl⟩
          rw[<-hq,<-hr] at hN
          rw[<-hq] at hpu hpv
          rw[<-hr] at hm
          have Q1:=Lz (show(a1:Int)/(a2:Int)=(q:Int) by rw[hq];push_cast;rfl)
          have Q2:=Lz (show(a1:Int)%(a2:Int)=(r:Int) by rw[hr];rfl)
          have E3:=Lz (u64_mul hpu)
          have E4:=Lz (u64_mul hpv)
          have E5:=Lz (u64_plus hN.u2B)
          have E6:=Lz (u64_plus hN.v2B)
          obtain⟨pu,hpu'⟩:∃ x,x=q*u2:=⟨_,rfl⟩
          obtain⟨pv,hpv'⟩:∃ x,x=q*v2:=⟨_,rfl⟩
          rw[<-hpu'] at E3 E5 hN
          rw[<-hpv'] at E4 E6 hN
          obtain⟨nu,hnu⟩:∃ x,x=u1+pu:=⟨_,rfl⟩
          obtain⟨nv,hnv⟩:∃ x,x=v1+pv:=⟨_,rfl⟩
          rw[<-hnu] at E5 hN
          rw[<-hnv] at E6 hN
          have HN:=Lz (And.intro hN hm)
          have z1:((a2:Int)==0)=false:=by rw[beq_eq_false_iff_ne];omega
          have z2:¬(a2:Int)=0:=by omega
          have z3:(1:Int)<=a2:=by omega
          have qB:q<B64:=by rw[hq];exact Nat.lt_of_le_of_lt (Nat.div_le_self _ _) HI.out.a1B
          have E7:=Lz (wrap_small qB)
          have e1:=E1.out
          have e2:=E2.out
          have e3:=E3.out
          have e4:=E4.out
          have e5:=E5.out
          have e6:=E6.out
          have e7:=E7.out
          have q1:=Q1.out
          have q2:=Q2.out
          clear hN hm ha2 hpu hpv hq hr hpu' hpv' hnu hnv qB t1 t2 hyx hyxN hvB hda hsv
          go_wp2_with fail
          go_quiet (fail)
          go_wp2_with fail
          go_roundw
          case rel=>exact⟨u1,u2,nu,v1,v2,nv,a2,r,_,!even,by go_num,by go_num,by go_num,by go_num,by first|rfl|simp,by go_num,by go_num,by go_num,by go_num,by first|rfl|exact World.drewN_drewN _ _ _,HN.out.1⟩
          case measure=>have:=HN.out.2;have h2:=Q2.out;clear e1 e2 e3 e4 e5 e6 e7 q1 q2;simp only[intOf];rw[h2];omega
        . have i2:¬(sv:Int)<=da:=by omega
          have HF:=Lz (And.intro HI.out.u0B (And.intro HI.out.u1B (And.intro HI.out.v0B (And.intro HI.out.v1B HI.out.leh))))
          have e1:=E1.out
          have e2:=E2.out
          clear t1 t2 hyx hyxN hvB hda hsv HI
          go_wp2_with fail
          have HE:SimP A B w (.returned (.tuple #[wd u0,wd u1,wd v0,wd v1,.bool even])) (w.drewN k):=⟨u0,u1,v0,v1,even,rfl,⟨_,rfl⟩,HF.out⟩
          simp[bodyPost,results,Tryz.results192,go_sem]
          exact HE
      . have i1:¬(v2:Int)<=a2:=by omega
        have HF:=Lz (And.intro HI.out.u0B (And.intro HI.out.u1B (And.intro HI.out.v0B (And.intro HI.out.v1B HI.out.leh))))
        clear t1 HI
        go_wp2_with fail
        have HE:SimP A B w (.returned (.tuple #[wd u0,wd u1,wd v0,wd v1,.bool even])) (w.drewN k):=⟨u0,u1,v0,v1,even,rfl,⟨_,rfl⟩,HF.out⟩
        simp[bodyPost,results,Tryz.results192,go_sem]
        exact HE
end Go.Proofs.YtohhkjamddojmaaGreatDoor.Big
