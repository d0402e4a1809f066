/- The specification's point of a triple. The specification's multiples of a point: its triples are laid. The specification's multiples of a point. -/
import Derived.Test.YtohhkjamddojmaaGreatDoorCG
import Derived.Test.YtohhkjamddojmaaGreatDoorCH
import Derived.Test.YtohhkjamddojmaaGreatDoorTA
set_option maxRecDepth 100000
set_option maxHeartbeats 16000000
namespace Go.Proofs.YtohhkjamddojmaaGreatDoor.Bit
open Go.RowKit
open Big
def PtP (x y:Nat) (w:World) (e:Ending) (w':World):Prop:=∃ vx vy,e=.returned (.agg #[vx,vy,.bool false])/\Dg w' vx x/\Dg w' vy y/\w.grownBy w' .none
theorem pointS {w:World} {f va vb vx vy vz:Value} {P A B x y z:Nat} (hP:Fd P) (h9:8<P) (hf:Dg w f P) (dA:Dg w va A) (dB:Dg w vb B) (dx:Dg w vx x) (dy:Dg w vy y) (dz:Dg w vz z) (lA:A<P) (lB:B<P) (lx:x<P) (ly:y<P) (lz:z<P) (k1:z≠0) :
 Calls Tryz.prog 69 #[.agg #[f,va,vb],.agg #[vx,vy,vz]] w (PtP (fm P x (fm P (z^(P-2)%P) (z^(P-2)%P))) (fm P y (fm P (fm P (z^(P-2)%P) (z^(P-2)%P)) (z^(P-2)%P))) w):=by
 obtain⟨iw,hiw⟩:∃ n,n=z^(P-2)%P:=⟨_,rfl⟩
 obtain⟨ww,hww⟩:∃ n,n=fm P iw iw:=⟨_,rfl⟩
 obtain⟨ox,hox⟩:∃ n,n=fm P x ww:=⟨_,rfl⟩
 obtain⟨w3,hw3⟩:∃ n,n=fm P ww iw:=⟨_,rfl⟩
 obtain⟨oy,hoy⟩:∃ n,n=fm P y w3:=⟨_,rfl⟩
 have HN:=Lz (show iw=z^(P-2)%P/\ww=fm P iw iw/\ox=fm P x ww/\w3=fm P ww iw/\oy=fm P y w3 from⟨hiw,hww,hox,hw3,hoy⟩)
 have HL:=Lz (show A<P/\B<P/\x<P/\y<P/\z<P/\iw<P/\ww<P/\ox<P/\w3<P/\oy<P from⟨lA,lB,lx,ly,lz,by rw[hiw];exact Nat.mod_lt _ hP.pos,by rw[hww];exact fm_lt hP.pos,by rw[hox];exact fm_lt hP.pos,by rw[hw3];exact fm_lt hP.pos,by rw[hoy];exact fm_lt hP.pos⟩)
 have HT:=Lz (show fm P x (fm P (z^(P-2)%P) (z^(P-2)%P))=ox/\fm P y (fm P (fm P (z^(P-2)%P) (z^(P-2)%P)) (z^(P-2)%P))=oy from by
  subst hoy hw3 hox hww hiw
  exact⟨rfl,rfl⟩)
 rw[HT.out.1,HT.out.2]
 have iz:(((bd z).length:Int)==0)=false:=by rw[one_len];exact decide_eq_false k1
 have HP:=Lz hP
 have HP9:=Lz h9
 obtain⟨pf,cf,rfl,-⟩:=id hf
 obtain⟨pA,cA,rfl,-⟩:=id dA
 obtain⟨pB,cB,rfl,-⟩:=id dB
 obtain⟨px,cx,rfl,-⟩:=id dx
 obtain⟨py,cy,rfl,-⟩:=id dy
 obtain⟨pz,cz,rfl,-⟩:=id dz
 have s1:(w.alloc (.cells #[(.slice pf (bd P).length cf),(.slice pA (bd A).length cA),(.slice pB (bd B).length cB)] 47)).heap.size=w.heap.size+1:=Array.size_push _
 have s2:((w.alloc (.cells #[(.slice pf (bd P).length cf),(.slice pA (bd A).length cA),(.slice pB (bd B).length cB)] 47)).alloc (.cells #[(.slice px (bd x).length cx),(.slice py (bd y).length cy),(.slice pz (bd z).length cz)] 120)).heap.size=w.heap.size+1+1:=(Array.size_push _).trans (by rw[s1])
 have s3:(((w.alloc (.cells #[(.slice pf (bd P).length cf),(.slice pA (bd A).length cA),(.slice pB (bd B).length cB)] 47)).alloc (.cells #[(.slice px (bd x).length cx),(.slice py (bd y).length cy),(.slice pz (bd z).length cz)] 120)).alloc (.cells #[.slice .none 0 0,.slice .none 0 0,.bool false] 45)).heap.size=w.heap.size+1+1+1:=(Array.size_push _).trans (by rw[s2])
 have n1:=heap_alloc_new w (.cells #[(.slice pf (bd P).length cf),(.slice pA (bd A).length cA),(.slice pB (bd B).length cB)] 47)
 have n2:=heap_alloc_new (w.alloc (.cells #[(.slice pf (bd P).length cf),(.slice pA (bd A).length cA),(.slice pB (bd B).length cB)] 47)) (.cells #[(.slice px (bd x).length cx),(.slice py (bd y).length cy),(.slice pz (bd z).length cz)] 120)
 rw[s1] at n2
 have n3:=heap_alloc_new ((w.alloc (.cells #[(.slice pf (bd P).length cf),(.slice pA (bd A).length cA),(.slice pB (bd B).length cB)] 47)).alloc (.cells #[(.slice px (bd x).length cx),(.slice py (bd y).length cy),(.slice pz (bd z).length cz)] 120)) (.cells #[.slice .none 0 0,.slice .none 0 0,.bool false] 45)
 rw[s2] at n3
 have n4:=heap_alloc_new (((w.alloc (.cells #[(.slice pf (bd P).length cf),(.slice pA (bd A).length cA),(.slice pB (bd B).length cB)] 47)).alloc (.cells #[(.slice px (bd x).length cx),(.slice py (bd y).length cy),(.slice pz (bd z).length cz)] 120)).alloc (.cells #[.slice .none 0 0,.slice .none 0 0,.bool false] 45)) (.cells #[(.slice pf (bd P).length cf)] 39)
 rw[s3] at n4
 have g4:(((w.alloc (.cells #[(.slice pf (bd P).length cf),(.slice pA (bd A).length cA),(.slice pB (bd B).length cB)] 47)).alloc (.cells #[(.slice px (bd x).length cx),(.slice py (bd y).length cy),(.slice pz (bd z).length cz)] 120)).alloc (.cells #[.slice .none 0 0,.slice .none 0 0,.bool false] 45)).grownBy ((((w.alloc (.cells #[(.slice pf (bd P).length cf),(.slice pA (bd A).length cA),(.slice pB (bd B).length cB)] 47)).alloc (.cells #[(.slice px (bd x).length cx),(.slice py (bd y).length cy),(.slice pz (bd z).length cz)] 120)).alloc (.cells #[.slice .none 0 0,.slice .none 0 0,.bool false] 45)).alloc (.cells #[(.slice pf (bd P).length cf)] 39)) .none:=zzy _ _ _
 have g3:((w.alloc (.cells #[(.slice pf (bd P).length cf),(.slice pA (bd A).length cA),(.slice pB (bd B).length cB)] 47)).alloc (.cells #[(.slice px (bd x).length cx),(.slice py (bd y).length cy),(.slice pz (bd z).length cz)] 120)).grownBy ((((w.alloc (.cells #[(.slice pf (bd P).length cf),(.slice pA (bd A).length cA),(.slice pB (bd B).length cB)] 47)).alloc (.cells #[(.slice px (bd x).length cx),(.slice py (bd y).length cy),(.slice pz (bd z).length cz)] 120)).alloc (.cells #[.slice .none 0 0,.slice .none 0 0,.bool false] 45)).alloc (.cells #[(.slice pf (bd P).length cf)] 39)) .none:=(zzy _ _ _).trans g4
 have g2:(w.alloc (.cells #[(.slice pf (bd P).length cf),(.slice pA (bd A).length cA),(.slice pB (bd B).length cB)] 47)).grownBy ((((w.alloc (.cells #[(.slice pf (bd P).length cf),(.slice pA (bd A).length cA),(.slice pB (bd B).length cB)] 47)).alloc (.cells #[(.slice px (bd x).length cx),(.slice py (bd y).length cy),(.slice pz (bd z).length cz)] 120)).alloc (.cells #[.slice .none 0 0,.slice .none 0 0,.bool false] 45)).alloc (.cells #[(.slice pf (bd P).length cf)] 39)) .none:=(zzy _ _ _).trans g3
 have G0:=Lz (show w.grownBy ((((w.alloc (.cells #[(.slice pf (bd P).length cf),(.slice pA (bd A).length cA),(.slice pB (bd B).length cB)] 47)).alloc (.cells #[(.slice px (bd x).length cx),(.slice py (bd y).length cy),(.slice pz (bd z).length cz)] 120)).alloc (.cells #[.slice .none 0 0,.slice .none 0 0,.bool false] 45)).alloc (.cells #[(.slice pf (bd P).length cf)] 39)) .none from(zzy _ _ _).trans g2)
 have CC:=Lz (λ(w':World) (k:World.grownBy ((((w.alloc (.cells #[(.slice pf (bd P).length cf),(.slice pA (bd A).length cA),(.slice pB (bd B).length cB)] 47)).alloc (.cells #[(.slice px (bd x).length cx),(.slice py (bd y).length cy),(.slice pz (bd z).length cz)] 120)).alloc (.cells #[.slice .none 0 0,.slice .none 0 0,.bool false] 45)).alloc (.cells #[(.slice pf (bd P).length cf)] 39)) w' .none)=>(⟨k.cell (zzv (k:=0) n4 rfl) (by simp),(three n2 (g3.trans k)).1,(three n2 (g3.trans k)).2.1,(three n2 (g3.trans k)).2.2⟩:w'.cell? ⟨w.heap.size+1+1+1,0,.none⟩=some (.slice pf (bd P).length cf)/\w'.cell? ⟨w.heap.size+1,0,.none⟩=some (.slice px (bd x).length cx)/\w'.cell? ⟨w.heap.size+1,1,.none⟩=some (.slice py (bd y).length cy)/\w'.cell? ⟨w.heap.size+1,2,.none⟩=some (.slice pz (bd z).length cz)))
 have BL:=Lz (λ(w':World) (k:World.grownBy ((((w.alloc (.cells #[(.slice pf (bd P).length cf),(.slice pA (bd A).length cA),(.slice pB (bd B).length cB)] 47)).alloc (.cells #[(.slice px (bd x).length cx),(.slice py (bd y).length cy),(.slice pz (bd z).length cz)] 120)).alloc (.cells #[.slice .none 0 0,.slice .none 0 0,.bool false] 45)).alloc (.cells #[(.slice pf (bd P).length cf)] 39)) w' .none)=>(((g4.trans k).block _ (Array.getElem?_eq_some_iff.1 n3).1 (by simp)).trans n3:w'.heap[w.heap.size+1+1]? = some (.cells #[.slice .none 0 0,.slice .none 0 0,.bool false] 45 (0,0))))
 have DD:=Lz (λ(w':World) (k:World.grownBy ((((w.alloc (.cells #[(.slice pf (bd P).length cf),(.slice pA (bd A).length cA),(.slice pB (bd B).length cB)] 47)).alloc (.cells #[(.slice px (bd x).length cx),(.slice py (bd y).length cy),(.slice pz (bd z).length cz)] 120)).alloc (.cells #[.slice .none 0 0,.slice .none 0 0,.bool false] 45)).alloc (.cells #[(.slice pf (bd P).length cf)] 39)) w' .none)=>(⟨hf.kept (G0.out.trans k),dA.kept (G0.out.trans k),dB.kept (G0.out.trans k),dx.kept (G0.out.trans k),dy.kept (G0.out.trans k),dz.kept (G0.out.trans k)⟩:Dg w' (.slice pf (bd P).length cf) P/\Dg w' (.slice pA (bd A).length cA) A/\Dg w' (.slice pB (bd B).length cB) B/\Dg w' (.slice px (bd x).length cx) x/\Dg w' (.slice py (bd y).length cy) y/\Dg w' (.slice pz (bd z).length cz) z))
 clear hP h9 hf dA dB dx dy dz lA lB lx ly lz hiw hww hox hw3 hoy k1 s1 s2 s3 n1 n2 n3 n4 g2 g3 g4
 go_enter Tryz.func69,Tryz.ntmps69
 go_upto_region 4 with fail
 generalize hw1:((((w.alloc (.cells #[(.slice pf (bd P).length cf),(.slice pA (bd A).length cA),(.slice pB (bd B).length cB)] 47)).alloc (.cells #[(.slice px (bd x).length cx),(.slice py (bd y).length cy),(.slice pz (bd z).length cz)] 120)).alloc (.cells #[.slice .none 0 0,.slice .none 0 0,.bool false] 45)).alloc (.cells #[(.slice pf (bd P).length cf)] 39))=w1 at *
 obtain⟨q0,q1,q2,q3⟩:=CC.out _ (zyz w1 _)
 go_wp2_with fail
 refine(invE HN.out.1 HP.out (by have:=HP9.out;omega) (DD.out _ (zyz _ _)).1 (DD.out _ (zyz _ _)).2.2.2.2.2 HL.out.2.2.2.2.1).mono ?_
 rintro en u1 ⟨viw,rfl,eiw,gr1⟩
 obtain⟨q0,q1,q2,q3⟩:=CC.out _ (((zyz _ _)).trans gr1)
 have A1:=Lz (And.intro (((zyz _ _)).trans gr1) ((eiw)))
 obtain⟨piw,ciw,rfl,-⟩:=eiw
 clear gr1
 go_wp2_with fail
 refine(mulE HN.out.2.1 HP.out (DD.out _ A1.out.1).1 A1.out.2 A1.out.2 HL.out.2.2.2.2.2.1 HL.out.2.2.2.2.2.1).mono ?_
 rintro en u2 ⟨vww,rfl,eww,gr2⟩
 obtain⟨q0,q1,q2,q3⟩:=CC.out _ ((A1.out.1).trans gr2)
 have A2:=Lz (And.intro ((A1.out.1).trans gr2) (And.intro (A1.out.2.kept gr2) ((eww))))
 obtain⟨pww,cww,rfl,-⟩:=eww
 clear gr2
 go_upto_region 6 with fail
 go_region_held3 (λw'=>w'.cell? ⟨w.heap.size+1+1+1,0,.none⟩=some (.slice pf (bd P).length cf)/\w'.cell? ⟨w.heap.size+1,0,.none⟩=some (.slice px (bd x).length cx)/\w'.cell? ⟨w.heap.size+1,1,.none⟩=some (.slice py (bd y).length cy)/\w'.cell? ⟨w.heap.size+1,2,.none⟩=some (.slice pz (bd z).length cz)) (go_keep) (first|(go_at_call 64;refine(mulE HN.out.2.2.2.2 HP.out (DD.out _ A4.out.1).1 (DD.out _ A4.out.1).2.2.2.2.1 A4.out.2.2.2.2 HL.out.2.2.2.1 HL.out.2.2.2.2.2.2.2.2.1).mono ?_;rintro en u5 ⟨voy,rfl,eoy,gr5⟩;obtain⟨q0,q1,q2,q3⟩:=CC.out _ ((A4.out.1).trans gr5);have hb:=BL.out _ ((A4.out.1).trans gr5);have r0:=zzv (k:=0) hb rfl;have r1':=zzv (k:=1) hb rfl;have r2:=zzv (k:=2) hb rfl;have z0':=zxq hb 0;have z1':=zxq hb 1;have z2':=zxq hb 2;have HB:=Lz hb;clear hb;have A5:=Lz (And.intro ((A4.out.1).trans gr5) (And.intro (A4.out.2.1.kept gr5) (And.intro (A4.out.2.2.1.kept gr5) (And.intro (A4.out.2.2.2.1.kept gr5) (And.intro (A4.out.2.2.2.2.kept gr5) ((eoy)))))));obtain⟨poy,coy,rfl,-⟩:=eoy;clear gr5)|(go_at_call 64;refine(mulE HN.out.2.2.2.1 HP.out (DD.out _ A3.out.1).1 A3.out.2.2.1 A3.out.2.1 HL.out.2.2.2.2.2.2.1 HL.out.2.2.2.2.2.1).mono ?_;rintro en u4 ⟨vw3,rfl,ew3,gr4⟩;obtain⟨q0,q1,q2,q3⟩:=CC.out _ ((A3.out.1).trans gr4);have A4:=Lz (And.intro ((A3.out.1).trans gr4) (And.intro (A3.out.2.1.kept gr4) (And.intro (A3.out.2.2.1.kept gr4) (And.intro (A3.out.2.2.2.kept gr4) ((ew3))))));obtain⟨pw3,cw3,rfl,-⟩:=ew3;clear gr4)|(go_at_call 64;refine(mulE HN.out.2.2.1 HP.out (DD.out _ (A2.out.1.trans (zzz u2 _ .none))).1 (DD.out _ (A2.out.1.trans (zzz u2 _ .none))).2.2.2.1 (A2.out.2.2.kept (zzz u2 _ .none)) HL.out.2.2.1 HL.out.2.2.2.2.2.2.1).mono ?_;rintro en u3 ⟨vox,rfl,eox,gr3⟩;obtain⟨q0,q1,q2,q3⟩:=CC.out _ (((A2.out.1.trans (zzz u2 _ .none))).trans gr3);have A3:=Lz (And.intro (((A2.out.1.trans (zzz u2 _ .none))).trans gr3) (And.intro (A2.out.2.1.kept ((zzz u2 _ .none).trans gr3)) (And.intro (A2.out.2.2.kept ((zzz u2 _ .none).trans gr3)) ((eox)))));obtain⟨pox,cox,rfl,-⟩:=eox;clear gr3))
 have ST:=Lz (store3 (vx:=.slice pox (bd ox).length cox) (vy:=.slice poy (bd oy).length coy) (vz:=.bool false) (G0.out.trans A5.out.1) HB.out (λk=>⟨by simp,by simp,by simp⟩) (by omega))
 have HF:=Lz (show PtP ox oy w (.returned (.agg #[.slice pox (bd ox).length cox,.slice poy (bd oy).length coy,.bool false])) _ from⟨_,_,rfl,ST.out.2.2 _ _ A5.out.2.2.2.1,ST.out.2.2 _ _ A5.out.2.2.2.2.2,ST.out.2.1⟩)
 have HC:=Lz (three ST.out.1 (zyz _ _))
 go_wp2_with fail
 obtain⟨c0,c1,c2⟩:=HC.out
 simp[bodyPost,results,Tryz.results69,go_sem,c0,c1,c2]
 exact HF.out
end Go.Proofs.YtohhkjamddojmaaGreatDoor.Bit

namespace Go.Proofs.YtohhkjamddojmaaGreatDoor.Bit
open Go.RowKit
open Big EcLaw
abbrev nil3:Array Value:=#[.slice .none 0 0,.slice .none 0 0,.slice .none 0 0]
structure TIv (w1 w:World) (X Y:Nat) (b1 b3 b4 b5 b6 b7:Bool) (u12 u14 u7 u8:Value) (p7 p8:Nat):Prop where
 g:w1.grownBy w .none
 v1:b1=true->∃ a b c,u12=.agg #[a,b,c]/\Dg w a 1/\Dg w b 1/\Dg w c 0
 v3:b3=true->∃ a b c,u14=.agg #[a,b,c]/\Dg w a X/\Dg w b Y/\Dg w c 1
 v4:b4=true->u7=.pointer (some ⟨p7,0,.none⟩)/\w1.heap.size<=p7/\p7<w.heap.size
 v5:b5=true->u8=.pointer (some ⟨p8,0,.none⟩)/\w1.heap.size<=p8/\p8<w.heap.size
 h4:b4=true->b6=false->w.heap[p7]? = some (.cells nil3 120 (0,0))
 h5:b5=true->b7=false->w.heap[p8]? = some (.cells nil3 120 (0,0))
 ne:b4=true->b5=true->p7≠p8
 i6:b6=true->b1=true/\b3=true/\b4=true/\b5=true
 i7:b7=true->b6=true
 f6:b6=true->∃ a b c,u12=.agg #[a,b,c]/\w.heap[p7]? = some (.cells #[a,b,c] 120 (0,0))
 f7:b7=true->∃ a b c,u14=.agg #[a,b,c]/\w.heap[p8]? = some (.cells #[a,b,c] 120 (0,0))
theorem blk_keep {w u:World} {b:Nat} {o:Obj} (h:w.heap[b]? = some o) (k:w.grownBy u .none):u.heap[b]? = some o:=(k.block b (Array.getElem?_eq_some_iff.1 h).1 (by simp)).trans h
theorem TIv.grow {w1 w u:World} {X Y:Nat} {b1 b3 b4 b5 b6 b7:Bool} {u12 u14 u7 u8:Value} {p7 p8:Nat} (h:TIv w1 w X Y b1 b3 b4 b5 b6 b7 u12 u14 u7 u8 p7 p8) (k:w.grownBy u .none):TIv w1 u X Y b1 b3 b4 b5 b6 b7 u12 u14 u7 u8 p7 p8:=
 ⟨h.g.trans k,λe=>by obtain⟨a,b,c,e1,d1,d2,d3⟩:=h.v1 e;exact⟨a,b,c,e1,d1.kept k,d2.kept k,d3.kept k⟩,
  λe=>by obtain⟨a,b,c,e1,d1,d2,d3⟩:=h.v3 e;exact⟨a,b,c,e1,d1.kept k,d2.kept k,d3.kept k⟩,
  λe=>⟨(h.v4 e).1,(h.v4 e).2.1,Nat.lt_of_lt_of_le (h.v4 e).2.2 k.size⟩,λe=>⟨(h.v5 e).1,(h.v5 e).2.1,Nat.lt_of_lt_of_le (h.v5 e).2.2 k.size⟩,
  λe e6=>blk_keep (h.h4 e e6) k,λe e6=>blk_keep (h.h5 e e6) k,h.ne,h.i6,h.i7,
  λe=>by obtain⟨a,b,c,e1,d⟩:=h.f6 e;exact⟨a,b,c,e1,blk_keep d k⟩,λe=>by obtain⟨a,b,c,e1,d⟩:=h.f7 e;exact⟨a,b,c,e1,blk_keep d k⟩⟩
def TIn (w1:World) (X Y:Nat) (a0 a1 a2 a3 a4 a6 a13:Value) (listed:Array Bool) (a:Act) (w:World):Prop:=
 ∃ (b1 b3 b4 b5 b6 b7:Bool) (u12 u14 u7 u8:Value) (p7 p8:Nat),(listed.getD 1 false=b1/\listed.getD 3 false=b3/\listed.getD 4 false=b4/\listed.getD 5 false=b5/\listed.getD 6 false=b6/\listed.getD 7 false=b7)/\(∀ k∈([0,2]:List Nat),listed.getD k false=true) ∧
  a=⟨#[a0,a1,a2,a3,a4,undef,a6,u7,u8,undef,undef,.agg #[.slice .none 0 0,.slice .none 0 0,.bool true],u12,a13,u14,undef,undef,undef,undef,undef,undef,undef,undef,undef,undef,undef,undef,undef,undef,undef,undef,undef,undef,undef,undef,undef,undef,undef,undef,undef,undef,undef,undef,undef],[]⟩/\TIv w1 w X Y b1 b3 b4 b5 b6 b7 u12 u14 u7 u8 p7 p8
def Laid2 (w1 wx:World) (X Y p7 p8:Nat):Prop:=
 w1.grownBy wx .none/\p7≠p8/\w1.heap.size<=p7/\w1.heap.size<=p8/\(∃ a b c,wx.heap[p7]? = some (.cells #[a,b,c] 120 (0,0))/\Dg wx a 1/\Dg wx b 1/\Dg wx c 0)/\∃ a b c,wx.heap[p8]? = some (.cells #[a,b,c] 120 (0,0))/\Dg wx a X/\Dg wx b Y/\Dg wx c 1
theorem TIv.done {w1 w:World} {X Y:Nat} {u12 u14 u7 u8:Value} {p7 p8:Nat} (h:TIv w1 w X Y true true true true true true u12 u14 u7 u8 p7 p8):u7=.pointer (some ⟨p7,0,.none⟩)/\u8=.pointer (some ⟨p8,0,.none⟩)/\Laid2 w1 w X Y p7 p8:=by
 refine⟨(h.v4 rfl).1,(h.v5 rfl).1,h.g,h.ne rfl rfl,(h.v4 rfl).2.1,(h.v5 rfl).2.1,?_,?_⟩
 . obtain⟨a,b,c,e,d1,d2,d3⟩:=h.v1 rfl
   obtain⟨a',b',c',e',hb⟩:=h.f6 rfl
   rw[e] at e'
   injection e' with e'
   have e2:=congrArg Array.toList e'
   simp at e2
   obtain⟨rfl,rfl,rfl⟩:=e2
   exact⟨a,b,c,hb,d1,d2,d3⟩
 . obtain⟨a,b,c,e,d1,d2,d3⟩:=h.v3 rfl
   obtain⟨a',b',c',e',hb⟩:=h.f7 rfl
   rw[e] at e'
   injection e' with e'
   have e2:=congrArg Array.toList e'
   simp at e2
   obtain⟨rfl,rfl,rfl⟩:=e2
   exact⟨a,b,c,hb,d1,d2,d3⟩
theorem store3_far {u:World} {b b':Nat} {o:Obj} {vx vy vz:Value} (h:u.heap[b']? = some o) (hne:b'≠b):(((u.setCell ⟨b,0,.none⟩ vx).setCell ⟨b,1,.none⟩ vy).setCell ⟨b,2,.none⟩ vz).heap[b']? = some o:=by
 have g:u.grownBy (((u.setCell ⟨b,0,.none⟩ vx).setCell ⟨b,1,.none⟩ vy).setCell ⟨b,2,.none⟩ vz) (some b):=((zzw u b 0 vx).trans (zzw _ b 1 vy)).trans (zzw _ b 2 vz)
 rw[g.block b' (Array.getElem?_eq_some_iff.1 h).1 (by simpa using hne)]
 exact h
theorem nil3_no (k:Int):(Value.slice .none 0 0)≠.int .i64 k/\(Value.slice .none 0 0)≠.int .i64 k/\(Value.slice .none 0 0)≠.int .i64 k:=⟨by simp,by simp,by simp⟩
theorem TIv.st6 {w1 w:World} {X Y:Nat} {u14 u7 u8 a b c:Value} {p7 p8:Nat} (h:TIv w1 w X Y true true true true false false (.agg #[a,b,c]) u14 u7 u8 p7 p8) :
 TIv w1 (((w.setCell ⟨p7,0,.none⟩ a).setCell ⟨p7,1,.none⟩ b).setCell ⟨p7,2,.none⟩ c) X Y true true true true true false (.agg #[a,b,c]) u14 u7 u8 p7 p8:=by
 obtain⟨s1,s2,s3⟩:=store3 (vx:=a) (vy:=b) (vz:=c) h.g (h.h4 rfl rfl) nil3_no (h.v4 rfl).2.1
 have sz:w.heap.size<=(((w.setCell ⟨p7,0,.none⟩ a).setCell ⟨p7,1,.none⟩ b).setCell ⟨p7,2,.none⟩ c).heap.size:=(((zzw w p7 0 a).trans (zzw _ p7 1 b)).trans (zzw _ p7 2 c)).size
 refine⟨s2,λ_=>?_,λ_=>?_,λ_=>⟨(h.v4 rfl).1,(h.v4 rfl).2.1,Nat.lt_of_lt_of_le (h.v4 rfl).2.2 sz⟩,λ_=>⟨(h.v5 rfl).1,(h.v5 rfl).2.1,Nat.lt_of_lt_of_le (h.v5 rfl).2.2 sz⟩,λ_ e=>(by cases e),λ_ _=>store3_far (h.h5 rfl rfl) (λe=>h.ne rfl rfl e.symm),h.ne,λ_=>⟨rfl,rfl,rfl,rfl⟩,λe=>(by cases e),λ_=>⟨a,b,c,rfl,s1⟩,λe=>(by cases e)⟩
 . obtain⟨x,y,z,e,d1,d2,d3⟩:=h.v1 rfl
   exact⟨x,y,z,e,s3 _ _ d1,s3 _ _ d2,s3 _ _ d3⟩
 . obtain⟨x,y,z,e,d1,d2,d3⟩:=h.v3 rfl
   exact⟨x,y,z,e,s3 _ _ d1,s3 _ _ d2,s3 _ _ d3⟩
theorem TIv.st7 {w1 w:World} {X Y:Nat} {u12 u7 u8 a b c:Value} {p7 p8:Nat} (h:TIv w1 w X Y true true true true true false u12 (.agg #[a,b,c]) u7 u8 p7 p8) :
 TIv w1 (((w.setCell ⟨p8,0,.none⟩ a).setCell ⟨p8,1,.none⟩ b).setCell ⟨p8,2,.none⟩ c) X Y true true true true true true u12 (.agg #[a,b,c]) u7 u8 p7 p8:=by
 obtain⟨s1,s2,s3⟩:=store3 (vx:=a) (vy:=b) (vz:=c) h.g (h.h5 rfl rfl) nil3_no (h.v5 rfl).2.1
 have sz:w.heap.size<=(((w.setCell ⟨p8,0,.none⟩ a).setCell ⟨p8,1,.none⟩ b).setCell ⟨p8,2,.none⟩ c).heap.size:=(((zzw w p8 0 a).trans (zzw _ p8 1 b)).trans (zzw _ p8 2 c)).size
 refine⟨s2,λ_=>?_,λ_=>?_,λ_=>⟨(h.v4 rfl).1,(h.v4 rfl).2.1,Nat.lt_of_lt_of_le (h.v4 rfl).2.2 sz⟩,λ_=>⟨(h.v5 rfl).1,(h.v5 rfl).2.1,Nat.lt_of_lt_of_le (h.v5 rfl).2.2 sz⟩,λ_ e=>(by cases e),λ_ e=>(by cases e),h.ne,λ_=>⟨rfl,rfl,rfl,rfl⟩,λ_=>rfl,λ_=>?_,λ_=>⟨a,b,c,rfl,s1⟩⟩
 . obtain⟨x,y,z,e,d1,d2,d3⟩:=h.v1 rfl
   exact⟨x,y,z,e,s3 _ _ d1,s3 _ _ d2,s3 _ _ d3⟩
 . obtain⟨x,y,z,e,d1,d2,d3⟩:=h.v3 rfl
   exact⟨x,y,z,e,s3 _ _ d1,s3 _ _ d2,s3 _ _ d3⟩
 . obtain⟨x,y,z,e,d⟩:=h.f6 rfl
   exact⟨x,y,z,e,store3_far d (h.ne rfl rfl)⟩
end Go.Proofs.YtohhkjamddojmaaGreatDoor.Bit

set_option maxRecDepth 100000
set_option maxHeartbeats 16000000
namespace Go.Proofs.YtohhkjamddojmaaGreatDoor.Bit
open Go.RowKit
open Big EcLaw
structure TL (w1 wr:World) (X Y p7 p8:Nat) (T:Nat×Nat×Nat):Prop where
 g:w1.grownBy wr .none
 ne:p7≠p8
 s7:w1.heap.size<=p7
 cur:∃ a b c,wr.heap[p7]? = some (.cells #[a,b,c] 120 (0,0))/\Dg wr a T.1/\Dg wr b T.2.1/\Dg wr c T.2.2
 one:∃ a b c,wr.heap[p8]? = some (.cells #[a,b,c] 120 (0,0))/\Dg wr a X/\Dg wr b Y/\Dg wr c 1
theorem TL.call {w1 wr u:World} {X Y p7 p8:Nat} {T:Nat×Nat×Nat} (h:TL w1 wr X Y p7 p8 T) (k:wr.grownBy u .none):TL w1 u X Y p7 p8 T:=by
 obtain⟨a,b,c,h1,d1,d2,d3⟩:=h.cur
 obtain⟨a',b',c',h2,e1,e2,e3⟩:=h.one
 exact⟨h.g.trans k,h.ne,h.s7,⟨a,b,c,blk_keep h1 k,d1.kept k,d2.kept k,d3.kept k⟩,⟨a',b',c',blk_keep h2 k,e1.kept k,e2.kept k,e3.kept k⟩⟩
theorem TL.store {w1 u:World} {X Y p7 p8:Nat} {T:Nat×Nat×Nat} (h:TL w1 u X Y p7 p8 T) {a b c:Value} {x y z:Nat} (d1:Dg u a x) (d2:Dg u b y) (d3:Dg u c z):TL w1 (((u.setCell ⟨p7,0,.none⟩ a).setCell ⟨p7,1,.none⟩ b).setCell ⟨p7,2,.none⟩ c) X Y p7 p8 (x,y,z):=by
 obtain⟨a0,b0,c0,h1,⟨_,_,rfl,-⟩,⟨_,_,rfl,-⟩,⟨_,_,rfl,-⟩⟩:=h.cur
 obtain⟨s1,s2,s3⟩:=store3 (vx:=a) (vy:=b) (vz:=c) h.g h1 (λk=>⟨by simp,by simp,by simp⟩) h.s7
 obtain⟨a',b',c',h2,e1,e2,e3⟩:=h.one
 exact⟨s2,h.ne,h.s7,⟨a,b,c,s1,s3 _ _ d1,s3 _ _ d2,s3 _ _ d3⟩,⟨a',b',c',store3_far h2 (λe=>h.ne e.symm),s3 _ _ e1,s3 _ _ e2,s3 _ _ e3⟩⟩
theorem inv_dvd {p z:Nat} (h:NumLaw.IsP p) (h2:2<p) (h0:z≠0) (hz:z<p):(p:Int)∣((z^(p-2)%p:Nat):Int)*z-1:=by
 have hn:¬p∣z:=λhd=>by have:=Nat.le_of_dvd (by omega) hd;omega
 have f:=h.fermat1 hn
 have e:z^(p-1)=z^(p-2)*z:=by rw[<-Nat.pow_succ];congr 1;omega
 have e2:(z^(p-2)%p*z)%p=1:=by rw[Nat.mod_mul_mod,<-e];exact f
 have e3:=zyq (p:Int) ((z^(p-2)%p*z:Nat):Int)
 rw[<-Int.natCast_emod,e2,Int.natCast_mul] at e3
 exact zzq (-1) e3 (by push_cast;grind)
theorem timesS {w:World} {f va vb ux uy u:Value} {P A B X Y K X' Y':Nat} {c:Nums} (hc:Grp c) (hP:Fd P) (h9:8<P) (eP:P=c.p) (eA:A=0) (eX:X=c.x) (eY:Y=c.y) (hK:EcLaw.mul c.p 0 K c.G=.aff X' Y') (lB0:B<P) (lKK:(bd K).length<=100000) (hf:Dg w f P) (dA:Dg w va A) (dB:Dg w vb B) (dX:Dg w ux X) (dY:Dg w uy Y) (dK:Dg w u K):Calls Tryz.prog 25 #[.agg #[f,va,vb],.agg #[ux,uy,.bool false],u] w (PtP X' Y' w):=by
 obtain⟨pf,cf,rfl,-⟩:=id hf
 obtain⟨pA,cA,rfl,-⟩:=id dA
 obtain⟨pB,cB,rfl,-⟩:=id dB
 obtain⟨pX,cX,rfl,-⟩:=id dX
 obtain⟨pY,cY,rfl,-⟩:=id dY
 obtain⟨pK,cK,rfl,rK⟩:=id dK
 obtain⟨E,hE⟩:∃ E,E=bd K:=⟨_,rfl⟩
 have hwE:Wb E:=by rw[hE];exact bd_words K
 have vE:bval E=K:=by rw[hE];exact bval_bd K
 generalize (bd P).length=lf at *
 generalize (bd A).length=lA at *
 generalize (bd B).length=lB at *
 generalize (bd X).length=lX at *
 generalize (bd Y).length=lY at *
 rw[<-hE] at rK lKK dK ⊢
 obtain⟨lK,hlK⟩:∃ l,l=E.length:=⟨_,rfl⟩
 have HE:=Lz (show Wb E/\bval E=K/\lK=E.length/\lK<=100000 from⟨hwE,vE,hlK,by omega⟩)
 have RK:=Lz rK
 have NM:=Lz (show Grp c/\8<P/\P=c.p/\A=0/\X=c.x/\Y=c.y/\EcLaw.mul c.p 0 K c.G=.aff X' Y'/\B<P from⟨hc,h9,eP,eA,eX,eY,hK,lB0⟩)
 rw[<-hlK] at dK ⊢
 clear hE hwE vE hlK rK hc h9 eP eA eX eY hK lB0 lKK
 have s1:(w.alloc (.cells #[.slice pf lf cf,.slice pA lA cA,.slice pB lB cB] 47)).heap.size=w.heap.size+1:=Array.size_push _
 have s2:((w.alloc (.cells #[.slice pf lf cf,.slice pA lA cA,.slice pB lB cB] 47)).alloc (.cells #[.slice pX lX cX,.slice pY lY cY,.bool false] 45)).heap.size=w.heap.size+1+1:=(Array.size_push _).trans (by rw[s1])
 have s3:(((w.alloc (.cells #[.slice pf lf cf,.slice pA lA cA,.slice pB lB cB] 47)).alloc (.cells #[.slice pX lX cX,.slice pY lY cY,.bool false] 45)).alloc (.cells #[.slice .none 0 0,.slice .none 0 0,.bool false] 45)).heap.size=w.heap.size+1+1+1:=(Array.size_push _).trans (by rw[s2])
 have n1:=heap_alloc_new w (.cells #[.slice pf lf cf,.slice pA lA cA,.slice pB lB cB] 47)
 have n2:=heap_alloc_new (w.alloc (.cells #[.slice pf lf cf,.slice pA lA cA,.slice pB lB cB] 47)) (.cells #[.slice pX lX cX,.slice pY lY cY,.bool false] 45)
 have n3:=heap_alloc_new ((w.alloc (.cells #[.slice pf lf cf,.slice pA lA cA,.slice pB lB cB] 47)).alloc (.cells #[.slice pX lX cX,.slice pY lY cY,.bool false] 45)) (.cells #[.slice .none 0 0,.slice .none 0 0,.bool false] 45)
 rw[s1] at n2
 rw[s2] at n3
 have g3:((w.alloc (.cells #[.slice pf lf cf,.slice pA lA cA,.slice pB lB cB] 47)).alloc (.cells #[.slice pX lX cX,.slice pY lY cY,.bool false] 45)).grownBy (((w.alloc (.cells #[.slice pf lf cf,.slice pA lA cA,.slice pB lB cB] 47)).alloc (.cells #[.slice pX lX cX,.slice pY lY cY,.bool false] 45)).alloc (.cells #[.slice .none 0 0,.slice .none 0 0,.bool false] 45)) .none:=zzy _ _ _
 have g2:(w.alloc (.cells #[.slice pf lf cf,.slice pA lA cA,.slice pB lB cB] 47)).grownBy (((w.alloc (.cells #[.slice pf lf cf,.slice pA lA cA,.slice pB lB cB] 47)).alloc (.cells #[.slice pX lX cX,.slice pY lY cY,.bool false] 45)).alloc (.cells #[.slice .none 0 0,.slice .none 0 0,.bool false] 45)) .none:=(zzy _ _ _).trans g3
 have G0:=Lz (show w.grownBy (((w.alloc (.cells #[.slice pf lf cf,.slice pA lA cA,.slice pB lB cB] 47)).alloc (.cells #[.slice pX lX cX,.slice pY lY cY,.bool false] 45)).alloc (.cells #[.slice .none 0 0,.slice .none 0 0,.bool false] 45)) .none from(zzy _ _ _).trans g2)
 have BK:=Lz (show(((w.alloc (.cells #[.slice pf lf cf,.slice pA lA cA,.slice pB lB cB] 47)).alloc (.cells #[.slice pX lX cX,.slice pY lY cY,.bool false] 45)).alloc (.cells #[.slice .none 0 0,.slice .none 0 0,.bool false] 45)).heap[w.heap.size]? = some (.cells #[.slice pf lf cf,.slice pA lA cA,.slice pB lB cB] 47 (0,0))/\(((w.alloc (.cells #[.slice pf lf cf,.slice pA lA cA,.slice pB lB cB] 47)).alloc (.cells #[.slice pX lX cX,.slice pY lY cY,.bool false] 45)).alloc (.cells #[.slice .none 0 0,.slice .none 0 0,.bool false] 45)).heap[w.heap.size+1]? = some (.cells #[.slice pX lX cX,.slice pY lY cY,.bool false] 45 (0,0))/\(((w.alloc (.cells #[.slice pf lf cf,.slice pA lA cA,.slice pB lB cB] 47)).alloc (.cells #[.slice pX lX cX,.slice pY lY cY,.bool false] 45)).alloc (.cells #[.slice .none 0 0,.slice .none 0 0,.bool false] 45)).heap[w.heap.size+1+1]? = some (.cells #[.slice .none 0 0,.slice .none 0 0,.bool false] 45 (0,0)) from⟨blk_keep n1 g2,blk_keep n2 g3,n3⟩)
 have SZ:=Lz s3
 have HD:=Lz (And.intro hf (And.intro dA (And.intro dB (And.intro dX (And.intro dY dK)))))
 have HP:=Lz hP
 clear s1 s2 s3 n1 n2 n3 g2 g3 hf dA dB dX dY dK hP
 go_enter Tryz.func25,Tryz.ntmps25
 go_upto_region 1 with fail
 generalize hw1:(((w.alloc (.cells #[.slice pf lf cf,.slice pA lA cA,.slice pB lB cB] 47)).alloc (.cells #[.slice pX lX cX,.slice pY lY cY,.bool false] 45)).alloc (.cells #[.slice .none 0 0,.slice .none 0 0,.bool false] 45))=w1 at *
 have KS:=Lz (λ(w':World) (k:w1.grownBy w' .none)=>(three (blk_keep BK.out.2.1 k) (zyz _ _):w'.cell? ⟨w.heap.size+1,0,.none⟩=some (.slice pX lX cX)/\w'.cell? ⟨w.heap.size+1,1,.none⟩=some (.slice pY lY cY)/\w'.cell? ⟨w.heap.size+1,2,.none⟩=some (.bool false)))
 have XY:=Lz (λ(w':World) (k:w1.grownBy w' .none)=>(⟨HD.out.2.2.2.1.kept (G0.out.trans k),HD.out.2.2.2.2.1.kept (G0.out.trans k)⟩:Dg w' (.slice pX lX cX) X/\Dg w' (.slice pY lY cY) Y))
 go_cut [7,8] from 7 to 14 (λv7 v8 wx=>∃ p7 p8:Nat,v7=.pointer (some ⟨p7,0,.none⟩)/\v8=.pointer (some ⟨p8,0,.none⟩)/\RowKit.Hid (Laid2 w1 wx X Y p7 p8))
 case first=>
  as_aux_lemma=>
   refine wp_region_held_drew (S:=λw'=>w'.cell? ⟨w.heap.size+1,0,.none⟩=some (.slice pX lX cX)/\w'.cell? ⟨w.heap.size+1,1,.none⟩=some (.slice pY lY cY)/\w'.cell? ⟨w.heap.size+1,2,.none⟩=some (.bool false)) (by kernel_rfl) ?_ (λhHeld=>?_)
   . exact KS.out _ (zxj w1 .none)
   refine wpAnyH_take (i:=0) (v:=?v0) rfl (by kernel_rfl) (by kernel_rfl) (by kernel_rfl) (λ_ _ _ h=>h) (Or.inl ⟨by rfl,?hy0⟩) (by assumption) ?r0
   case hy0=>(intro w hSw;(try dsimp only at hSw);go_simp;(try with_reducible rfl))
   simp only[Act.put]
   refine wpAnyH_take (i:=2) (v:=?v2) rfl (by kernel_rfl) (by kernel_rfl) (by kernel_rfl) (λ_ _ _ h=>h) (Or.inl ⟨by rfl,?hy2⟩) (by assumption) ?r2
   case hy2=>(intro w hSw;(try dsimp only at hSw);go_simp;(try with_reducible rfl))
   simp only[Act.put]
   refine wpAnyH_inv (TIn w1 X Y (.agg #[.slice pf lf cf,.slice pA lA cA,.slice pB lB cB]) (.agg #[.slice pX lX cX,.slice pY lY cY,.bool false]) (.slice pK lK cK) (.pointer (some ⟨w.heap.size,0,.none⟩)) (.pointer (some ⟨w.heap.size+1,0,.none⟩)) (.pointer (some ⟨w.heap.size+1+1,0,.none⟩)) (.agg #[.slice pX lX cX,.slice pY lY cY,.bool false])) (low_of (by kernel_rfl)) ?step ?fin _ _ _ _ (by rfl) (Nat.le_of_eq (by kernel_rfl)) ?init
   case init=>
    exact⟨false,false,false,false,false,false,undef,undef,undef,undef,0,0,⟨rfl,rfl,rfl,rfl,rfl,rfl⟩,statics_of (by rfl),rfl,⟨zxj w1 .none,(λh=>by cases h),(λh=>by cases h),(λh=>by cases h),(λh=>by cases h),(λh=>by cases h),(λh=>by cases h),(λh=>by cases h),(λh=>by cases h),(λh=>by cases h),(λh=>by cases h),(λh=>by cases h)⟩⟩
   case step=>
    intro listed a w' i hs hun hpre hI
    unfold TIn at hI
    obtain⟨b1,b3,b4,b5,b6,b7,u12,u14,u7,u8,p7,p8,⟨e1,e3,e4,e5,e6,e7⟩,hst,rfl,J⟩:=hI
    have hls:i<listed.size:=lt_of_unlisted hun
    have hlt:i<8:=by rw[hs] at hls;exact hls
    have hno:∀ k∈([0,2]:List Nat),i≠k:=λk hk e=>by have h1:=hst k hk;rw[<-e,getD_unl hun] at h1;cases h1
    have hi:i=1\/i=3\/i=4\/i=5\/i=6\/i=7:=by
     simp only[List.mem_cons,List.not_mem_nil,or_false,forall_eq_or_imp,forall_eq] at hno
     omega
    have hst2:∀ k∈([0,2]:List Nat),(listed.setIfInBounds i true).getD k false=true:=λk hk=>lset (hst k hk) (λe=>hno k hk e)
    clear hno hlt hs
    rcases hi with rfl|rfl|rfl|rfl|rfl|rfl
    . have hb:b1=false:=by rw[<-e1];exact getD_unl hun
      subst hb
      have f6:b6=false:=Bool.eq_false_iff.2 λh=>by have:=(J.i6 h).1;cases this
      subst f6
      have f7:b7=false:=Bool.eq_false_iff.2 λh=>by have:=J.i7 h;cases this
      subst f7
      have HJ:=Lz J
      clear J
      refine wpOp_step rfl (λK' hK=>?_)
      have HK:=Lz hK
      clear hK hun hpre
      go_wp2_with fail
      refine(coordsN .none .none 0 0 0 0 rfl rfl).mono ?_
      rintro en x ⟨a,b,c,rfl,d1,d2,d3,gr⟩
      have HV:=Lz (And.intro d1 (And.intro d2 (And.intro d3 gr)))
      clear d1 d2 d3 gr
      go_wp2_with fail
      have J:=HJ.out.grow HV.out.2.2.2
      exact HK.out _ _ ⟨KS.out _ J.g,true,b3,b4,b5,false,false,_,u14,u7,u8,p7,p8,⟨lself hls,lset e3 (by decide),lset e4 (by decide),lset e5 (by decide),lset e6 (by decide),lset e7 (by decide)⟩,hst2,rfl,⟨J.g,λ_=>⟨a,b,c,rfl,HV.out.1,HV.out.2.1,HV.out.2.2.1⟩,J.v3,J.v4,J.v5,J.h4,J.h5,J.ne,(λh=>by cases h),J.i7,(λh=>by cases h),(λh=>by cases h)⟩⟩
    . have hb:b3=false:=by rw[<-e3];exact getD_unl hun
      subst hb
      have f6:b6=false:=Bool.eq_false_iff.2 λh=>by have:=(J.i6 h).2.1;cases this
      subst f6
      have f7:b7=false:=Bool.eq_false_iff.2 λh=>by have:=J.i7 h;cases this
      subst f7
      have HJ:=Lz J
      clear J
      refine wpOp_step rfl (λK' hK=>?_)
      have HK:=Lz hK
      clear hK hun hpre
      go_wp2_with fail
      refine(coordsS (XY.out _ HJ.out.g).1 (XY.out _ HJ.out.g).2).mono ?_
      rintro en x ⟨a,b,c,rfl,d1,d2,d3,gr⟩
      have HV:=Lz (And.intro d1 (And.intro d2 (And.intro d3 gr)))
      clear d1 d2 d3 gr
      go_wp2_with fail
      have J:=HJ.out.grow HV.out.2.2.2
      exact HK.out _ _ ⟨KS.out _ J.g,b1,true,b4,b5,false,false,u12,_,u7,u8,p7,p8,⟨lset e1 (by decide),lself hls,lset e4 (by decide),lset e5 (by decide),lset e6 (by decide),lset e7 (by decide)⟩,hst2,rfl,⟨J.g,J.v1,λ_=>⟨a,b,c,rfl,HV.out.1,HV.out.2.1,HV.out.2.2.1⟩,J.v4,J.v5,J.h4,J.h5,J.ne,(λh=>by cases h),J.i7,(λh=>by cases h),(λh=>by cases h)⟩⟩
    . have hb:b4=false:=by rw[<-e4];exact getD_unl hun
      subst hb
      have f6:b6=false:=Bool.eq_false_iff.2 λh=>by have:=(J.i6 h).2.2.1;cases this
      subst f6
      have f7:b7=false:=Bool.eq_false_iff.2 λh=>by have:=J.i7 h;cases this
      subst f7
      have HJ:=Lz J
      clear J
      refine wpOp_step rfl (λK' hK=>?_)
      have HK:=Lz hK
      clear hK hun hpre
      go_wp2_with fail
      have J:=HJ.out.grow (zzy w' (.cells nil3 120) .none)
      have sz:(w'.alloc (.cells nil3 120)).heap.size=w'.heap.size+1:=Array.size_push _
      exact HK.out _ _ ⟨KS.out _ J.g,b1,b3,true,b5,false,false,u12,u14,_,u8,w'.heap.size,p8,⟨lset e1 (by decide),lset e3 (by decide),lself hls,lset e5 (by decide),lset e6 (by decide),lset e7 (by decide)⟩,hst2,rfl,⟨J.g,J.v1,J.v3,λ_=>⟨rfl,HJ.out.g.size,by rw[sz];omega⟩,J.v5,λ_ _=>heap_alloc_new w' (.cells nil3 120),J.h5,λ_ h=>by have:=(HJ.out.v5 h).2.2;omega,(λh=>by cases h),J.i7,(λh=>by cases h),(λh=>by cases h)⟩⟩
    . have hb:b5=false:=by rw[<-e5];exact getD_unl hun
      subst hb
      have f6:b6=false:=Bool.eq_false_iff.2 λh=>by have:=(J.i6 h).2.2.2;cases this
      subst f6
      have f7:b7=false:=Bool.eq_false_iff.2 λh=>by have:=J.i7 h;cases this
      subst f7
      have HJ:=Lz J
      clear J
      refine wpOp_step rfl (λK' hK=>?_)
      have HK:=Lz hK
      clear hK hun hpre
      go_wp2_with fail
      have J:=HJ.out.grow (zzy w' (.cells nil3 120) .none)
      have sz:(w'.alloc (.cells nil3 120)).heap.size=w'.heap.size+1:=Array.size_push _
      exact HK.out _ _ ⟨KS.out _ J.g,b1,b3,b4,true,false,false,u12,u14,u7,_,p7,w'.heap.size,⟨lset e1 (by decide),lset e3 (by decide),lset e4 (by decide),lself hls,lset e6 (by decide),lset e7 (by decide)⟩,hst2,rfl,⟨J.g,J.v1,J.v3,J.v4,λ_=>⟨rfl,HJ.out.g.size,by rw[sz];omega⟩,J.h4,λ_ _=>heap_alloc_new w' (.cells nil3 120),λh _=>by have:=(HJ.out.v4 h).2.2;omega,(λh=>by cases h),J.i7,(λh=>by cases h),(λh=>by cases h)⟩⟩
    . have hb:b6=false:=by rw[<-e6];exact getD_unl hun
      subst hb
      have f7:b7=false:=Bool.eq_false_iff.2 λh=>by have:=J.i7 h;cases this
      subst f7
      have t1:b1=true:=by rw[<-e1];exact hpre _ rfl ⟨1,.data⟩ (by simp) rfl
      subst t1
      have t3:b3=true:=by rw[<-e3];exact hpre _ rfl ⟨3,.chain⟩ (by simp) rfl
      subst t3
      have t4:b4=true:=by rw[<-e4];exact hpre _ rfl ⟨4,.data⟩ (by simp) rfl
      subst t4
      have t5:b5=true:=by rw[<-e5];exact hpre _ rfl ⟨5,.phase⟩ (by simp) rfl
      subst t5
      obtain⟨a,b,c,rfl,⟨pa,ca,rfl,-⟩,⟨pb,cb,rfl,-⟩,⟨pc,cc,rfl,-⟩⟩:=id (J.v1 rfl)
      obtain⟨rfl,-⟩:=J.v4 rfl
      have HJ:=Lz J
      have hb:=J.h4 rfl rfl
      have r0:=zzv (k:=0) hb rfl
      have r1:=zzv (k:=1) hb rfl
      have r2:=zzv (k:=2) hb rfl
      have x0:=zxq hb 0
      have x1:=zxq hb 1
      have x2:=zxq hb 2
      clear J hb
      refine wpOp_step rfl (λK' hK=>?_)
      have HK:=Lz hK
      clear hK hun hpre
      go_wp2_with fail
      have J:=HJ.out.st6
      exact HK.out _ _ ⟨KS.out _ J.g,true,true,true,true,true,false,_,u14,_,u8,p7,p8,⟨lset e1 (by decide),lset e3 (by decide),lset e4 (by decide),lset e5 (by decide),lself hls,lset e7 (by decide)⟩,hst2,rfl,J⟩
    . have hb:b7=false:=by rw[<-e7];exact getD_unl hun
      subst hb
      have t6:b6=true:=by rw[<-e6];exact hpre _ rfl ⟨6,.phase⟩ (by simp) rfl
      subst t6
      obtain⟨rfl,rfl,rfl,rfl⟩:=J.i6 rfl
      obtain⟨a,b,c,rfl,⟨pa,ca,rfl,-⟩,⟨pb,cb,rfl,-⟩,⟨pc,cc,rfl,-⟩⟩:=id (J.v3 rfl)
      obtain⟨rfl,-⟩:=J.v5 rfl
      have HJ:=Lz J
      have hb:=J.h5 rfl rfl
      have r0:=zzv (k:=0) hb rfl
      have r1:=zzv (k:=1) hb rfl
      have r2:=zzv (k:=2) hb rfl
      have x0:=zxq hb 0
      have x1:=zxq hb 1
      have x2:=zxq hb 2
      clear J hb
      refine wpOp_step rfl (λK' hK=>?_)
      have HK:=Lz hK
      clear hK hun hpre
      go_wp2_with fail
      have J:=HJ.out.st7
      exact HK.out _ _ ⟨KS.out _ J.g,true,true,true,true,true,true,u12,_,u7,_,p7,p8,⟨lset e1 (by decide),lset e3 (by decide),lset e4 (by decide),lset e5 (by decide),lset e6 (by decide),lself hls⟩,hst2,rfl,J⟩
   case fin=>
    intro listed a w' hs hall hI
    unfold TIn at hI
    obtain⟨b1,b3,b4,b5,b6,b7,u12,u14,u7,u8,p7,p8,⟨e1,e3,e4,e5,e6,e7⟩,hst,rfl,J⟩:=hI
    have hal:∀ k,k<8->listed.getD k false=true:=λk hk=>getD_all (hall k (by simpa using hk)) (by rw[hs];simpa using hk)
    obtain rfl:b1=true:=by rw[<-e1];exact hal 1 (by decide)
    obtain rfl:b3=true:=by rw[<-e3];exact hal 3 (by decide)
    obtain rfl:b4=true:=by rw[<-e4];exact hal 4 (by decide)
    obtain rfl:b5=true:=by rw[<-e5];exact hal 5 (by decide)
    obtain rfl:b6=true:=by rw[<-e6];exact hal 6 (by decide)
    obtain rfl:b7=true:=by rw[<-e7];exact hal 7 (by decide)
    obtain⟨rfl,rfl,hl⟩:=J.done
    have HL:=Lz hl
    clear J hl e1 e3 e4 e5 e6 e7 hst hall hal hs
    go_wp2_with fail
    go_meet
    exact⟨p7,p8,rfl,rfl,HL.out⟩
 case rest=>
  as_aux_lemma=>
   obtain⟨p7,p8,rfl,rfl,hl⟩:=hcut
   have TL0:=Lz (show TL w1 wc X Y p7 p8 (1,1,0) from⟨hl.out.1,hl.out.2.1,hl.out.2.2.1,hl.out.2.2.2.2.1,hl.out.2.2.2.2.2⟩)
   have BC:=Lz (λ(w':World) (k:w1.grownBy w' .none)=>(three (blk_keep BK.out.1 k) (zyz _ _):w'.cell? ⟨w.heap.size,0,.none⟩=some (.slice pf lf cf)/\w'.cell? ⟨w.heap.size,1,.none⟩=some (.slice pA lA cA)/\w'.cell? ⟨w.heap.size,2,.none⟩=some (.slice pB lB cB)))
   have DD:=Lz (λ(w':World) (k:w1.grownBy w' .none)=>(⟨HD.out.1.kept (G0.out.trans k),HD.out.2.1.kept (G0.out.trans k),HD.out.2.2.1.kept (G0.out.trans k),RK.out.kept (G0.out.trans k)⟩:Dg w' (.slice pf lf cf) P/\Dg w' (.slice pA lA cA) A/\Dg w' (.slice pB lB cB) B/\RowI w' pK cK E))
   have ONE:=Lz (show TJ c.p c.G (X,Y,1) from by
    have hc:=NM.out.1
    have hp:=hc.prm.two
    have o:=hc.on
    have o1:=o.2.1
    have o2:=o.2.2.2.1
    refine⟨⟨by have:=NM.out.2.2.2.2.1;show X<c.p;omega,by have:=NM.out.2.2.2.2.2.1;show Y<c.p;omega,by show 1<c.p;omega⟩,⟨λh=>by have h1:(c.p:Int)∣1:=h;have:=Int.le_of_dvd (by decide) h1;omega,?_,?_⟩,λh=>by simp at h⟩
    . rw[NM.out.2.2.2.2.1];exact⟨0,by simp⟩
    . rw[NM.out.2.2.2.2.2.1];exact⟨0,by simp⟩)
   have ZER:=Lz (show TJ c.p .inf (1,1,0) from by
    have hp:=NM.out.1.prm.two
    exact⟨⟨by show 1<c.p;omega,by show 1<c.p;omega,by show 0<c.p;omega⟩,⟨0,by simp⟩,λ_=>rfl⟩)
   clear hl
   go_wp2_with fail
   go_loopw [9] (λs9 wr=>∃ (I:Nat) (T:Nat×Nat×Nat),s9=.int .i64 ((I:Int)-1)/\RowKit.Hid (TL w1 wr X Y p7 p8 T)/\RowKit.Hid (I<=lK/\TJ c.p (EcLaw.mul c.p 0 (bval (E.drop I)) c.G) T)) (λs9 _=>(intOf s9+1).toNat)
   case atStart=>exact⟨lK,(1,1,0),by first|rfl|exact congrArg (Value.int .i64) (by have:=HE.out.2.2.2;unfold wrap64;omega),TL0,⟨Nat.le_refl _,by rw[HE.out.2.2.1,List.drop_length,bval_nil];exact ZER.out⟩⟩
   case round=>
    obtain⟨I,T,rfl,HT,HR⟩:=hrel
    rcases I with _|i
    . have e8:((0:Nat):Int)-1=-1:=by omega
      rw[e8]
      have HJ:=Lz (show TJ c.p (.aff X' Y') T from by
       have h:=HR.out.2
       rw[List.drop_zero,HE.out.2.1,NM.out.2.2.2.2.2.2.1] at h
       exact h)
      have hz:T.2.2≠0:=λe=>by have:=HJ.out.2.2 e;cases this
      obtain⟨x0,y0,z0,h7,d1,d2,d3⟩:=HT.out.cur
      obtain⟨px,cx,rfl,-⟩:=id d1
      obtain⟨py,cy,rfl,-⟩:=id d2
      obtain⟨pz,cz,rfl,-⟩:=id d3
      obtain⟨b0,b1,b2⟩:=BC.out _ HT.out.g
      obtain⟨t0,t1,t2⟩:=three h7 (zyz _ _)
      have hU:=HJ.out.1
      have C1:=pointS HP.out NM.out.2.1 (DD.out _ HT.out.g).1 (DD.out _ HT.out.g).2.1 (DD.out _ HT.out.g).2.2.1 d1 d2 d3 (by have:=NM.out;omega) NM.out.2.2.2.2.2.2.2 (by have:=NM.out.2.2.1;omega) (by have:=NM.out.2.2.1;omega) (by have:=NM.out.2.2.1;omega) hz
      have hpt:fm P T.1 (fm P (T.2.2^(P-2)%P) (T.2.2^(P-2)%P))=X'/\fm P T.2.1 (fm P (fm P (T.2.2^(P-2)%P) (T.2.2^(P-2)%P)) (T.2.2^(P-2)%P))=Y':=by
       have hc:=NM.out.1
       rw[NM.out.2.2.1]
       have hon:On c.p 0 c.b (.aff X' Y'):=NM.out.2.2.2.2.2.2.1 ▸ mul_on hc.prm hc.on K
       have h:=pt_ok (A:=0) (w:=T.2.2^(c.p-2)%c.p) hc.prm hon HJ.out (inv_dvd hc.pp (by have:=hc.p5;omega) hz hU.2.2)
       omega
      rw[hpt.1,hpt.2] at C1
      have C1:=Lz C1
      clear d1 d2 d3 e8 h7 hU hpt hz HR
      go_wp2_with fail
      refine C1.out.mono ?_
      rintro en u1 ⟨a,b,rfl,d1,d2,gr⟩
      obtain⟨pa,ca,rfl,-⟩:=id d1
      obtain⟨pb,cb,rfl,-⟩:=id d2
      have hb:=blk_keep BK.out.2.2 (HT.out.g.trans gr)
      have r0:=zzv (k:=0) hb rfl
      have r1:=zzv (k:=1) hb rfl
      have r2:=zzv (k:=2) hb rfl
      have x0:=zxq hb 0
      have x1:=zxq hb 1
      have x2:=zxq hb 2
      have ST:=Lz (store3 (vx:=.slice pa (bd X').length ca) (vy:=.slice pb (bd Y').length cb) (vz:=.bool false) (G0.out.trans (HT.out.g.trans gr)) hb (λk=>⟨by simp,by simp,by simp⟩) (by omega))
      have HF:=Lz (show PtP X' Y' w (.returned (.agg #[.slice pa (bd X').length ca,.slice pb (bd Y').length cb,.bool false])) _ from⟨_,_,rfl,ST.out.2.2 _ _ d1,ST.out.2.2 _ _ d2,ST.out.2.1⟩)
      have HC:=Lz (three ST.out.1 (zyz _ _))
      clear d1 d2 gr hb b0 b1 b2 t0 t1 t2 C1
      go_wp2_with fail
      obtain⟨c0,c1,c2⟩:=HC.out
      simp[bodyPost,results,Tryz.results25,go_sem,c0,c1,c2]
      exact HF.out
    . have e8:((i+1:Nat):Int)-1=(i:Int):=by omega
      rw[e8]
      have i5:(0:Int)<=i:=by omega
      have i5':decide ((i:Int)>=0)=true:=by rw[decide_eq_true_iff];omega
      have HI:=Lz (show i<lK/\TJ c.p (EcLaw.mul c.p 0 (bval (E.drop (i+1))) c.G) T from⟨by have:=HR.out.1;omega,HR.out.2⟩)
      clear HR e8
      go_wp2_with fail
      go_loopw [10] (λs10 wq=>∃ (k:Nat) (U:Nat×Nat×Nat),s10=.int .i64 ((k:Int)-1)/\RowKit.Hid (TL w1 wq X Y p7 p8 U)/\RowKit.Hid (k<=16/\TJ c.p (EcLaw.mul c.p 0 (ex E i k) c.G) U)) (λs10 _=>(intOf s10+1).toNat)
      case atStart=>exact⟨16,T,by first|rfl|exact congrArg (Value.int .i64) (by omega),HT,⟨Nat.le_refl _,by rw[ex_top HE.out.1];exact HI.out.2⟩⟩
      case round=>
       obtain⟨k,U,rfl,HU,HR⟩:=hrel
       rcases k with _|k
       . have e9:((0:Nat):Int)-1=-1:=by omega
         rw[e9]
         have HF:=Lz (show i<=lK/\TJ c.p (EcLaw.mul c.p 0 (bval (E.drop i)) c.G) U from⟨by have:=HI.out.1;omega,by rw[<-ex_end];exact HR.out.2⟩)
         have iB:(i:Int)<=100000:=by have:=HI.out.1;have:=HE.out.2.2.2;omega
         clear HR e9
         go_wp2_with fail
         go_roundw
         case rel=>first|exact⟨i,U,by first|rfl|exact congrArg (Value.int .i64) (by unfold wrap64;omega),HU,HF⟩|exact⟨i,by first|rfl|omega,U,HU,HF⟩
         case measure=>
          simp only[intOf]
          first|omega|(unfold wrap64;omega)
       . have e9:((k+1:Nat):Int)-1=(k:Int):=by omega
         rw[e9]
         have k5:(0:Int)<=k:=by omega
         have k5':decide ((k:Int)>=0)=true:=by rw[decide_eq_true_iff];omega
         have k15:(k:Int)<=15:=by have:=HR.out.1;omega
         have HK:=Lz (show k<16/\TJ c.p (EcLaw.mul c.p 0 (ex E i (k+1)) c.G) U from⟨by have:=HR.out.1;omega,HR.out.2⟩)
         obtain⟨x0,y0,z0,h7,d1,d2,d3⟩:=HU.out.cur
         obtain⟨px,cx,rfl,-⟩:=id d1
         obtain⟨py,cy,rfl,-⟩:=id d2
         obtain⟨pz,cz,rfl,-⟩:=id d3
         obtain⟨b0,b1,b2⟩:=BC.out _ HU.out.g
         obtain⟨t0,t1,t2⟩:=three h7 (zyz _ _)
         have hU:=HK.out.2.1
         have C1:=Lz (twiceT HP.out NM.out.2.1 (DD.out _ HU.out.g).1 (DD.out _ HU.out.g).2.1 (DD.out _ HU.out.g).2.2.1 d1 d2 d3 (by have:=NM.out;omega) NM.out.2.2.2.2.2.2.2 (by have:=NM.out.2.2.1;omega) (by have:=NM.out.2.2.1;omega) (by have:=NM.out.2.2.1;omega))
         have H7:=Lz h7
         clear d1 d2 d3 HR e9 h7 hU
         go_wp2_with fail
         refine C1.out.mono ?_
         rintro en u1 ⟨a,b,d,rfl,d1,d2,d3,gr⟩
         obtain⟨pa,ca,rfl,-⟩:=id d1
         obtain⟨pb,cb,rfl,-⟩:=id d2
         obtain⟨pc,cc,rfl,-⟩:=id d3
         have hb:=blk_keep H7.out gr
         have r0:=zzv (k:=0) hb rfl
         have r1:=zzv (k:=1) hb rfl
         have r2:=zzv (k:=2) hb rfl
         have x0:=zxq hb 0
         have x1:=zxq hb 1
         have x2:=zxq hb 2
         have HS:=Lz ((HU.out.call gr).store d1 d2 d3)
         clear d1 d2 d3 gr hb b0 b1 b2 t0 t1 t2 C1
         go_upto_region 9 with fail
         clear r0 r1 r2 x0 x1 x2
         generalize (((u1.setCell ⟨p7,0,.none⟩ (.slice pa (bd (twN P A U.1 U.2.1 U.2.2).1).length ca)).setCell ⟨p7,1,.none⟩ (.slice pb (bd (twN P A U.1 U.2.1 U.2.2).2.1).length cb)).setCell ⟨p7,2,.none⟩ (.slice pc (bd (twN P A U.1 U.2.1 U.2.2).2.2).length cc))=w2 at *
         have HV:=Lz (show TJ c.p (EcLaw.mul c.p 0 (2*ex E i (k+1)) c.G) (twN P A U.1 U.2.1 U.2.2) from by
          have hc:=NM.out.1
          have h1:=tw_ok (A:=A) hc.prm (by rw[NM.out.2.2.2.1];exact mul_on hc.prm hc.on (ex E i (k+1))) HK.out.2
          rw[NM.out.2.2.1]
          rw[Nat.two_mul,mul_add hc.cv hc.on]
          have e0:((A:Nat):Int)=0:=by rw[NM.out.2.2.2.1];rfl
          rw[e0] at h1
          exact h1)
         obtain⟨V,hV⟩:∃ V,V=twN P A U.1 U.2.1 U.2.2:=⟨_,rfl⟩
         have HS2:=Lz (show TL w1 w2 X Y p7 p8 V from by rw[hV];exact HS.out)
         rw[<-hV] at HV
         obtain⟨bu,ou,rfl⟩:=(DD.out _ HS2.out.g).2.2.2.2.2.1 (by have:=HI.out.1;have:=HE.out.2.2.1;omega)
         have ce:=(DD.out _ HS2.out.g).2.2.2.2.2.2 bu ou rfl i (by have:=HI.out.1;have:=HE.out.2.2.1;omega)
         obtain⟨dg,hdd⟩:∃ d,d=E.getD i 0:=⟨_,rfl⟩
         rw[<-hdd] at ce
         have dB:dg<65536:=by rw[hdd];exact HE.out.1.getD i
         obtain⟨dk,hdk⟩:∃ x,x=dg/2^k:=⟨_,rfl⟩
         have dkB:dk<=dg:=by rw[hdk];exact Nat.div_le_self _ _
         have Q1:(dg:Int)/2^k=(dk:Int):=by rw[hdk];exact shr_nat dg k
         have Q2:bits .and .i64 (dk:Int) 1=((dk%2:Nat):Int):=and1 dk (by omega)
         have HDK:=Lz (show dk=E.getD i 0/2^k from by rw[hdk,hdd])
         have iL:(i:Int)<lK:=by have:=HI.out.1;omega
         have iB:(i:Int)<=100000:=by have:=HI.out.1;have:=HE.out.2.2.2;omega
         clear hV hdd hdk dkB dB HS HU H7
         by_cases hbit:dk%2=1
         . have Q3:(((dk%2:Nat):Int)==1)=true:=by rw[hbit];rfl
           obtain⟨x0,y0,z0,h7,d1,d2,d3⟩:=HS2.out.cur
           obtain⟨x8,y8,z8,h8,f1,f2,f3⟩:=HS2.out.one
           obtain⟨px',cx',rfl,-⟩:=id d1
           obtain⟨py',cy',rfl,-⟩:=id d2
           obtain⟨pz',cz',rfl,-⟩:=id d3
           obtain⟨qx,kx,rfl,-⟩:=id f1
           obtain⟨qy,ky,rfl,-⟩:=id f2
           obtain⟨qz,kz,rfl,-⟩:=id f3
           obtain⟨b0,b1,b2⟩:=BC.out _ HS2.out.g
           obtain⟨t0,t1,t2⟩:=three h7 (zyz _ _)
           obtain⟨o0,o1,o2⟩:=three h8 (zyz _ _)
           have hV1:=HV.out.1
           have hO1:=ONE.out.1
           have C2:=Lz (addT HP.out NM.out.2.1 (DD.out _ HS2.out.g).1 (DD.out _ HS2.out.g).2.1 (DD.out _ HS2.out.g).2.2.1 d1 d2 d3 f1 f2 f3 (by have:=NM.out;omega) NM.out.2.2.2.2.2.2.2 (by have:=NM.out.2.2.1;omega) (by have:=NM.out.2.2.1;omega) (by have:=NM.out.2.2.1;omega) (by have:=NM.out.2.2.1;have:=hO1.1;simp only at this;omega) (by have:=NM.out.2.2.1;have:=hO1.2.1;simp only at this;omega) (by have:=NM.out.2.1;omega))
           have H7:=Lz h7
           have HN:=Lz (show TJ c.p (EcLaw.mul c.p 0 (ex E i k) c.G) (adN P A (V.1,V.2.1,V.2.2) (X,Y,1)) from by
            have hc:=NM.out.1
            have h1:=ad_ok (A:=A) hc.prm (by rw[NM.out.2.2.2.1];exact mul_on hc.prm hc.on (2*ex E i (k+1))) (by rw[NM.out.2.2.2.1];exact hc.on) HV.out ONE.out
            have e0:((A:Nat):Int)=0:=by rw[NM.out.2.2.2.1];rfl
            rw[e0] at h1
            rw[NM.out.2.2.1,ex_step E i k HK.out.1,<-HDK.out,hbit,mul_add hc.cv hc.on,mul_one]
            exact h1)
           have HK2:=Lz (show k<=16 by have:=HK.out.1;omega)
           clear d1 d2 d3 f1 f2 f3 h7 h8 hV1 hO1 hbit
           go_wp2_with fail
           refine C2.out.mono ?_
           rintro en u2 ⟨a,b,d,rfl,d1,d2,d3,gr⟩
           obtain⟨pa',ca',rfl,-⟩:=id d1
           obtain⟨pb',cb',rfl,-⟩:=id d2
           obtain⟨pc',cc',rfl,-⟩:=id d3
           have hb:=blk_keep H7.out gr
           have r0:=zzv (k:=0) hb rfl
           have r1:=zzv (k:=1) hb rfl
           have r2:=zzv (k:=2) hb rfl
           have x0:=zxq hb 0
           have x1:=zxq hb 1
           have x2:=zxq hb 2
           have HS3:=Lz ((HS2.out.call gr).store d1 d2 d3)
           clear d1 d2 d3 gr hb b0 b1 b2 t0 t1 t2 o0 o1 o2 C2
           go_wp2_with fail
           go_roundw
           case rel=>first|exact⟨k,_,by first|rfl|exact congrArg (Value.int .i64) (by unfold wrap64;omega),HS3,⟨HK2.out,HN.out⟩⟩|exact⟨k,by first|rfl|omega,_,HS3,⟨HK2.out,HN.out⟩⟩
           case measure=>
            simp only[intOf]
            first|omega|(unfold wrap64;omega)
         . have Q3:(((dk%2:Nat):Int)==1)=false:=by rw[beq_eq_false_iff_ne];omega
           have HN:=Lz (show k<=16/\TJ c.p (EcLaw.mul c.p 0 (ex E i k) c.G) V from⟨by have:=HK.out.1;omega,by
            rw[ex_step E i k HK.out.1,<-HDK.out,show dk%2=0 by omega]
            exact HV.out⟩)
           clear hbit
           go_wp2_with fail
           go_roundw
           case rel=>first|exact⟨k,V,by first|rfl|exact congrArg (Value.int .i64) (by unfold wrap64;omega),HS2,HN⟩|exact⟨k,by first|rfl|omega,V,HS2,HN⟩
           case measure=>
            simp only[intOf]
            first|omega|(unfold wrap64;omega)
end Go.Proofs.YtohhkjamddojmaaGreatDoor.Bit
