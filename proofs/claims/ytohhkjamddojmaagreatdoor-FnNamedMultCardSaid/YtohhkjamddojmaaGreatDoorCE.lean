/- The specification's double of a triple. The specification's double of a triple: of the point at infinity. -/
import Derived.Test.YtohhkjamddojmaaGreatDoorBN
set_option maxRecDepth 100000
set_option maxHeartbeats 16000000
namespace Go.Proofs.YtohhkjamddojmaaGreatDoor.Bit
open Go.RowKit
open Big
theorem blk_set {w:World} {b:Nat} {cs:Array Value} {T:TypeId} (h:w.heap[b]? = some (.cells cs T (0,0))) (i:Nat) (v:Value):(w.setCell ⟨b,i,none⟩ v).heap[b]? = some (.cells (cs.setIfInBounds i v) T (0,0)):=by
 simp only[World.setCell,Array.getElem?_modify,if_true]
 rw[h]
 rfl
theorem zxq {w:World} {b:Nat} {cs:Array Value} {T:TypeId} (h:w.heap[b]? = some (.cells cs T (0,0))) (i:Nat):w.frozen? ⟨b,i,none⟩=false:=by
 simp[World.frozen?,h]
theorem store3 {w u:World} {b:Nat} {T:TypeId} {a0 a1 a2 vx vy vz:Value} (hg:w.grownBy u .none) (hb:u.heap[b]? = some (.cells #[a0,a1,a2] T (0,0))) (hi:∀ k,a0≠.int .i64 k/\a1≠.int .i64 k/\a2≠.int .i64 k) (hw:w.heap.size<=b) :
 (((u.setCell ⟨b,0,.none⟩ vx).setCell ⟨b,1,.none⟩ vy).setCell ⟨b,2,.none⟩ vz).heap[b]? = some (.cells #[vx,vy,vz] T (0,0))/\w.grownBy (((u.setCell ⟨b,0,.none⟩ vx).setCell ⟨b,1,.none⟩ vy).setCell ⟨b,2,.none⟩ vz) .none ∧
 (∀ v n,Dg u v n->Dg (((u.setCell ⟨b,0,.none⟩ vx).setCell ⟨b,1,.none⟩ vy).setCell ⟨b,2,.none⟩ vz) v n):=by
 have h1:=blk_set hb 0 vx
 have h2:=blk_set h1 1 vy
 have h3:=blk_set h2 2 vz
 have g:u.grownBy (((u.setCell ⟨b,0,.none⟩ vx).setCell ⟨b,1,.none⟩ vy).setCell ⟨b,2,.none⟩ vz) (some b):=((zzw u b 0 vx).trans (zzw _ b 1 vy)).trans (zzw _ b 2 vz)
 refine⟨h3,grown_new hg g hw,λv n ⟨p,c,e,r⟩=>⟨p,c,e,?_⟩⟩
 rcases Nat.eq_zero_or_pos (bd n).length with h0|h0
 . exact⟨r.1,r.2.1,r.2.2.1,λb' o' _ i hi=>by omega⟩
 . refine r.keptB g ?_
   rintro b' o' rfl rfl
   have:=r.2.2.2 b' o' rfl 0 h0
   simp only[World.cell?,hb] at this
   match h:o'+0,this with
   | 0,this=>exact(hi _).1 (Option.some.inj this)
   | 1,this=>exact(hi _).2.1 (Option.some.inj this)
   | 2,this=>exact(hi _).2.2 (Option.some.inj this)
   | j+3,this=>simp at this
theorem one_len {n:Nat}:(((bd n).length:Int)==0)=decide (n=0):=by
 by_cases h:n=0
 . subst h;rw[bd_zero];rfl
 . have:(bd n).length≠0:=λe=>h (bd_eq_nil.1 (List.length_eq_zero_iff.1 e))
   rw[decide_eq_false h,beq_eq_false_iff_ne]
   omega
theorem twiceS {w:World} {f va vb vx vy vz:Value} {P A B x y z:Nat} (hP:Fd P) (h9:8<P) (hf:Dg w f P) (dA:Dg w va A) (dB:Dg w vb B) (dx:Dg w vx x) (dy:Dg w vy y) (dz:Dg w vz z) (lA:A<P) (lB:B<P) (lx:x<P) (ly:y<P) (lz:z<P) (hzy:¬(z=0\/y=0)) :
 Calls Tryz.prog 67 #[.agg #[f,va,vb],.agg #[vx,vy,vz]] w (TrP (twN P A x y z).1 (twN P A x y z).2.1 (twN P A x y z).2.2 w):=by
 obtain⟨yy,hyy⟩:∃ n,n=fm P y y:=⟨_,rfl⟩
 obtain⟨xy,hxy⟩:∃ n,n=fm P x yy:=⟨_,rfl⟩
 obtain⟨s,hs⟩:∃ n,n=fm P 4 xy:=⟨_,rfl⟩
 obtain⟨zz,hzz⟩:∃ n,n=fm P z z:=⟨_,rfl⟩
 obtain⟨xx,hxx⟩:∃ n,n=fm P x x:=⟨_,rfl⟩
 obtain⟨x3x,hx3x⟩:∃ n,n=fm P 3 xx:=⟨_,rfl⟩
 obtain⟨z4,hz4⟩:∃ n,n=fm P zz zz:=⟨_,rfl⟩
 obtain⟨az,haz⟩:∃ n,n=fm P A z4:=⟨_,rfl⟩
 obtain⟨m,hm⟩:∃ n,n=fa P x3x az:=⟨_,rfl⟩
 obtain⟨mm,hmm⟩:∃ n,n=fm P m m:=⟨_,rfl⟩
 obtain⟨ss,hss⟩:∃ n,n=fa P s s:=⟨_,rfl⟩
 obtain⟨rx,hrx⟩:∃ n,n=fs P mm ss:=⟨_,rfl⟩
 obtain⟨sd,hsd⟩:∃ n,n=fs P s rx:=⟨_,rfl⟩
 obtain⟨md,hmd⟩:∃ n,n=fm P m sd:=⟨_,rfl⟩
 obtain⟨y4,hy4⟩:∃ n,n=fm P yy yy:=⟨_,rfl⟩
 obtain⟨y8,hy8⟩:∃ n,n=fm P 8 y4:=⟨_,rfl⟩
 obtain⟨ry,hry⟩:∃ n,n=fs P md y8:=⟨_,rfl⟩
 obtain⟨yz,hyz⟩:∃ n,n=fm P y z:=⟨_,rfl⟩
 obtain⟨rz,hrz⟩:∃ n,n=fm P 2 yz:=⟨_,rfl⟩
 have HN:=Lz (show yy=fm P y y/\xy=fm P x yy/\s=fm P 4 xy/\zz=fm P z z/\xx=fm P x x/\x3x=fm P 3 xx/\z4=fm P zz zz/\az=fm P A z4/\m=fa P x3x az/\mm=fm P m m/\ss=fa P s s/\rx=fs P mm ss/\sd=fs P s rx/\md=fm P m sd/\y4=fm P yy yy/\y8=fm P 8 y4/\ry=fs P md y8/\yz=fm P y z/\rz=fm P 2 yz from⟨hyy,hxy,hs,hzz,hxx,hx3x,hz4,haz,hm,hmm,hss,hrx,hsd,hmd,hy4,hy8,hry,hyz,hrz⟩)
 have HL:=Lz (show A<P/\B<P/\x<P/\y<P/\z<P/\yy<P/\xy<P/\s<P/\zz<P/\xx<P/\x3x<P/\z4<P/\az<P/\m<P/\mm<P/\ss<P/\rx<P/\sd<P/\md<P/\y4<P/\y8<P/\ry<P/\yz<P/\rz<P from⟨lA,lB,lx,ly,lz,by rw[hyy];exact fm_lt hP.pos,by rw[hxy];exact fm_lt hP.pos,by rw[hs];exact fm_lt hP.pos,by rw[hzz];exact fm_lt hP.pos,by rw[hxx];exact fm_lt hP.pos,by rw[hx3x];exact fm_lt hP.pos,by rw[hz4];exact fm_lt hP.pos,by rw[haz];exact fm_lt hP.pos,by rw[hm];exact fa_lt hP.pos,by rw[hmm];exact fm_lt hP.pos,by rw[hss];exact fa_lt hP.pos,by rw[hrx];exact fs_lt hP.pos,by rw[hsd];exact fs_lt hP.pos,by rw[hmd];exact fm_lt hP.pos,by rw[hy4];exact fm_lt hP.pos,by rw[hy8];exact fm_lt hP.pos,by rw[hry];exact fs_lt hP.pos,by rw[hyz];exact fm_lt hP.pos,by rw[hrz];exact fm_lt hP.pos⟩)
 have HT:=Lz (show twN P A x y z=(rx,ry,rz) from by
  unfold twN
  rw[if_neg hzy]
  subst hrz hyz hry hy8 hy4 hmd hsd hrx hss hmm hm haz hz4 hx3x hxx hzz hs hxy hyy
  rfl)
 rw[HT.out]
 have iz:(((bd z).length:Int)==0)=false:=by rw[one_len];exact decide_eq_false (λe=>hzy (.inl e))
 have iy:(((bd y).length:Int)==0)=false:=by rw[one_len];exact decide_eq_false (λe=>hzy (.inr e))
 have HP:=Lz hP
 have HP9:=Lz h9
 obtain⟨pf,cf,rfl,-⟩:=id hf
 obtain⟨pA,cA,rfl,-⟩:=id dA
 obtain⟨pB,cB,rfl,-⟩:=id dB
 obtain⟨px,cx,rfl,-⟩:=id dx
 obtain⟨py,cy,rfl,-⟩:=id dy
 obtain⟨pz,cz,rfl,-⟩:=id dz
 have s1:(w.alloc (.cells #[(.slice pf (bd P).length cf),(.slice pA (bd A).length cA),(.slice pB (bd B).length cB)] 47)).heap.size=w.heap.size+1:=Array.size_push _
 have s2:((w.alloc (.cells #[(.slice pf (bd P).length cf),(.slice pA (bd A).length cA),(.slice pB (bd B).length cB)] 47)).alloc (.cells #[(.slice px (bd x).length cx),(.slice py (bd y).length cy),(.slice pz (bd z).length cz)] 120)).heap.size=w.heap.size+1+1:=(Array.size_push _).trans (by rw[s1])
 have s3:(((w.alloc (.cells #[(.slice pf (bd P).length cf),(.slice pA (bd A).length cA),(.slice pB (bd B).length cB)] 47)).alloc (.cells #[(.slice px (bd x).length cx),(.slice py (bd y).length cy),(.slice pz (bd z).length cz)] 120)).alloc (.cells #[.slice .none 0 0,.slice .none 0 0,.slice .none 0 0] 120)).heap.size=w.heap.size+1+1+1:=(Array.size_push _).trans (by rw[s2])
 have n1:=heap_alloc_new w (.cells #[(.slice pf (bd P).length cf),(.slice pA (bd A).length cA),(.slice pB (bd B).length cB)] 47)
 have n2:=heap_alloc_new (w.alloc (.cells #[(.slice pf (bd P).length cf),(.slice pA (bd A).length cA),(.slice pB (bd B).length cB)] 47)) (.cells #[(.slice px (bd x).length cx),(.slice py (bd y).length cy),(.slice pz (bd z).length cz)] 120)
 have n3:=heap_alloc_new ((w.alloc (.cells #[(.slice pf (bd P).length cf),(.slice pA (bd A).length cA),(.slice pB (bd B).length cB)] 47)).alloc (.cells #[(.slice px (bd x).length cx),(.slice py (bd y).length cy),(.slice pz (bd z).length cz)] 120)) (.cells #[.slice .none 0 0,.slice .none 0 0,.slice .none 0 0] 120)
 have n4:=heap_alloc_new (((w.alloc (.cells #[(.slice pf (bd P).length cf),(.slice pA (bd A).length cA),(.slice pB (bd B).length cB)] 47)).alloc (.cells #[(.slice px (bd x).length cx),(.slice py (bd y).length cy),(.slice pz (bd z).length cz)] 120)).alloc (.cells #[.slice .none 0 0,.slice .none 0 0,.slice .none 0 0] 120)) (.cells #[(.slice pf (bd P).length cf)] 39)
 rw[s1] at n2
 rw[s2] at n3
 rw[s3] at n4
 have g4:(((w.alloc (.cells #[(.slice pf (bd P).length cf),(.slice pA (bd A).length cA),(.slice pB (bd B).length cB)] 47)).alloc (.cells #[(.slice px (bd x).length cx),(.slice py (bd y).length cy),(.slice pz (bd z).length cz)] 120)).alloc (.cells #[.slice .none 0 0,.slice .none 0 0,.slice .none 0 0] 120)).grownBy ((((w.alloc (.cells #[(.slice pf (bd P).length cf),(.slice pA (bd A).length cA),(.slice pB (bd B).length cB)] 47)).alloc (.cells #[(.slice px (bd x).length cx),(.slice py (bd y).length cy),(.slice pz (bd z).length cz)] 120)).alloc (.cells #[.slice .none 0 0,.slice .none 0 0,.slice .none 0 0] 120)).alloc (.cells #[(.slice pf (bd P).length cf)] 39)) .none:=zzy _ _ _
 have g3:((w.alloc (.cells #[(.slice pf (bd P).length cf),(.slice pA (bd A).length cA),(.slice pB (bd B).length cB)] 47)).alloc (.cells #[(.slice px (bd x).length cx),(.slice py (bd y).length cy),(.slice pz (bd z).length cz)] 120)).grownBy ((((w.alloc (.cells #[(.slice pf (bd P).length cf),(.slice pA (bd A).length cA),(.slice pB (bd B).length cB)] 47)).alloc (.cells #[(.slice px (bd x).length cx),(.slice py (bd y).length cy),(.slice pz (bd z).length cz)] 120)).alloc (.cells #[.slice .none 0 0,.slice .none 0 0,.slice .none 0 0] 120)).alloc (.cells #[(.slice pf (bd P).length cf)] 39)) .none:=(zzy _ _ _).trans g4
 have g2:(w.alloc (.cells #[(.slice pf (bd P).length cf),(.slice pA (bd A).length cA),(.slice pB (bd B).length cB)] 47)).grownBy ((((w.alloc (.cells #[(.slice pf (bd P).length cf),(.slice pA (bd A).length cA),(.slice pB (bd B).length cB)] 47)).alloc (.cells #[(.slice px (bd x).length cx),(.slice py (bd y).length cy),(.slice pz (bd z).length cz)] 120)).alloc (.cells #[.slice .none 0 0,.slice .none 0 0,.slice .none 0 0] 120)).alloc (.cells #[(.slice pf (bd P).length cf)] 39)) .none:=(zzy _ _ _).trans g3
 have G0:=Lz (show w.grownBy ((((w.alloc (.cells #[(.slice pf (bd P).length cf),(.slice pA (bd A).length cA),(.slice pB (bd B).length cB)] 47)).alloc (.cells #[(.slice px (bd x).length cx),(.slice py (bd y).length cy),(.slice pz (bd z).length cz)] 120)).alloc (.cells #[.slice .none 0 0,.slice .none 0 0,.slice .none 0 0] 120)).alloc (.cells #[(.slice pf (bd P).length cf)] 39)) .none from(zzy _ _ _).trans g2)
 have CC:=Lz (λ(w':World) (k:World.grownBy ((((w.alloc (.cells #[(.slice pf (bd P).length cf),(.slice pA (bd A).length cA),(.slice pB (bd B).length cB)] 47)).alloc (.cells #[(.slice px (bd x).length cx),(.slice py (bd y).length cy),(.slice pz (bd z).length cz)] 120)).alloc (.cells #[.slice .none 0 0,.slice .none 0 0,.slice .none 0 0] 120)).alloc (.cells #[(.slice pf (bd P).length cf)] 39)) w' .none)=>(⟨k.cell (zzv (k:=0) n4 rfl) (by simp),(three n2 (g3.trans k)).1,(three n2 (g3.trans k)).2.1,(three n2 (g3.trans k)).2.2,(three n1 (g2.trans k)).2.1⟩:w'.cell? ⟨w.heap.size+1+1+1,0,.none⟩=some (.slice pf (bd P).length cf)/\w'.cell? ⟨w.heap.size+1,0,.none⟩=some (.slice px (bd x).length cx)/\w'.cell? ⟨w.heap.size+1,1,.none⟩=some (.slice py (bd y).length cy)/\w'.cell? ⟨w.heap.size+1,2,.none⟩=some (.slice pz (bd z).length cz)/\w'.cell? ⟨w.heap.size,1,.none⟩=some (.slice pA (bd A).length cA)))
 have BL:=Lz (λ(w':World) (k:World.grownBy ((((w.alloc (.cells #[(.slice pf (bd P).length cf),(.slice pA (bd A).length cA),(.slice pB (bd B).length cB)] 47)).alloc (.cells #[(.slice px (bd x).length cx),(.slice py (bd y).length cy),(.slice pz (bd z).length cz)] 120)).alloc (.cells #[.slice .none 0 0,.slice .none 0 0,.slice .none 0 0] 120)).alloc (.cells #[(.slice pf (bd P).length cf)] 39)) w' .none)=>(((g4.trans k).block _ (Array.getElem?_eq_some_iff.1 n3).1 (by simp)).trans n3:w'.heap[w.heap.size+1+1]? = some (.cells #[.slice .none 0 0,.slice .none 0 0,.slice .none 0 0] 120 (0,0))))
 have DD:=Lz (λ(w':World) (k:World.grownBy ((((w.alloc (.cells #[(.slice pf (bd P).length cf),(.slice pA (bd A).length cA),(.slice pB (bd B).length cB)] 47)).alloc (.cells #[(.slice px (bd x).length cx),(.slice py (bd y).length cy),(.slice pz (bd z).length cz)] 120)).alloc (.cells #[.slice .none 0 0,.slice .none 0 0,.slice .none 0 0] 120)).alloc (.cells #[(.slice pf (bd P).length cf)] 39)) w' .none)=>(⟨hf.kept (G0.out.trans k),dA.kept (G0.out.trans k),dB.kept (G0.out.trans k),dx.kept (G0.out.trans k),dy.kept (G0.out.trans k),dz.kept (G0.out.trans k)⟩:Dg w' (.slice pf (bd P).length cf) P/\Dg w' (.slice pA (bd A).length cA) A/\Dg w' (.slice pB (bd B).length cB) B/\Dg w' (.slice px (bd x).length cx) x/\Dg w' (.slice py (bd y).length cy) y/\Dg w' (.slice pz (bd z).length cz) z))
 clear hP h9 hf dA dB dx dy dz lA lB lx ly lz hyy hxy hs hzz hxx hx3x hz4 haz hm hmm hss hrx hsd hmd hy4 hy8 hry hyz hrz hzy s1 s2 s3 n1 n2 n3 n4 g2 g3 g4
 go_enter Tryz.func67,Tryz.ntmps67
 go_upto_region 4 with fail
 generalize hw1:((((w.alloc (.cells #[(.slice pf (bd P).length cf),(.slice pA (bd A).length cA),(.slice pB (bd B).length cB)] 47)).alloc (.cells #[(.slice px (bd x).length cx),(.slice py (bd y).length cy),(.slice pz (bd z).length cz)] 120)).alloc (.cells #[.slice .none 0 0,.slice .none 0 0,.slice .none 0 0] 120)).alloc (.cells #[(.slice pf (bd P).length cf)] 39))=w1 at *
 obtain⟨q0,q1,q2,q3,q4⟩:=CC.out _ (zyz w1 _)
 go_wp2_with fail
 refine(mulE HN.out.1 HP.out (DD.out _ (zyz _ _)).1 (DD.out _ (zyz _ _)).2.2.2.2.1 (DD.out _ (zyz _ _)).2.2.2.2.1 HL.out.2.2.2.1 HL.out.2.2.2.1).mono ?_
 rintro en u1 ⟨vyy,rfl,eyy,gr1⟩
 obtain⟨q0,q1,q2,q3,q4⟩:=CC.out _ (((zyz _ _)).trans gr1)
 have A1:=Lz (And.intro (((zyz _ _)).trans gr1) ((eyy)))
 obtain⟨pyy,cyy,rfl,-⟩:=eyy
 clear gr1
 go_upto_region 5 with fail
 go_region_held3 (λw'=>w'.cell? ⟨w.heap.size+1+1+1,0,.none⟩=some (.slice pf (bd P).length cf)/\w'.cell? ⟨w.heap.size+1,0,.none⟩=some (.slice px (bd x).length cx)/\w'.cell? ⟨w.heap.size+1,1,.none⟩=some (.slice py (bd y).length cy)/\w'.cell? ⟨w.heap.size+1,2,.none⟩=some (.slice pz (bd z).length cz)/\w'.cell? ⟨w.heap.size,1,.none⟩=some (.slice pA (bd A).length cA)) (go_keep) (first|(go_at_call 112;refine(timesE HN.out.2.2.1 HP.out (DD.out _ A2.out.1).1 A2.out.2.2 HL.out.2.2.2.2.2.2.1 (by decide) (by decide) (by have:=HP9.out;omega)).mono ?_;rintro en u3 ⟨vs,rfl,es,gr3⟩;obtain⟨q0,q1,q2,q3,q4⟩:=CC.out _ ((A2.out.1).trans gr3);have A3:=Lz (And.intro ((A2.out.1).trans gr3) (And.intro (A2.out.2.1.kept gr3) (And.intro (A2.out.2.2.kept gr3) ((es)))));obtain⟨ps,cs,rfl,-⟩:=es;clear gr3)|(go_at_call 64;refine(mulE HN.out.2.1 HP.out (DD.out _ (A1.out.1.trans (zzz u1 _ .none))).1 (DD.out _ (A1.out.1.trans (zzz u1 _ .none))).2.2.2.1 (A1.out.2.kept (zzz u1 _ .none)) HL.out.2.2.1 HL.out.2.2.2.2.2.1).mono ?_;rintro en u2 ⟨vxy,rfl,exy,gr2⟩;obtain⟨q0,q1,q2,q3,q4⟩:=CC.out _ (((A1.out.1.trans (zzz u1 _ .none))).trans gr2);have A2:=Lz (And.intro (((A1.out.1.trans (zzz u1 _ .none))).trans gr2) (And.intro (A1.out.2.kept ((zzz u1 _ .none).trans gr2)) ((exy))));obtain⟨pxy,cxy,rfl,-⟩:=exy;clear gr2))
 go_wp2_with fail
 refine(mulE HN.out.2.2.2.1 HP.out (DD.out _ A3.out.1).1 (DD.out _ A3.out.1).2.2.2.2.2 (DD.out _ A3.out.1).2.2.2.2.2 HL.out.2.2.2.2.1 HL.out.2.2.2.2.1).mono ?_
 rintro en u4 ⟨vzz,rfl,ezz,gr4⟩
 obtain⟨q0,q1,q2,q3,q4⟩:=CC.out _ ((A3.out.1).trans gr4)
 have A4:=Lz (And.intro ((A3.out.1).trans gr4) (And.intro (A3.out.2.1.kept gr4) (And.intro (A3.out.2.2.1.kept gr4) (And.intro (A3.out.2.2.2.kept gr4) ((ezz))))))
 obtain⟨pzz,czz,rfl,-⟩:=ezz
 clear gr4
 go_upto_region 7 with fail
 go_region_held3 (λw'=>w'.cell? ⟨w.heap.size+1+1+1,0,.none⟩=some (.slice pf (bd P).length cf)/\w'.cell? ⟨w.heap.size+1,0,.none⟩=some (.slice px (bd x).length cx)/\w'.cell? ⟨w.heap.size+1,1,.none⟩=some (.slice py (bd y).length cy)/\w'.cell? ⟨w.heap.size+1,2,.none⟩=some (.slice pz (bd z).length cz)/\w'.cell? ⟨w.heap.size,1,.none⟩=some (.slice pA (bd A).length cA)) (go_keep) (first|(go_at_call 65;refine(addE HN.out.2.2.2.2.2.2.2.2.1 HP.out (DD.out _ A8.out.1).1 A8.out.2.2.2.2.2.2.1 A8.out.2.2.2.2.2.2.2.2 HL.out.2.2.2.2.2.2.2.2.2.2.1 HL.out.2.2.2.2.2.2.2.2.2.2.2.2.1).mono ?_;rintro en u9 ⟨vm,rfl,em,gr9⟩;obtain⟨q0,q1,q2,q3,q4⟩:=CC.out _ ((A8.out.1).trans gr9);have A9:=Lz (And.intro ((A8.out.1).trans gr9) (And.intro (A8.out.2.1.kept gr9) (And.intro (A8.out.2.2.1.kept gr9) (And.intro (A8.out.2.2.2.1.kept gr9) (And.intro (A8.out.2.2.2.2.1.kept gr9) (And.intro (A8.out.2.2.2.2.2.1.kept gr9) (And.intro (A8.out.2.2.2.2.2.2.1.kept gr9) (And.intro (A8.out.2.2.2.2.2.2.2.1.kept gr9) (And.intro (A8.out.2.2.2.2.2.2.2.2.kept gr9) ((em)))))))))));obtain⟨pm,cm,rfl,-⟩:=em;clear gr9)|(go_at_call 64;refine(mulE HN.out.2.2.2.2.2.2.2.1 HP.out (DD.out _ A7.out.1).1 (DD.out _ A7.out.1).2.1 A7.out.2.2.2.2.2.2.2 HL.out.1 HL.out.2.2.2.2.2.2.2.2.2.2.2.1).mono ?_;rintro en u8 ⟨vaz,rfl,eaz,gr8⟩;obtain⟨q0,q1,q2,q3,q4⟩:=CC.out _ ((A7.out.1).trans gr8);have A8:=Lz (And.intro ((A7.out.1).trans gr8) (And.intro (A7.out.2.1.kept gr8) (And.intro (A7.out.2.2.1.kept gr8) (And.intro (A7.out.2.2.2.1.kept gr8) (And.intro (A7.out.2.2.2.2.1.kept gr8) (And.intro (A7.out.2.2.2.2.2.1.kept gr8) (And.intro (A7.out.2.2.2.2.2.2.1.kept gr8) (And.intro (A7.out.2.2.2.2.2.2.2.kept gr8) ((eaz))))))))));obtain⟨paz,caz,rfl,-⟩:=eaz;clear gr8)|(go_at_call 64;refine(mulE HN.out.2.2.2.2.2.2.1 HP.out (DD.out _ A6.out.1).1 A6.out.2.2.2.2.1 A6.out.2.2.2.2.1 HL.out.2.2.2.2.2.2.2.2.1 HL.out.2.2.2.2.2.2.2.2.1).mono ?_;rintro en u7 ⟨vz4,rfl,ez4,gr7⟩;obtain⟨q0,q1,q2,q3,q4⟩:=CC.out _ ((A6.out.1).trans gr7);have A7:=Lz (And.intro ((A6.out.1).trans gr7) (And.intro (A6.out.2.1.kept gr7) (And.intro (A6.out.2.2.1.kept gr7) (And.intro (A6.out.2.2.2.1.kept gr7) (And.intro (A6.out.2.2.2.2.1.kept gr7) (And.intro (A6.out.2.2.2.2.2.1.kept gr7) (And.intro (A6.out.2.2.2.2.2.2.kept gr7) ((ez4)))))))));obtain⟨pz4,cz4,rfl,-⟩:=ez4;clear gr7)|(go_at_call 112;refine(timesE HN.out.2.2.2.2.2.1 HP.out (DD.out _ A5.out.1).1 A5.out.2.2.2.2.2 HL.out.2.2.2.2.2.2.2.2.2.1 (by decide) (by decide) (by have:=HP9.out;omega)).mono ?_;rintro en u6 ⟨vx3x,rfl,ex3x,gr6⟩;obtain⟨q0,q1,q2,q3,q4⟩:=CC.out _ ((A5.out.1).trans gr6);have A6:=Lz (And.intro ((A5.out.1).trans gr6) (And.intro (A5.out.2.1.kept gr6) (And.intro (A5.out.2.2.1.kept gr6) (And.intro (A5.out.2.2.2.1.kept gr6) (And.intro (A5.out.2.2.2.2.1.kept gr6) (And.intro (A5.out.2.2.2.2.2.kept gr6) ((ex3x))))))));obtain⟨px3x,cx3x,rfl,-⟩:=ex3x;clear gr6)|(go_at_call 64;refine(mulE HN.out.2.2.2.2.1 HP.out (DD.out _ (A4.out.1.trans (zzz u4 _ .none))).1 (DD.out _ (A4.out.1.trans (zzz u4 _ .none))).2.2.2.1 (DD.out _ (A4.out.1.trans (zzz u4 _ .none))).2.2.2.1 HL.out.2.2.1 HL.out.2.2.1).mono ?_;rintro en u5 ⟨vxx,rfl,exx,gr5⟩;obtain⟨q0,q1,q2,q3,q4⟩:=CC.out _ (((A4.out.1.trans (zzz u4 _ .none))).trans gr5);have A5:=Lz (And.intro (((A4.out.1.trans (zzz u4 _ .none))).trans gr5) (And.intro (A4.out.2.1.kept ((zzz u4 _ .none).trans gr5)) (And.intro (A4.out.2.2.1.kept ((zzz u4 _ .none).trans gr5)) (And.intro (A4.out.2.2.2.1.kept ((zzz u4 _ .none).trans gr5)) (And.intro (A4.out.2.2.2.2.kept ((zzz u4 _ .none).trans gr5)) ((exx)))))));obtain⟨pxx,cxx,rfl,-⟩:=exx;clear gr5))
 go_upto_region 8 with fail
 go_region_held3 (λw'=>w'.cell? ⟨w.heap.size+1+1+1,0,.none⟩=some (.slice pf (bd P).length cf)/\w'.cell? ⟨w.heap.size+1,0,.none⟩=some (.slice px (bd x).length cx)/\w'.cell? ⟨w.heap.size+1,1,.none⟩=some (.slice py (bd y).length cy)/\w'.cell? ⟨w.heap.size+1,2,.none⟩=some (.slice pz (bd z).length cz)/\w'.cell? ⟨w.heap.size,1,.none⟩=some (.slice pA (bd A).length cA)) (go_keep) (first|(go_at_call 63;refine(subE HN.out.2.2.2.2.2.2.2.2.2.2.2.1 HP.out (DD.out _ A11.out.1).1 A11.out.2.2.2.2.2.2.2.2.2.2.1 A11.out.2.2.2.2.2.2.2.2.2.2.2 HL.out.2.2.2.2.2.2.2.2.2.2.2.2.2.2.1 HL.out.2.2.2.2.2.2.2.2.2.2.2.2.2.2.2.1).mono ?_;rintro en u12 ⟨vrx,rfl,erx,gr12⟩;obtain⟨q0,q1,q2,q3,q4⟩:=CC.out _ ((A11.out.1).trans gr12);have A12:=Lz (And.intro ((A11.out.1).trans gr12) (And.intro (A11.out.2.1.kept gr12) (And.intro (A11.out.2.2.1.kept gr12) (And.intro (A11.out.2.2.2.1.kept gr12) (And.intro (A11.out.2.2.2.2.1.kept gr12) (And.intro (A11.out.2.2.2.2.2.1.kept gr12) (And.intro (A11.out.2.2.2.2.2.2.1.kept gr12) (And.intro (A11.out.2.2.2.2.2.2.2.1.kept gr12) (And.intro (A11.out.2.2.2.2.2.2.2.2.1.kept gr12) (And.intro (A11.out.2.2.2.2.2.2.2.2.2.1.kept gr12) (And.intro (A11.out.2.2.2.2.2.2.2.2.2.2.1.kept gr12) (And.intro (A11.out.2.2.2.2.2.2.2.2.2.2.2.kept gr12) ((erx))))))))))))));obtain⟨prx,crx,rfl,-⟩:=erx;clear gr12)|(go_at_call 65;refine(addE HN.out.2.2.2.2.2.2.2.2.2.2.1 HP.out (DD.out _ A10.out.1).1 A10.out.2.2.2.1 A10.out.2.2.2.1 HL.out.2.2.2.2.2.2.2.1 HL.out.2.2.2.2.2.2.2.1).mono ?_;rintro en u11 ⟨vss,rfl,ess,gr11⟩;obtain⟨q0,q1,q2,q3,q4⟩:=CC.out _ ((A10.out.1).trans gr11);have A11:=Lz (And.intro ((A10.out.1).trans gr11) (And.intro (A10.out.2.1.kept gr11) (And.intro (A10.out.2.2.1.kept gr11) (And.intro (A10.out.2.2.2.1.kept gr11) (And.intro (A10.out.2.2.2.2.1.kept gr11) (And.intro (A10.out.2.2.2.2.2.1.kept gr11) (And.intro (A10.out.2.2.2.2.2.2.1.kept gr11) (And.intro (A10.out.2.2.2.2.2.2.2.1.kept gr11) (And.intro (A10.out.2.2.2.2.2.2.2.2.1.kept gr11) (And.intro (A10.out.2.2.2.2.2.2.2.2.2.1.kept gr11) (And.intro (A10.out.2.2.2.2.2.2.2.2.2.2.kept gr11) ((ess)))))))))))));obtain⟨pss,css,rfl,-⟩:=ess;clear gr11)|(go_at_call 64;refine(mulE HN.out.2.2.2.2.2.2.2.2.2.1 HP.out (DD.out _ (A9.out.1.trans (zzz u9 _ .none))).1 (A9.out.2.2.2.2.2.2.2.2.2.kept (zzz u9 _ .none)) (A9.out.2.2.2.2.2.2.2.2.2.kept (zzz u9 _ .none)) HL.out.2.2.2.2.2.2.2.2.2.2.2.2.2.1 HL.out.2.2.2.2.2.2.2.2.2.2.2.2.2.1).mono ?_;rintro en u10 ⟨vmm,rfl,emm,gr10⟩;obtain⟨q0,q1,q2,q3,q4⟩:=CC.out _ (((A9.out.1.trans (zzz u9 _ .none))).trans gr10);have A10:=Lz (And.intro (((A9.out.1.trans (zzz u9 _ .none))).trans gr10) (And.intro (A9.out.2.1.kept ((zzz u9 _ .none).trans gr10)) (And.intro (A9.out.2.2.1.kept ((zzz u9 _ .none).trans gr10)) (And.intro (A9.out.2.2.2.1.kept ((zzz u9 _ .none).trans gr10)) (And.intro (A9.out.2.2.2.2.1.kept ((zzz u9 _ .none).trans gr10)) (And.intro (A9.out.2.2.2.2.2.1.kept ((zzz u9 _ .none).trans gr10)) (And.intro (A9.out.2.2.2.2.2.2.1.kept ((zzz u9 _ .none).trans gr10)) (And.intro (A9.out.2.2.2.2.2.2.2.1.kept ((zzz u9 _ .none).trans gr10)) (And.intro (A9.out.2.2.2.2.2.2.2.2.1.kept ((zzz u9 _ .none).trans gr10)) (And.intro (A9.out.2.2.2.2.2.2.2.2.2.kept ((zzz u9 _ .none).trans gr10)) ((emm))))))))))));obtain⟨pmm,cmm,rfl,-⟩:=emm;clear gr10))
 go_upto_region 9 with fail
 go_region_held3 (λw'=>w'.cell? ⟨w.heap.size+1+1+1,0,.none⟩=some (.slice pf (bd P).length cf)/\w'.cell? ⟨w.heap.size+1,0,.none⟩=some (.slice px (bd x).length cx)/\w'.cell? ⟨w.heap.size+1,1,.none⟩=some (.slice py (bd y).length cy)/\w'.cell? ⟨w.heap.size+1,2,.none⟩=some (.slice pz (bd z).length cz)/\w'.cell? ⟨w.heap.size,1,.none⟩=some (.slice pA (bd A).length cA)) (go_keep) (first|(go_at_call 63;refine(subE HN.out.2.2.2.2.2.2.2.2.2.2.2.2.2.2.2.2.1 HP.out (DD.out _ A16.out.1).1 A16.out.2.2.2.2.2.2.2.2.2.2.2.2.2.2.1 A16.out.2.2.2.2.2.2.2.2.2.2.2.2.2.2.2.2 HL.out.2.2.2.2.2.2.2.2.2.2.2.2.2.2.2.2.2.2.1 HL.out.2.2.2.2.2.2.2.2.2.2.2.2.2.2.2.2.2.2.2.2.1).mono ?_;rintro en u17 ⟨vry,rfl,ery,gr17⟩;obtain⟨q0,q1,q2,q3,q4⟩:=CC.out _ ((A16.out.1).trans gr17);have A17:=Lz (And.intro ((A16.out.1).trans gr17) (And.intro (A16.out.2.1.kept gr17) (And.intro (A16.out.2.2.1.kept gr17) (And.intro (A16.out.2.2.2.1.kept gr17) (And.intro (A16.out.2.2.2.2.1.kept gr17) (And.intro (A16.out.2.2.2.2.2.1.kept gr17) (And.intro (A16.out.2.2.2.2.2.2.1.kept gr17) (And.intro (A16.out.2.2.2.2.2.2.2.1.kept gr17) (And.intro (A16.out.2.2.2.2.2.2.2.2.1.kept gr17) (And.intro (A16.out.2.2.2.2.2.2.2.2.2.1.kept gr17) (And.intro (A16.out.2.2.2.2.2.2.2.2.2.2.1.kept gr17) (And.intro (A16.out.2.2.2.2.2.2.2.2.2.2.2.1.kept gr17) (And.intro (A16.out.2.2.2.2.2.2.2.2.2.2.2.2.1.kept gr17) (And.intro (A16.out.2.2.2.2.2.2.2.2.2.2.2.2.2.1.kept gr17) (And.intro (A16.out.2.2.2.2.2.2.2.2.2.2.2.2.2.2.1.kept gr17) (And.intro (A16.out.2.2.2.2.2.2.2.2.2.2.2.2.2.2.2.1.kept gr17) (And.intro (A16.out.2.2.2.2.2.2.2.2.2.2.2.2.2.2.2.2.kept gr17) ((ery)))))))))))))))))));obtain⟨pry,cry,rfl,-⟩:=ery;clear gr17)|(go_at_call 112;refine(timesE HN.out.2.2.2.2.2.2.2.2.2.2.2.2.2.2.2.1 HP.out (DD.out _ A15.out.1).1 A15.out.2.2.2.2.2.2.2.2.2.2.2.2.2.2.2 HL.out.2.2.2.2.2.2.2.2.2.2.2.2.2.2.2.2.2.2.2.1 (by decide) (by decide) (by have:=HP9.out;omega)).mono ?_;rintro en u16 ⟨vy8,rfl,ey8,gr16⟩;obtain⟨q0,q1,q2,q3,q4⟩:=CC.out _ ((A15.out.1).trans gr16);have A16:=Lz (And.intro ((A15.out.1).trans gr16) (And.intro (A15.out.2.1.kept gr16) (And.intro (A15.out.2.2.1.kept gr16) (And.intro (A15.out.2.2.2.1.kept gr16) (And.intro (A15.out.2.2.2.2.1.kept gr16) (And.intro (A15.out.2.2.2.2.2.1.kept gr16) (And.intro (A15.out.2.2.2.2.2.2.1.kept gr16) (And.intro (A15.out.2.2.2.2.2.2.2.1.kept gr16) (And.intro (A15.out.2.2.2.2.2.2.2.2.1.kept gr16) (And.intro (A15.out.2.2.2.2.2.2.2.2.2.1.kept gr16) (And.intro (A15.out.2.2.2.2.2.2.2.2.2.2.1.kept gr16) (And.intro (A15.out.2.2.2.2.2.2.2.2.2.2.2.1.kept gr16) (And.intro (A15.out.2.2.2.2.2.2.2.2.2.2.2.2.1.kept gr16) (And.intro (A15.out.2.2.2.2.2.2.2.2.2.2.2.2.2.1.kept gr16) (And.intro (A15.out.2.2.2.2.2.2.2.2.2.2.2.2.2.2.1.kept gr16) (And.intro (A15.out.2.2.2.2.2.2.2.2.2.2.2.2.2.2.2.kept gr16) ((ey8))))))))))))))))));obtain⟨py8,cy8,rfl,-⟩:=ey8;clear gr16)|(go_at_call 64;refine(mulE HN.out.2.2.2.2.2.2.2.2.2.2.2.2.2.2.1 HP.out (DD.out _ A14.out.1).1 A14.out.2.1 A14.out.2.1 HL.out.2.2.2.2.2.1 HL.out.2.2.2.2.2.1).mono ?_;rintro en u15 ⟨vy4,rfl,ey4,gr15⟩;obtain⟨q0,q1,q2,q3,q4⟩:=CC.out _ ((A14.out.1).trans gr15);have A15:=Lz (And.intro ((A14.out.1).trans gr15) (And.intro (A14.out.2.1.kept gr15) (And.intro (A14.out.2.2.1.kept gr15) (And.intro (A14.out.2.2.2.1.kept gr15) (And.intro (A14.out.2.2.2.2.1.kept gr15) (And.intro (A14.out.2.2.2.2.2.1.kept gr15) (And.intro (A14.out.2.2.2.2.2.2.1.kept gr15) (And.intro (A14.out.2.2.2.2.2.2.2.1.kept gr15) (And.intro (A14.out.2.2.2.2.2.2.2.2.1.kept gr15) (And.intro (A14.out.2.2.2.2.2.2.2.2.2.1.kept gr15) (And.intro (A14.out.2.2.2.2.2.2.2.2.2.2.1.kept gr15) (And.intro (A14.out.2.2.2.2.2.2.2.2.2.2.2.1.kept gr15) (And.intro (A14.out.2.2.2.2.2.2.2.2.2.2.2.2.1.kept gr15) (And.intro (A14.out.2.2.2.2.2.2.2.2.2.2.2.2.2.1.kept gr15) (And.intro (A14.out.2.2.2.2.2.2.2.2.2.2.2.2.2.2.kept gr15) ((ey4)))))))))))))))));obtain⟨py4,cy4,rfl,-⟩:=ey4;clear gr15)|(go_at_call 64;refine(mulE HN.out.2.2.2.2.2.2.2.2.2.2.2.2.2.1 HP.out (DD.out _ A13.out.1).1 A13.out.2.2.2.2.2.2.2.2.2.1 A13.out.2.2.2.2.2.2.2.2.2.2.2.2.2 HL.out.2.2.2.2.2.2.2.2.2.2.2.2.2.1 HL.out.2.2.2.2.2.2.2.2.2.2.2.2.2.2.2.2.2.1).mono ?_;rintro en u14 ⟨vmd,rfl,emd,gr14⟩;obtain⟨q0,q1,q2,q3,q4⟩:=CC.out _ ((A13.out.1).trans gr14);have A14:=Lz (And.intro ((A13.out.1).trans gr14) (And.intro (A13.out.2.1.kept gr14) (And.intro (A13.out.2.2.1.kept gr14) (And.intro (A13.out.2.2.2.1.kept gr14) (And.intro (A13.out.2.2.2.2.1.kept gr14) (And.intro (A13.out.2.2.2.2.2.1.kept gr14) (And.intro (A13.out.2.2.2.2.2.2.1.kept gr14) (And.intro (A13.out.2.2.2.2.2.2.2.1.kept gr14) (And.intro (A13.out.2.2.2.2.2.2.2.2.1.kept gr14) (And.intro (A13.out.2.2.2.2.2.2.2.2.2.1.kept gr14) (And.intro (A13.out.2.2.2.2.2.2.2.2.2.2.1.kept gr14) (And.intro (A13.out.2.2.2.2.2.2.2.2.2.2.2.1.kept gr14) (And.intro (A13.out.2.2.2.2.2.2.2.2.2.2.2.2.1.kept gr14) (And.intro (A13.out.2.2.2.2.2.2.2.2.2.2.2.2.2.kept gr14) ((emd))))))))))))))));obtain⟨pmd,cmd,rfl,-⟩:=emd;clear gr14)|(go_at_call 63;refine(subE HN.out.2.2.2.2.2.2.2.2.2.2.2.2.1 HP.out (DD.out _ (A12.out.1.trans (zzz u12 _ .none))).1 (A12.out.2.2.2.1.kept (zzz u12 _ .none)) (A12.out.2.2.2.2.2.2.2.2.2.2.2.2.kept (zzz u12 _ .none)) HL.out.2.2.2.2.2.2.2.1 HL.out.2.2.2.2.2.2.2.2.2.2.2.2.2.2.2.2.1).mono ?_;rintro en u13 ⟨vsd,rfl,esd,gr13⟩;obtain⟨q0,q1,q2,q3,q4⟩:=CC.out _ (((A12.out.1.trans (zzz u12 _ .none))).trans gr13);have A13:=Lz (And.intro (((A12.out.1.trans (zzz u12 _ .none))).trans gr13) (And.intro (A12.out.2.1.kept ((zzz u12 _ .none).trans gr13)) (And.intro (A12.out.2.2.1.kept ((zzz u12 _ .none).trans gr13)) (And.intro (A12.out.2.2.2.1.kept ((zzz u12 _ .none).trans gr13)) (And.intro (A12.out.2.2.2.2.1.kept ((zzz u12 _ .none).trans gr13)) (And.intro (A12.out.2.2.2.2.2.1.kept ((zzz u12 _ .none).trans gr13)) (And.intro (A12.out.2.2.2.2.2.2.1.kept ((zzz u12 _ .none).trans gr13)) (And.intro (A12.out.2.2.2.2.2.2.2.1.kept ((zzz u12 _ .none).trans gr13)) (And.intro (A12.out.2.2.2.2.2.2.2.2.1.kept ((zzz u12 _ .none).trans gr13)) (And.intro (A12.out.2.2.2.2.2.2.2.2.2.1.kept ((zzz u12 _ .none).trans gr13)) (And.intro (A12.out.2.2.2.2.2.2.2.2.2.2.1.kept ((zzz u12 _ .none).trans gr13)) (And.intro (A12.out.2.2.2.2.2.2.2.2.2.2.2.1.kept ((zzz u12 _ .none).trans gr13)) (And.intro (A12.out.2.2.2.2.2.2.2.2.2.2.2.2.kept ((zzz u12 _ .none).trans gr13)) ((esd)))))))))))))));obtain⟨psd,csd,rfl,-⟩:=esd;clear gr13))
 go_upto_region 10 with fail
 go_region_held3 (λw'=>w'.cell? ⟨w.heap.size+1+1+1,0,.none⟩=some (.slice pf (bd P).length cf)/\w'.cell? ⟨w.heap.size+1,0,.none⟩=some (.slice px (bd x).length cx)/\w'.cell? ⟨w.heap.size+1,1,.none⟩=some (.slice py (bd y).length cy)/\w'.cell? ⟨w.heap.size+1,2,.none⟩=some (.slice pz (bd z).length cz)) (go_keep) (first|(go_at_call 112;refine(timesE HN.out.2.2.2.2.2.2.2.2.2.2.2.2.2.2.2.2.2.2 HP.out (DD.out _ A18.out.1).1 A18.out.2.2.2.2.2.2.2.2.2.2.2.2.2.2.2.2.2.2 HL.out.2.2.2.2.2.2.2.2.2.2.2.2.2.2.2.2.2.2.2.2.2.2.1 (by decide) (by decide) (by have:=HP9.out;omega)).mono ?_;rintro en u19 ⟨vrz,rfl,erz,gr19⟩;obtain⟨q0,q1,q2,q3,q4⟩:=CC.out _ ((A18.out.1).trans gr19);have hb:=BL.out _ ((A18.out.1).trans gr19);have r0:=zzv (k:=0) hb rfl;have r1:=zzv (k:=1) hb rfl;have r2:=zzv (k:=2) hb rfl;have z0:=zxq hb 0;have z1:=zxq hb 1;have z2:=zxq hb 2;have HB:=Lz hb;clear hb;have A19:=Lz (And.intro ((A18.out.1).trans gr19) (And.intro (A18.out.2.1.kept gr19) (And.intro (A18.out.2.2.1.kept gr19) (And.intro (A18.out.2.2.2.1.kept gr19) (And.intro (A18.out.2.2.2.2.1.kept gr19) (And.intro (A18.out.2.2.2.2.2.1.kept gr19) (And.intro (A18.out.2.2.2.2.2.2.1.kept gr19) (And.intro (A18.out.2.2.2.2.2.2.2.1.kept gr19) (And.intro (A18.out.2.2.2.2.2.2.2.2.1.kept gr19) (And.intro (A18.out.2.2.2.2.2.2.2.2.2.1.kept gr19) (And.intro (A18.out.2.2.2.2.2.2.2.2.2.2.1.kept gr19) (And.intro (A18.out.2.2.2.2.2.2.2.2.2.2.2.1.kept gr19) (And.intro (A18.out.2.2.2.2.2.2.2.2.2.2.2.2.1.kept gr19) (And.intro (A18.out.2.2.2.2.2.2.2.2.2.2.2.2.2.1.kept gr19) (And.intro (A18.out.2.2.2.2.2.2.2.2.2.2.2.2.2.2.1.kept gr19) (And.intro (A18.out.2.2.2.2.2.2.2.2.2.2.2.2.2.2.2.1.kept gr19) (And.intro (A18.out.2.2.2.2.2.2.2.2.2.2.2.2.2.2.2.2.1.kept gr19) (And.intro (A18.out.2.2.2.2.2.2.2.2.2.2.2.2.2.2.2.2.2.1.kept gr19) (And.intro (A18.out.2.2.2.2.2.2.2.2.2.2.2.2.2.2.2.2.2.2.kept gr19) ((erz)))))))))))))))))))));obtain⟨prz,crz,rfl,-⟩:=erz;clear gr19)|(go_at_call 64;refine(mulE HN.out.2.2.2.2.2.2.2.2.2.2.2.2.2.2.2.2.2.1 HP.out (DD.out _ (A17.out.1.trans (zzz u17 _ .none))).1 (DD.out _ (A17.out.1.trans (zzz u17 _ .none))).2.2.2.2.1 (DD.out _ (A17.out.1.trans (zzz u17 _ .none))).2.2.2.2.2 HL.out.2.2.2.1 HL.out.2.2.2.2.1).mono ?_;rintro en u18 ⟨vyz,rfl,eyz,gr18⟩;obtain⟨q0,q1,q2,q3,q4⟩:=CC.out _ (((A17.out.1.trans (zzz u17 _ .none))).trans gr18);have A18:=Lz (And.intro (((A17.out.1.trans (zzz u17 _ .none))).trans gr18) (And.intro (A17.out.2.1.kept ((zzz u17 _ .none).trans gr18)) (And.intro (A17.out.2.2.1.kept ((zzz u17 _ .none).trans gr18)) (And.intro (A17.out.2.2.2.1.kept ((zzz u17 _ .none).trans gr18)) (And.intro (A17.out.2.2.2.2.1.kept ((zzz u17 _ .none).trans gr18)) (And.intro (A17.out.2.2.2.2.2.1.kept ((zzz u17 _ .none).trans gr18)) (And.intro (A17.out.2.2.2.2.2.2.1.kept ((zzz u17 _ .none).trans gr18)) (And.intro (A17.out.2.2.2.2.2.2.2.1.kept ((zzz u17 _ .none).trans gr18)) (And.intro (A17.out.2.2.2.2.2.2.2.2.1.kept ((zzz u17 _ .none).trans gr18)) (And.intro (A17.out.2.2.2.2.2.2.2.2.2.1.kept ((zzz u17 _ .none).trans gr18)) (And.intro (A17.out.2.2.2.2.2.2.2.2.2.2.1.kept ((zzz u17 _ .none).trans gr18)) (And.intro (A17.out.2.2.2.2.2.2.2.2.2.2.2.1.kept ((zzz u17 _ .none).trans gr18)) (And.intro (A17.out.2.2.2.2.2.2.2.2.2.2.2.2.1.kept ((zzz u17 _ .none).trans gr18)) (And.intro (A17.out.2.2.2.2.2.2.2.2.2.2.2.2.2.1.kept ((zzz u17 _ .none).trans gr18)) (And.intro (A17.out.2.2.2.2.2.2.2.2.2.2.2.2.2.2.1.kept ((zzz u17 _ .none).trans gr18)) (And.intro (A17.out.2.2.2.2.2.2.2.2.2.2.2.2.2.2.2.1.kept ((zzz u17 _ .none).trans gr18)) (And.intro (A17.out.2.2.2.2.2.2.2.2.2.2.2.2.2.2.2.2.1.kept ((zzz u17 _ .none).trans gr18)) (And.intro (A17.out.2.2.2.2.2.2.2.2.2.2.2.2.2.2.2.2.2.kept ((zzz u17 _ .none).trans gr18)) ((eyz))))))))))))))))))));obtain⟨pyz,cyz,rfl,-⟩:=eyz;clear gr18))
 have ST:=Lz (store3 (vx:=.slice prx (bd rx).length crx) (vy:=.slice pry (bd ry).length cry) (vz:=.slice prz (bd rz).length crz) (G0.out.trans A19.out.1) HB.out (λk=>⟨by simp,by simp,by simp⟩) (by omega))
 have HF:=Lz (show TrP rx ry rz w (.returned (.agg #[.slice prx (bd rx).length crx,.slice pry (bd ry).length cry,.slice prz (bd rz).length crz])) _ from⟨_,_,_,rfl,ST.out.2.2 _ _ A19.out.2.2.2.2.2.2.2.2.2.2.2.2.1,ST.out.2.2 _ _ A19.out.2.2.2.2.2.2.2.2.2.2.2.2.2.2.2.2.2.1,ST.out.2.2 _ _ A19.out.2.2.2.2.2.2.2.2.2.2.2.2.2.2.2.2.2.2.2,ST.out.2.1⟩)
 have HC:=Lz (three ST.out.1 (zyz _ _))
 go_wp2_with fail
 obtain⟨c0,c1,c2⟩:=HC.out
 simp[bodyPost,results,Tryz.results67,go_sem,c0,c1,c2]
 exact HF.out
end Go.Proofs.YtohhkjamddojmaaGreatDoor.Bit

set_option maxRecDepth 100000
set_option maxHeartbeats 16000000
namespace Go.Proofs.YtohhkjamddojmaaGreatDoor.Bit
open Go.RowKit
open Big
theorem twiceZ {w:World} {f va vb vx vy vz:Value} {P A B x y z:Nat} (hf:Dg w f P) (dA:Dg w va A) (dB:Dg w vb B) (dx:Dg w vx x) (dy:Dg w vy y) (dz:Dg w vz z) (hzy:z=0\/y=0) :
 Calls Tryz.prog 67 #[.agg #[f,va,vb],.agg #[vx,vy,vz]] w (TrP 1 1 0 w):=by
 have iz:=@one_len z
 have iy:=@one_len y
 obtain⟨pf,cf,rfl,-⟩:=id hf
 obtain⟨pA,cA,rfl,-⟩:=id dA
 obtain⟨pB,cB,rfl,-⟩:=id dB
 obtain⟨px,cx,rfl,-⟩:=id dx
 obtain⟨py,cy,rfl,-⟩:=id dy
 obtain⟨pz,cz,rfl,-⟩:=id dz
 have s1:(w.alloc (.cells #[(.slice pf (bd P).length cf),(.slice pA (bd A).length cA),(.slice pB (bd B).length cB)] 47)).heap.size=w.heap.size+1:=Array.size_push _
 have s2:((w.alloc (.cells #[(.slice pf (bd P).length cf),(.slice pA (bd A).length cA),(.slice pB (bd B).length cB)] 47)).alloc (.cells #[(.slice px (bd x).length cx),(.slice py (bd y).length cy),(.slice pz (bd z).length cz)] 120)).heap.size=w.heap.size+1+1:=(Array.size_push _).trans (by rw[s1])
 have s3:(((w.alloc (.cells #[(.slice pf (bd P).length cf),(.slice pA (bd A).length cA),(.slice pB (bd B).length cB)] 47)).alloc (.cells #[(.slice px (bd x).length cx),(.slice py (bd y).length cy),(.slice pz (bd z).length cz)] 120)).alloc (.cells #[.slice (some ⟨w.heap.size+1+1+1+1,0,.none⟩) 1 1,.slice (some ⟨w.heap.size+1+1+1+1+1,0,.none⟩) 1 1,.slice .none 0 0] 120)).heap.size=w.heap.size+1+1+1:=(Array.size_push _).trans (by rw[s2])
 have s4:((((w.alloc (.cells #[(.slice pf (bd P).length cf),(.slice pA (bd A).length cA),(.slice pB (bd B).length cB)] 47)).alloc (.cells #[(.slice px (bd x).length cx),(.slice py (bd y).length cy),(.slice pz (bd z).length cz)] 120)).alloc (.cells #[.slice (some ⟨w.heap.size+1+1+1+1,0,.none⟩) 1 1,.slice (some ⟨w.heap.size+1+1+1+1+1,0,.none⟩) 1 1,.slice .none 0 0] 120)).alloc (.cells #[(.slice pf (bd P).length cf)] 39)).heap.size=w.heap.size+1+1+1+1:=(Array.size_push _).trans (by rw[s3])
 have n3:=heap_alloc_new ((w.alloc (.cells #[(.slice pf (bd P).length cf),(.slice pA (bd A).length cA),(.slice pB (bd B).length cB)] 47)).alloc (.cells #[(.slice px (bd x).length cx),(.slice py (bd y).length cy),(.slice pz (bd z).length cz)] 120)) (.cells #[.slice (some ⟨w.heap.size+1+1+1+1,0,.none⟩) 1 1,.slice (some ⟨w.heap.size+1+1+1+1+1,0,.none⟩) 1 1,.slice .none 0 0] 120)
 rw[s2] at n3
 have T:=two_ones _ _ s4
 have HC:=Lz (three n3 ((zzy _ (.cells #[(.slice pf (bd P).length cf)] 39) .none).trans T.2.2))
 have HF:=Lz (show TrP 1 1 0 w _ _ from⟨_,_,_,rfl,T.1,T.2.1,dg_nil0 _,(zzy _ _ .none).trans ((zzy _ _ .none).trans ((zzy _ _ .none).trans ((zzy _ _ .none).trans T.2.2)))⟩)
 clear hf dA dB dx dy dz s1 s2 s3 s4 n3 T
 by_cases hz:z=0
 . rw[decide_eq_true hz] at iz
   clear hzy hz iy
   go_enter Tryz.func67,Tryz.ntmps67
   go_wp2_with fail
   go_wp2_with fail
   obtain⟨c0,c1,c2⟩:=HC.out
   simp[bodyPost,results,Tryz.results67,go_sem,c0,c1,c2]
   exact HF.out
 . have hy:y=0:=hzy.resolve_left hz
   rw[decide_eq_false hz] at iz
   rw[decide_eq_true hy] at iy
   clear hzy hz hy
   go_enter Tryz.func67,Tryz.ntmps67
   go_wp2_with fail
   go_wp2_with fail
   obtain⟨c0,c1,c2⟩:=HC.out
   simp[bodyPost,results,Tryz.results67,go_sem,c0,c1,c2]
   exact HF.out
theorem twiceT {w:World} {f va vb vx vy vz:Value} {P A B x y z:Nat} (hP:Fd P) (h9:8<P) (hf:Dg w f P) (dA:Dg w va A) (dB:Dg w vb B) (dx:Dg w vx x) (dy:Dg w vy y) (dz:Dg w vz z) (lA:A<P) (lB:B<P) (lx:x<P) (ly:y<P) (lz:z<P) :
 Calls Tryz.prog 67 #[.agg #[f,va,vb],.agg #[vx,vy,vz]] w (TrP (twN P A x y z).1 (twN P A x y z).2.1 (twN P A x y z).2.2 w):=by
 by_cases h:z=0\/y=0
 . have e:twN P A x y z=(1,1,0):=by unfold twN;rw[if_pos h]
   rw[e]
   exact twiceZ hf dA dB dx dy dz h
 . exact twiceS hP h9 hf dA dB dx dy dz lA lB lx ly lz h
end Go.Proofs.YtohhkjamddojmaaGreatDoor.Bit
