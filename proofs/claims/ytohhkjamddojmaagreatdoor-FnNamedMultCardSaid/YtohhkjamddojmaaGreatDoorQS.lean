/- Named: the numbers of a curve as bytes. What the laws of the named curves need: bytes copied, bytes without zeros ahead, the order's last byte. The law FnNamedOrder. The law FnNamedDouble. -/
import Derived.Test.YtohhkjamddojmaaGreatDoorQJ
import Derived.Test.YtohhkjamddojmaaGreatDoorBN
import Derived.Test.YtohhkjamddojmaaGreatDoorQA
import Derived.Laws.BitsAllLaws
import Derived.Test.YtohhkjamddojmaaGreatDoorBR
set_option maxRecDepth 100000
set_option maxHeartbeats 16000000
namespace Go.Proofs.YtohhkjamddojmaaGreatDoor.Bit
open Go.RowKit
open Big EcLaw
attribute [local go_sem] ptr
attribute [local irreducible] Sz
section
variable {R : Nat → Prop} {w0 w w' : World} {L L' : List (Nat × Int)}
def Bys (K:Nat->Prop) (w1 w':World) (L:List (Nat×Int)) (B:List (Nat×Value×Nat)):Prop:=
 Kept K w1 w'/\Own (λk=>K k\/∃ x,x∈B/\k=x.1) w' w' L/\∀ x,x∈B->ByV w' x.1 x.2.1 x.2.2/\w1.heap.size<=x.1
theorem Bys.start {K:Nat->Prop} (h:Own K w w L):Bys K w w L []:=by
 refine⟨Kept.refl _ _,?_,by simp⟩
 have:(λk=>K k\/∃ x:Nat×Value×Nat,x∈[]/\k=x.1)=K:=by funext k;simp
 rw[this];exact h
theorem Bys.drew {K:Nat->Prop} {B:List (Nat×Value×Nat)} (h:Bys K w w' L B) (n:Nat):Bys K w (w'.drewN n) L B:=
 ⟨h.1.trans (Kept.drew _ _ _),(h.2.1.drew n).since,λx hx=>⟨(h.2.2 x hx).1.kept (Kept.drew (λk=>K k\/∃ x,x∈B/\k=x.1) _ _) (.inr ⟨x,hx,rfl⟩),(h.2.2 x hx).2⟩⟩
theorem Bys.next {K:Nat->Prop} {B:List (Nat×Value×Nat)} (h:Bys K w w' L B) (j:Nat) {x:Nat} (n:Nat) (hj:L[j]? = some (x,(n:Int))) (hn:n<B64^4) :
 Calls Tryz.prog 57 #[ptr x] w' (λe w''=>∃ g o l,e=.returned (.slice (some ⟨g,o,.none⟩) l l)/\Bys K w w'' L ((g,.slice (some ⟨g,o,.none⟩) l l,n) :: B)):=by
 refine(intBytesN h.2.1 j n hj (dg_four hn)).mono ?_
 rintro e w3 ⟨g,o,ks,rfl,a1,a2,a3,a4,a5,a6,a7,a8⟩
 refine⟨g,o,ks.length,rfl,h.1.trans (a1.kept.weaken (λ_ _ hn hk=>hn (.inl hk))),?_,?_⟩
 . have:(λk=>K k\/∃ x:Nat×Value×Nat,x∈(g,Value.slice (some ⟨g,o,.none⟩) ks.length ks.length,n) :: B/\k=x.1)=RO (λk=>K k\/∃ x,x∈B/\k=x.1) g:=by
    funext k
    apply propext
    simp only[RO,List.mem_cons]
    constructor
    . rintro(h|⟨x,rfl|h,e⟩)
      . exact .inl (.inl h)
      . exact .inr e
      . exact .inl (.inr ⟨x,h,e⟩)
    . rintro((h|⟨x,h,e⟩)|e)
      . exact .inl h
      . exact .inr ⟨x,.inr h,e⟩
      . exact .inr ⟨_,.inl rfl,e⟩
   rw[this];exact a2
 . intro x hx
   rcases List.mem_cons.1 hx with rfl|hx
   . exact⟨ByV.of a2 a3 a4 a5 a6 (by have:=dg_four hn;omega),Nat.le_trans h.1.size a8⟩
   . exact⟨(h.2.2 x hx).1.kept a1.kept (.inr ⟨x,hx,rfl⟩),(h.2.2 x hx).2⟩
def NamedP (R:Nat->Prop) (w:World) (c:Nums) (bits:Nat) (e:Ending) (w':World):Prop:=
 ∃ vP vN vB vX vY gP gN gB gX gY,e=.returned (.tuple #[.agg #[vP,vN,vB,vX,vY,.int .i64 (bits:Nat)],.bool true])/\Kept R w w'/\Own R w' w' [] ∧
  (ByV w' gP vP c.p/\ByV w' gN vN c.n/\ByV w' gB vB c.b/\ByV w' gX vX c.x/\ByV w' gY vY c.y)/\w.heap.size<=gP/\w.heap.size<=gN/\w.heap.size<=gB/\w.heap.size<=gX/\w.heap.size<=gY
theorem set6 {w:World} {b:Nat} {a0 a1 a2 a3 a4 a5 v0 v1 v2 v3 v4 v5:Value} {T:TypeId} (h:w.heap[b]? = some (.cells #[a0,a1,a2,a3,a4,a5] T)) :
 ((((((w.setCell ⟨b,0,.none⟩ v0).setCell ⟨b,1,.none⟩ v1).setCell ⟨b,2,.none⟩ v2).setCell ⟨b,3,.none⟩ v3).setCell ⟨b,4,.none⟩ v4).setCell ⟨b,5,.none⟩ v5).heap[b]? = some (.cells #[v0,v1,v2,v3,v4,v5] T):=by
 simp only[World.setCell,Array.getElem?_modify,if_true]
 rw[h]
 simp
theorem kept_at {w:World} {b o:Nat} {v:Value} (hb:¬R b):Kept R w (w.setCell ⟨b,o,.none⟩ v):=(Grow.of (zzw w b o v)).weaken (λk _ e=>by cases e;exact hb)
theorem kept6 {w:World} {b:Nat} {v0 v1 v2 v3 v4 v5:Value} (hb:¬R b) :
 Kept R w ((((((w.setCell ⟨b,0,.none⟩ v0).setCell ⟨b,1,.none⟩ v1).setCell ⟨b,2,.none⟩ v2).setCell ⟨b,3,.none⟩ v3).setCell ⟨b,4,.none⟩ v4).setCell ⟨b,5,.none⟩ v5):=
 (((((kept_at hb).trans (kept_at hb)).trans (kept_at hb)).trans (kept_at hb)).trans (kept_at hb)).trans (kept_at hb)
theorem named_end {bits cc gP gN gB gX gY:Nat} {vP vN vB vX vY:Value} {c:Nums} {v5 w1:World} {o:Obj} (h:Own R w0 w []) (hn:¬R w.heap.size) (k0:Kept R w (w.alloc o)) (k1:Kept (RO R w.heap.size) (w.alloc o) w1)
 (H:Bys (RO (RO R w.heap.size) cc) w1 v5 L [(gY,vY,c.y),(gX,vX,c.x),(gB,vB,c.b),(gN,vN,c.n),(gP,vP,c.p)]) :
 NamedP R w c bits (.returned (.tuple #[.agg #[vP,vN,vB,vX,vY,.int .i64 (bits:Nat)],.bool true])) ((((((v5.setCell ⟨w.heap.size,0,.none⟩ vP).setCell ⟨w.heap.size,1,.none⟩ vN).setCell ⟨w.heap.size,2,.none⟩ vB).setCell ⟨w.heap.size,3,.none⟩ vX).setCell ⟨w.heap.size,4,.none⟩ vY).setCell ⟨w.heap.size,5,.none⟩ (.int .i64 (bits:Nat))):=by
 have hs:(w.alloc o).heap.size=w.heap.size+1:=Array.size_push _
 have hz:=k1.size
 rw[hs] at hz
 obtain⟨b1,z1⟩:=H.2.2 _ (.head _)
 obtain⟨b2,z2⟩:=H.2.2 _ (.tail _ (.head _))
 obtain⟨b3,z3⟩:=H.2.2 _ (.tail _ (.tail _ (.head _)))
 obtain⟨b4,z4⟩:=H.2.2 _ (.tail _ (.tail _ (.tail _ (.head _))))
 obtain⟨b5,z5⟩:=H.2.2 _ (.tail _ (.tail _ (.tail _ (.tail _ (.head _)))))
 simp only at b1 b2 b3 b4 b5 z1 z2 z3 z4 z5
 have kk:Kept R w v5:=k0.trans (k1.ro.trans (H.1.weaken (λ_ _ hn hk=>hn (.inl (.inl hk)))))
 have ke:=kk.trans (kept6 (v0:=vP) (v1:=vN) (v2:=vB) (v3:=vX) (v4:=vY) (v5:=.int .i64 (bits:Nat)) hn)
 have one:∀ {g n:Nat} {v:Value},ByV v5 g v n->w1.heap.size<=g->ByV ((((((v5.setCell ⟨w.heap.size,0,.none⟩ vP).setCell ⟨w.heap.size,1,.none⟩ vN).setCell ⟨w.heap.size,2,.none⟩ vB).setCell ⟨w.heap.size,3,.none⟩ vX).setCell ⟨w.heap.size,4,.none⟩ vY).setCell ⟨w.heap.size,5,.none⟩ (.int .i64 (bits:Nat))) g v n:=
  λ{g n v} b z=>b.kept (kept6 (R:=λk=>k=g) (by omega)) rfl
 exact⟨vP,vN,vB,vX,vY,gP,gN,gB,gX,gY,rfl,ke,(h.turned ke).since,⟨one b5 z5,one b4 z4,one b3 z3,one b2 z2,one b1 z1⟩,by omega,by omega,by omega,by omega,by omega⟩
theorem nums_lt {bits:Nat} {c:Nums} (h:Four bits c):c.p<B64^4/\c.n<B64^4/\c.b<B64^4/\c.x<B64^4/\c.y<B64^4:=by
 cases h <;> decide +kernel
theorem curveNamedO {bits:Nat} {c:Nums} (hf:Four bits c) (h:Own R w0 w []) (ae:Addr) (he:w.cell? ⟨2,0,.none⟩=some (eofV ae)) :
 Calls Tryz.prog 15 #[.int .i64 (bits:Nat)] w (NamedP R w c bits):=by
 have g1:=h.guard (.cells #[.slice .none 0 0,.slice .none 0 0,.slice .none 0 0,.slice .none 0 0,.slice .none 0 0,.int .i64 0] 27)
 have e0:=h.since.box (.cells #[.slice .none 0 0,.slice .none 0 0,.slice .none 0 0,.slice .none 0 0,.slice .none 0 0,.int .i64 0] 27)
 have n0:=heap_alloc_new w (.cells #[.slice .none 0 0,.slice .none 0 0,.slice .none 0 0,.slice .none 0 0,.slice .none 0 0,.int .i64 0] 27)
 have hl2:R 2:=h.low 2 (by omega)
 have C:=Lz (namedO hf g1 ae (e0.kept.cell hl2 he))
 have HF:=Lz (And.intro e0.kept (And.intro n0 (And.intro h.fresh h)))
 have NL:=Lz (nums_lt hf)
 clear h g1 e0 n0 hl2 he hf
 go_enter Tryz.func15,Tryz.ntmps15
 go_wp2_with fail
 refine C.out.mono ?_
 rintro en w1 ⟨cc,zP,zN,zB,zX,zY,nm,rfl,a1,a2,a3,a4⟩
 have HC:=Lz (And.intro a1 (And.intro a2 (And.intro a3 a4)))
 have HB:=Lz (Bys.start a1)
 have K:=Lz (λ(w':World) (k:Kept (RO (RO R w.heap.size) cc) w1 w')=>(⟨k.cell (RO.self _ _) (zzv a3 rfl),k.cell (RO.self _ _) (zzv a3 rfl),k.cell (RO.self _ _) (zzv a3 rfl),k.cell (RO.self _ _) (zzv a3 rfl),k.cell (RO.self _ _) (zzv a3 rfl),k.cell (RO.self _ _) (zzv a3 rfl)⟩ :
  w'.cell? ⟨cc,1,.none⟩=some (ptr zP)/\w'.cell? ⟨cc,2,.none⟩=some (ptr zN)/\w'.cell? ⟨cc,3,.none⟩=some (ptr zB)/\w'.cell? ⟨cc,4,.none⟩=some (ptr zX)/\w'.cell? ⟨cc,5,.none⟩=some (ptr zY)/\w'.cell? ⟨cc,6,.none⟩=some (.int .i64 (bits:Nat))))
 clear a1 a2 a3 a4 C
 have HN0:=Lz (K.out w1 (Kept.refl _ _))
 obtain⟨q1,q2,q3,q4,q5,q6⟩:=HN0.out
 unfold ptr at *
 go_wp2_with fail
 have HK0:=Lz (λ(w':World) (k:Kept (RO (RO R w.heap.size) cc) w1 w')=>(by rw[k.block w.heap.size (by have:=HC.out.2.1.size;have:w.heap.size<(w.alloc (.cells #[.slice .none 0 0,.slice .none 0 0,.slice .none 0 0,.slice .none 0 0,.slice .none 0 0,.int .i64 0] 27)).heap.size:=(Array.getElem?_eq_some_iff.1 HF.out.2.1).1;omega) (λe=>e (.inl (RO.self _ _)))];exact HC.out.1.block (HC.out.2.1.block _ (Array.getElem?_eq_some_iff.1 HF.out.2.1).1 (λe=>e (RO.self _ _)) ▸ HF.out.2.1) (.inl (RO.self _ _)):w'.heap[w.heap.size]? = some (.cells #[.slice .none 0 0,.slice .none 0 0,.slice .none 0 0,.slice .none 0 0,.slice .none 0 0,.int .i64 0] 27)))
 have HK7:=Lz (λ(w':World) (k:Kept (RO (RO R w.heap.size) cc) w1 w')=>(⟨zzv (HK0.out w' k) rfl,zzv (HK0.out w' k) rfl,zzv (HK0.out w' k) rfl,zzv (HK0.out w' k) rfl,zzv (HK0.out w' k) rfl,zzv (HK0.out w' k) rfl,block_free (HK0.out w' k),block_free (HK0.out w' k),block_free (HK0.out w' k),block_free (HK0.out w' k),block_free (HK0.out w' k),block_free (HK0.out w' k)⟩:w'.cell? ⟨w.heap.size,0,.none⟩=some (.slice .none 0 0)/\w'.cell? ⟨w.heap.size,1,.none⟩=some (.slice .none 0 0)/\w'.cell? ⟨w.heap.size,2,.none⟩=some (.slice .none 0 0)/\w'.cell? ⟨w.heap.size,3,.none⟩=some (.slice .none 0 0)/\w'.cell? ⟨w.heap.size,4,.none⟩=some (.slice .none 0 0)/\w'.cell? ⟨w.heap.size,5,.none⟩=some (.int .i64 0)/\w'.frozen? ⟨w.heap.size,0,.none⟩=false/\w'.frozen? ⟨w.heap.size,1,.none⟩=false/\w'.frozen? ⟨w.heap.size,2,.none⟩=false/\w'.frozen? ⟨w.heap.size,3,.none⟩=false/\w'.frozen? ⟨w.heap.size,4,.none⟩=false/\w'.frozen? ⟨w.heap.size,5,.none⟩=false))
 obtain⟨r0,r1,r2,r3,r4,r5,r6,r7,r8,r9,r10,r11⟩:=HK7.out w1 (Kept.refl _ _)
 clear HN0
 have hne:¬(cc=w.heap.size):=λe=>HC.out.2.2.2 (e ▸ RO.self _ _)
 have hne2:¬(w.heap.size=cc):=λe=>hne e.symm
 go_region_held3 (λw'=>w'.cell? ⟨cc,1,.none⟩=some (.pointer (some ⟨zP,0,.none⟩))/\w'.cell? ⟨cc,2,.none⟩=some (.pointer (some ⟨zN,0,.none⟩))/\w'.cell? ⟨cc,3,.none⟩=some (.pointer (some ⟨zB,0,.none⟩))/\w'.cell? ⟨cc,4,.none⟩=some (.pointer (some ⟨zX,0,.none⟩))/\w'.cell? ⟨cc,5,.none⟩=some (.pointer (some ⟨zY,0,.none⟩))/\w'.cell? ⟨cc,6,.none⟩=some (.int .i64 (bits:Nat))) (go_keep) (first|(go_at_call 57;refine(Bys.next (H4.out) 0 _ rfl NL.out.2.2.2.2).mono ?_;rintro en v5 ⟨gY,oY,lY,rfl,hq⟩;obtain⟨q1,q2,q3,q4,q5,q6⟩:=K.out _ hq.1;obtain⟨r0,r1,r2,r3,r4,r5,r6,r7,r8,r9,r10,r11⟩:=HK7.out _ hq.1;have H5:=Lz hq;clear hq)|(go_at_call 57;refine(Bys.next (H3.out) 1 _ rfl NL.out.2.2.2.1).mono ?_;rintro en v4 ⟨gX,oX,lX,rfl,hq⟩;obtain⟨q1,q2,q3,q4,q5,q6⟩:=K.out _ hq.1;obtain⟨r0,r1,r2,r3,r4,r5,r6,r7,r8,r9,r10,r11⟩:=HK7.out _ hq.1;have H4:=Lz hq;clear hq)|(go_at_call 57;refine(Bys.next (H2.out) 2 _ rfl NL.out.2.2.1).mono ?_;rintro en v3 ⟨gB,oB,lB,rfl,hq⟩;obtain⟨q1,q2,q3,q4,q5,q6⟩:=K.out _ hq.1;obtain⟨r0,r1,r2,r3,r4,r5,r6,r7,r8,r9,r10,r11⟩:=HK7.out _ hq.1;have H3:=Lz hq;clear hq)|(go_at_call 57;refine(Bys.next (H1.out) 3 _ rfl NL.out.2.1).mono ?_;rintro en v2 ⟨gN,oN,lN,rfl,hq⟩;obtain⟨q1,q2,q3,q4,q5,q6⟩:=K.out _ hq.1;obtain⟨r0,r1,r2,r3,r4,r5,r6,r7,r8,r9,r10,r11⟩:=HK7.out _ hq.1;have H2:=Lz hq;clear hq)|(go_at_call 57;refine(Bys.next (HB.out.drew _) 4 _ rfl NL.out.1).mono ?_;rintro en v1 ⟨gP,oP,lP,rfl,hq⟩;obtain⟨q1,q2,q3,q4,q5,q6⟩:=K.out _ hq.1;obtain⟨r0,r1,r2,r3,r4,r5,r6,r7,r8,r9,r10,r11⟩:=HK7.out _ hq.1;have H1:=Lz hq;clear hq))
 all_goals
  obtain⟨wf,hwf⟩:∃ wf,wf=((((((v5.setCell ⟨w.heap.size,0,.none⟩ (.slice (some ⟨gP,oP,.none⟩) lP lP)).setCell ⟨w.heap.size,1,.none⟩ (.slice (some ⟨gN,oN,.none⟩) lN lN)).setCell ⟨w.heap.size,2,.none⟩ (.slice (some ⟨gB,oB,.none⟩) lB lB)).setCell ⟨w.heap.size,3,.none⟩ (.slice (some ⟨gX,oX,.none⟩) lX lX)).setCell ⟨w.heap.size,4,.none⟩ (.slice (some ⟨gY,oY,.none⟩) lY lY)).setCell ⟨w.heap.size,5,.none⟩ (.int .i64 (bits:Nat))):=⟨_,rfl⟩
  have HB6:=set6 (v0:=.slice (some ⟨gP,oP,.none⟩) lP lP) (v1:=.slice (some ⟨gN,oN,.none⟩) lN lN) (v2:=.slice (some ⟨gB,oB,.none⟩) lB lB) (v3:=.slice (some ⟨gX,oX,.none⟩) lX lX) (v4:=.slice (some ⟨gY,oY,.none⟩) lY lY) (v5:=.int .i64 (bits:Nat)) (HK0.out v5 H5.out.1)
  have HE:=Lz (named_end (bits:=bits) HF.out.2.2.2 HF.out.2.2.1 HF.out.1 HC.out.2.1 H5.out)
  rw[<-hwf] at HB6 HE ⊢
  have c0:=zzv (k:=0) HB6 rfl
  have c1:=zzv (k:=1) HB6 rfl
  have c2:=zzv (k:=2) HB6 rfl
  have c3:=zzv (k:=3) HB6 rfl
  have c4:=zzv (k:=4) HB6 rfl
  have c5:=zzv (k:=5) HB6 rfl
  clear hwf HB6 HK0 HK7 HB K HC HF H1 H2 H3 H4 H5 r0 r1 r2 r3 r4 r5 r6 r7 r8 r9 r10 r11
  go_wp2_with fail
  simp[bodyPost,results,Tryz.results15,go_sem,c0,c1,c2,c3,c4,c5]
  exact HE.out
end
end Go.Proofs.YtohhkjamddojmaaGreatDoor.Bit

namespace Go.Proofs.YtohhkjamddojmaaGreatDoor.Bit
open Go.RowKit
open Big EcLaw
theorem bev_lt:∀ (ks:List Nat),(∀ i,ks.getD i 0<256)->bev ks<256^ks.length
 | [],_=>by decide
 | k :: ks,h=>by
  have h0:=h 0
  have:=bev_lt ks (λi=>by have:=h (i+1);simpa [List.getD] using this)
  rw[bev_cons,List.length_cons,Nat.pow_succ]
  simp[List.getD] at h0
  have:k*256^ks.length<=255*256^ks.length:=Nat.mul_le_mul_right _ (by omega)
  omega
theorem bev_inj:∀ (ks ls:List Nat),ks.length=ls.length->(∀ i,ks.getD i 0<256)->(∀ i,ls.getD i 0<256)->bev ks=bev ls->ks=ls
 | [],[],_,_,_,_=>rfl
 | k :: ks,l :: ls,hl,h1,h2,e=>by
  have t1:∀ i,ks.getD i 0<256:=λi=>by have:=h1 (i+1);simpa [List.getD] using this
  have t2:∀ i,ls.getD i 0<256:=λi=>by have:=h2 (i+1);simpa [List.getD] using this
  have hl':ks.length=ls.length:=by simpa using hl
  have b1:=bev_lt ks t1
  have b2:=bev_lt ls t2
  rw[bev_cons,bev_cons,hl'] at e
  rw[hl'] at b1
  have hk:k=l:=by
   have d1:(k*256^ls.length+bev ks)/256^ls.length=k:=by rw[Nat.mul_comm,Nat.mul_add_div (by exact Nat.pow_pos (by decide)),Nat.div_eq_of_lt b1,Nat.add_zero]
   have d2:(l*256^ls.length+bev ls)/256^ls.length=l:=by rw[Nat.mul_comm,Nat.mul_add_div (by exact Nat.pow_pos (by decide)),Nat.div_eq_of_lt b2,Nat.add_zero]
   rw[<-d1,e,d2]
  subst hk
  rw[bev_inj ks ls hl' t1 t2 (by omega)]
theorem bev_low {ks:List Nat} (h:0<ks.length->ks.getD 0 0≠0) (h0:0<ks.length):256^(ks.length-1)<=bev ks:=by
 match ks,h0 with
 | k :: ks,_=>
  have:=h (by simp)
  simp[List.getD] at this
  rw[bev_cons,List.length_cons,Nat.add_sub_cancel]
  have:1*256^ks.length<=k*256^ks.length:=Nat.mul_le_mul_right _ (by omega)
  omega
theorem len_le {ks ls:List Nat} (h1:∀ i,ks.getD i 0<256) (h2:0<ls.length->ls.getD 0 0≠0) (e:bev ks=bev ls):ls.length<=ks.length:=by
 apply Nat.le_of_not_lt
 intro hl
 have a:=bev_lt ks h1
 have b:=bev_low h2 (by omega)
 have:256^ks.length<=256^(ls.length-1):=Nat.pow_le_pow_right (by decide) (by omega)
 omega
theorem canon {ks ls:List Nat} (h1:∀ i,ks.getD i 0<256) (h2:∀ i,ls.getD i 0<256) (c1:0<ks.length->ks.getD 0 0≠0) (c2:0<ls.length->ls.getD 0 0≠0) (e:bev ks=bev ls):ks=ls:=
 bev_inj ks ls (Nat.le_antisymm (len_le h2 c1 e.symm) (len_le h1 c2 e)) h1 h2 e
theorem Sl.rowU {w:World} {g o:Nat} {ks:List Nat} (h:Sl w g o ks):RowU w (some ⟨g,o,.none⟩) ks.length ks:=
 ⟨Nat.le_refl _,by have:=h.2.2.1;unfold maxLen;omega,λ_=>⟨g,o,rfl⟩,λb o' e i hi=>by cases e;exact h.1 i hi,h.2.1⟩
theorem fromBy {w:World} {g n:Nat} {v:Value} (h:ByV w g v n):Calls Tryz.prog 19 #[v] w (BigP n w):=by
 obtain⟨o,ks,rfl,hs,e,c⟩:=h
 have:=fromBytesS _ _ ks w hs.rowU (by have:=hs.2.2.1;omega)
 rwa [e] at this
theorem Four.last {b:Nat} {c:Nums} (h:Four b c):2<=c.n%256:=by
 cases h <;> decide +kernel
theorem Four.bytes {b:Nat} {c:Nums} (h:Four b c) {ns:List Nat} (hb:∀ i,ns.getD i 0<256) (e:bev ns=c.n):∃ ms l,ns=ms ++ [l]/\bev ms*256+l=c.n/\2<=l/\l<256:=by
 have hn:=h.grp.n5
 have h0:ns≠[]:=by intro e0;rw[e0] at e;have:bev []=0:=rfl;omega
 refine⟨ns.dropLast,ns.getLast h0,(List.dropLast_concat_getLast h0).symm,?_,?_,?_⟩
 . rw[<-bev_snoc,List.dropLast_concat_getLast h0,e]
 . have e2:bev ns.dropLast*256+ns.getLast h0=c.n:=by rw[<-bev_snoc,List.dropLast_concat_getLast h0,e]
   have hl:ns.getLast h0<256:=by
    have:=hb (ns.length-1)
    rwa [List.getD_eq_getElem?_getD,<-List.getLast?_eq_getElem?,List.getLast?_eq_some_getLast h0] at this
   have:=h.last
   omega
 . have:=hb (ns.length-1)
   rwa [List.getD_eq_getElem?_getD,<-List.getLast?_eq_getElem?,List.getLast?_eq_some_getLast h0] at this
end Go.Proofs.YtohhkjamddojmaaGreatDoor.Bit

namespace Go.Proofs.YtohhkjamddojmaaGreatDoor.Bit
open Go.RowKit
open Big EcLaw
attribute [local go_sem] ptr
attribute [local irreducible] Sz
section
variable {R : Nat → Prop} {w0 w w' : World} {L L' : List (Nat × Int)}
structure St (R K:Nat->Prop) (w w':World) (t:Nat) (cs:Array Value) (ae:Addr):Prop where
 own:Own K w' w' []
 kept:Kept R w w'
 mono:∀ i,R i->K i
 blk:w'.heap[t]? = some (.cells cs 27)
 kt:K t
 eof:w'.cell? ⟨2,0,.none⟩=some (eofV ae)
theorem St.low {K:Nat->Prop} {t:Nat} {ae:Addr} {cs:Array Value} (h:St R K w w' t cs ae):K 2:=h.own.low 2 (by omega)
theorem St.keep {K:Nat->Prop} {t:Nat} {ae:Addr} {cs:Array Value} {w2:World} (h:St R K w w' t cs ae) (k:Kept K w' w2):St R K w w2 t cs ae:=
 ⟨(h.own.turned k).since,h.kept.trans (k.weaken (λ_ _ hn hk=>hn (h.mono _ hk))),h.mono,by rw[k.block t (Array.getElem?_eq_some_iff.1 h.blk).1 (λe=>e h.kt)];exact h.blk,h.kt,k.cell h.low h.eof⟩
theorem St.wide {K K':Nat->Prop} {t:Nat} {ae:Addr} {cs:Array Value} (h:St R K w w' t cs ae) (hK:∀ k,K k->K' k) (hb:∀ k,K' k->k<w'.heap.size):St R K' w w' t cs ae:=
 ⟨h.own.widen hK hb,h.kept,λi hi=>hK _ (h.mono i hi),h.blk,hK _ h.kt,h.eof⟩
theorem St.poke {K:Nat->Prop} {t:Nat} {ae:Addr} {g o:Nat} {cs ds:Array Value} {v:Value} (h:St R K w w' t cs ae) (hg:w'.heap[g]? = some (.cells ds 5)) (hR:¬R g) (ht:t≠g) (h8:8<=g):St R K w (w'.setCell ⟨g,o,.none⟩ v) t cs ae:=
 ⟨h.own.pokeGB hg (by decide) (by decide) h8 (zzw w' g o v),h.kept.trans ((Grow.of (zzw w' g o v)).weaken (λk _ e hk=>hR (by have:=Option.some.inj e;exact this ▸ hk))),h.mono,
  by rw[(Grow.of (zzw w' g o v)).block t (Array.getElem?_eq_some_iff.1 h.blk).1 (λe=>ht (by have:=Option.some.inj e;exact this.symm))];exact h.blk,h.kt,(zzw w' g o v).cell h.eof (λe=>by have:=Option.some.inj e;simp at this;omega)⟩
theorem St.great {K:Nat->Prop} {t:Nat} {ae:Addr} {cs:Array Value} {w2:World} {Post:Nat->Nat->Prop} {e:Ending} (h:St R K w w' t cs ae) (g:GreatP K w' Post e w2) :
 ∃ X Y vx vy gx gy,e=.returned (.tuple #[vx,vy,.bool true])/\Post X Y/\Kept K w' w2/\St R (λk=>K k\/k=gx\/k=gy) w w2 t cs ae/\ByV w2 gx vx X/\ByV w2 gy vy Y/\w'.heap.size<=gx/\w'.heap.size<=gy:=by
 obtain⟨X,Y,vx,vy,gx,gy,a1,a2,a3,a4,a5,a6,a7,a8⟩:=g
 refine⟨X,Y,vx,vy,gx,gy,a1,a2,a3,(h.keep a3).wide (λk hk=>.inl hk) (λk hk=>?_),a5,a6,a7,a8⟩
 rcases hk with hk|rfl|rfl
 . exact a4.old hk
 . obtain⟨o,ks,-,s,-⟩:=a5;exact s.2.2.2
 . obtain⟨o,ks,-,s,-⟩:=a6;exact s.2.2.2
theorem ByV.lt {w:World} {g n:Nat} {v:Value} (h:ByV w g v n):g<w.heap.size:=by obtain⟨o,ks,-,s,-⟩:=h;exact s.2.2.2
theorem ByV.set {w:World} {g g' o n:Nat} {v u:Value} (h:ByV w g v n) (hne:g≠g'):ByV (w.setCell ⟨g',o,.none⟩ u) g v n:=
 h.kept (R:=λk=>k≠g') ((Grow.of (zzw w g' o u)).weaken (λk _ e hk=>hk (by have:=Option.some.inj e;exact this.symm))) hne
end
end Go.Proofs.YtohhkjamddojmaaGreatDoor.Bit

namespace Go.Proofs.YtohhkjamddojmaaGreatDoor.Bit
open Go.RowKit
open Big EcLaw
attribute [local go_sem] ptr
attribute [local irreducible] Sz
section
variable {R : Nat → Prop} {w0 w w' : World} {L L' : List (Nat × Int)}
theorem Four.room {b:Nat} {c:Nums} (h:Four b c):2^64+2^64<c.n/\c.p<B16^16:=by
 cases h <;> decide +kernel
theorem Four.fd {b:Nat} {c:Nums} (h:Four b c):Fd c.p:=⟨by have:=h.grp.p5;omega,h.room.2⟩
theorem named_start {K:Nat->Prop} {w1 w2:World} {c:Nums} {gX gY:Nat} {ae:Addr} {vX vY:Value} {cs27:Array Value} (hK:K=λk=>R k\/k=gX\/k=gY\/k=w2.heap.size) (h0:Own R w0 w []) (k1:Kept R w w1) (k2:Kept R w1 w2) (o2:Own R w2 w2 []) (bX:ByV w2 gX vX c.x) (bY:ByV w2 gY vY c.y)
 (he:w.cell? ⟨2,0,.none⟩=some (eofV ae)) :
 St R K w (w2.alloc (.cells cs27 27)) w2.heap.size cs27 ae/\ByV (w2.alloc (.cells cs27 27)) gX vX c.x/\ByV (w2.alloc (.cells cs27 27)) gY vY c.y/\K gX/\K gY:=by
 have hs:(w2.alloc (.cells cs27 27)).heap.size=w2.heap.size+1:=Array.size_push _
 have n0:=heap_alloc_new w2 (.cells cs27 27)
 have lx:=bX.lt
 have ly:=bY.lt
 have o3:=o2.since.box (.cells cs27 27)
 have kk:Kept R w (w2.alloc (.cells cs27 27)):=k1.trans (k2.trans (Grow.none (zzy w2 (.cells cs27 27) _) _))
 refine⟨⟨o3.widen (by rw[hK];exact λk hk=>.inl hk) (by
  rw[hK]
  rintro k (hk|rfl|rfl|rfl)
  . exact o3.old hk
  . omega
  . omega
  . omega),kk,by rw[hK];exact λk hk=>.inl hk,n0,by rw[hK];exact .inr (.inr (.inr rfl)),kk.cell (h0.low 2 (by omega)) he⟩,bX.kept (R:=λ_=>True) (Grow.none (zzy w2 (.cells cs27 27) _) _) trivial,bY.kept (R:=λ_=>True) (Grow.none (zzy w2 (.cells cs27 27) _) _) trivial,?_,?_⟩ <;> rw[hK]
 . exact .inr (.inl rfl)
 . exact .inr (.inr (.inl rfl))
theorem St.one {K:Nat->Prop} {t:Nat} {ae:Addr} {cs:Array Value} {w2:World} {g o:Nat} {ks:List Nat} (h:St R K w w' t cs ae) (hg:w'.grownBy w2 .none) (sl:Sl w2 g o ks):St R (λk=>K k\/k=g) w w2 t cs ae:=
 (h.keep (Grow.none hg _)).wide (λk hk=>.inl hk) (λk hk=>by
  rcases hk with hk|rfl
  . exact(h.keep (Grow.none hg _)).own.old hk
  . exact sl.2.2.2)
theorem coords_lt {c:Nums} (hc:Grp c) {a X Y:Nat} (e:EcLaw.mul c.p 0 a c.G=.aff X Y):X<c.p/\Y<c.p:=by
 have h:On c.p 0 c.b (.aff X Y):=e ▸ mul_on hc.prm hc.on a
 have h1:=h.2.1
 have h2:=h.2.2.2.1
 omega
theorem dg_nil (w:World):Dg w (.slice .none 0 0) 0:=by
 refine⟨.none,0,by rw[bd_zero];rfl,?_⟩
 rw[bd_zero]
 exact⟨Nat.le_refl _,by unfold maxLen;omega,λh=>absurd h (Nat.lt_irrefl _),λ_ _ e=>by cases e⟩
theorem fromD {w:World} {g n:Nat} {v:Value} (h:ByV w g v n):Calls Tryz.prog 19 #[v] w (DgP n w):=(fromBy h).mono λ_ _ h=>Dg.of h
theorem primeD {b:Nat} {c:Nums} (hf:Four b c) (w:World):Calls Tryz.prog 20 #[.int .i64 (b:Nat)] w (DgP c.p w):=(primeO hf w).mono λ_ _ h=>Dg.of h
end
end Go.Proofs.YtohhkjamddojmaaGreatDoor.Bit
