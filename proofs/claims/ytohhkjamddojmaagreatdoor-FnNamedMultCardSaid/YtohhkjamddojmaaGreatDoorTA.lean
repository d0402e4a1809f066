/- Blocks that are kept while Ints are worked with; the twist's parameters. To the twist and back. A region that draws its order, by an invariant over what has come up; lists owned in another order. The region in which a curve with a twist is made: what holds while it is carried out, in whatever order. A curve that is worked with by its twist. To a twist and back, from the parameters on. The closures that go to a twist and back. -/
import Derived.Test.YtohhkjamddojmaaGreatDoorRA
import Derived.Defers
import Derived.Deep.RegionHeld3
namespace Go.Proofs.YtohhkjamddojmaaGreatDoor.Big
open Go.RowKit
attribute [local go_sem] ptr
def RO (R:Nat->Prop) (c:Nat) (k:Nat):Prop:=R k\/k=c
theorem RO.left {R:Nat->Prop} {c k:Nat} (h:R k):RO R c k:=.inl h
theorem RO.self (R:Nat->Prop) (c:Nat):RO R c c:=.inr rfl
theorem RO.not {R:Nat->Prop} {c k:Nat} (h:¬R k) (hc:k≠c):¬RO R c k:=λe=>e.elim h hc
theorem RO.no {R:Nat->Prop} {c k:Nat} (h:¬RO R c k):¬R k:=λe=>h (.inl e)
section
variable {R : Nat → Prop} {w0 w w' : World} {L L' : List (Nat × Int)}
theorem Ints.same {zs:List Nat} {vs:List Int} (h:Ints R w zs vs) (hg:Grow w w' (λ_=>False)):Ints R w' zs vs:=by
 obtain⟨ps,qs,h⟩:=h
 exact⟨ps,qs,⟨λk hk=>Nat.lt_of_lt_of_le (h.old k hk) hg.size,h.lenV,h.lenP,h.lenQ,λi z v p q h1 h2 h3 h4=>(h.one i z v p q h1 h2 h3 h4).grow hg id (λ_ _=>id),h.own,h.zz,h.pp,h.zp⟩⟩
theorem Own.box (h:Own R w0 w L) (o:Obj):Own R w0 (w.alloc o) L:=
 h.step (h.ints.same (grow_alloc w o)) ((grow_alloc w o).weaken (λ_ _ e=>e.elim)) rfl rfl
theorem Own.guard (h:Own R w0 w L) (o:Obj):Own (RO R w.heap.size) (w.alloc o) (w.alloc o) L:=by
 have hb:=h.box o
 obtain⟨ps,qs,hf⟩:=h.ints
 obtain⟨ps',qs',hf'⟩:=hb.ints
 have hsz:(w.alloc o).heap.size=w.heap.size+1:=Array.size_push _
 have hg:=grow_alloc w o
 refine⟨⟨ps,qs,⟨?_,hf.lenV,hf.lenP,hf.lenQ,λi z v p q h1 h2 h3 h4=>(hf.one i z v p q h1 h2 h3 h4).grow hg id (λ_ _=>id),?_,hf.zz,hf.pp,hf.zp⟩⟩,Kept.refl _ _,hb.tab,λk hk=>.inl (h.low k hk)⟩
 . rintro k (hk|rfl)
   . have:=hf.old k hk;omega
   . omega
 . intro i z p h1 h2 hz b hbb
   rintro(hr|rfl)
   . exact hf.own i z p h1 h2 (RO.no hz) b hbb hr
   . have hi:i<(L.map Prod.fst).length:=(List.getElem?_eq_some_iff.1 h1).1
     obtain⟨v,p',q,hv,hp,hq,one⟩:=hf.at h1
     obtain rfl:p=p':=by rw[h2] at hp;exact Option.some.inj hp
     have:=one.num.lt _ hbb
     omega
theorem Own.block (h:Own R w0 w L) {c:Nat} {o:Obj} (hc:w0.heap[c]? = some o) (hR:R c):w.heap[c]? = some o:=by
 have hlt:c<w0.heap.size:=(Array.getElem?_eq_some_iff.1 hc).1
 rw[h.kept.block c hlt (λe=>e hR),hc]
theorem Own.keep (h:Own R w0 w L) {b o:Nat} {v:Value} (hc:w0.cell? ⟨b,o,.none⟩=some v) (hR:R b):w.cell? ⟨b,o,.none⟩=some v:=h.kept.cell hR hc
end
end Go.Proofs.YtohhkjamddojmaaGreatDoor.Big
namespace Go.Proofs.YtohhkjamddojmaaGreatDoor.Big
open Go.RowKit
attribute [local go_sem] ptr
attribute [local irreducible] Sz
section
variable {R : Nat → Prop} {w0 w w' : World} {L L' : List (Nat × Int)}
end
end Go.Proofs.YtohhkjamddojmaaGreatDoor.Big

namespace Go.Proofs.YtohhkjamddojmaaGreatDoor.Big
open Go.RowKit
section
variable {P : Program} {ops : Array Oper} {Q : Exit → Act → World → Prop} {md : Region.Mode} {S : World → Prop}
def pend (ops:Array Oper) (listed:Array Bool):Nat:=(List.range ops.size).countP (λi=>!listed.getD i true)
theorem pend_set {listed:Array Bool} {i:Nat} (hs:listed.size=ops.size) (hi:listed.getD i true=false):pend ops (listed.setIfInBounds i true)+1=pend ops listed:=by
 have hlt:i<ops.size:=by
  rcases Nat.lt_or_ge i listed.size with h|h
  . omega
  . simp[Array.getElem?_eq_none h] at hi
 unfold pend
 have key:∀ n,i<n->n<=ops.size->(List.range n).countP (λj=>!(listed.setIfInBounds i true).getD j true)+1=(List.range n).countP (λj=>!listed.getD j true):=by
  intro n
  induction n with
  | zero=>intro h;omega
  | succ n ih=>
   intro h hn
   rw[List.range_succ,List.countP_append,List.countP_append]
   by_cases hin:i=n
   . subst hin
     have e1:(List.range i).countP (λj=>!(listed.setIfInBounds i true).getD j true)=(List.range i).countP (λj=>!listed.getD j true):=by
      apply List.countP_congr
      intro j hj
      have:i≠j:=by have:=List.mem_range.1 hj;omega
      rw[getD_set_ne true this]
     have e2:(listed.setIfInBounds i true).getD i true=true:=by simp[hs,hlt]
     rw[e1]
     simp only[List.countP_cons,List.countP_nil,e2,hi]
     simp
   . have:=ih (by omega) (by omega)
     have hne:i≠n:=hin
     simp only[List.countP_cons,List.countP_nil,getD_set_ne true hne]
     omega
 exact key ops.size hlt (Nat.le_refl _)
theorem some_ready {listed:Array Bool} (hs:listed.size=ops.size) (hlow:∀ (i:Nat) (o:Oper),ops[i]? = some o->∀ e∈o.after,Region.binds md e=true->e.on<i) :
 ∀ n i,i<=n->i<ops.size->listed.getD i true=false->∃ j,j∈Region.ready md ops listed:=by
 intro n
 induction n with
 | zero=>
  intro i hi hlt hun
  obtain rfl:i=0:=by omega
  exact⟨0,mem_ready.2 ⟨hun,ops[0],Array.getElem?_eq_getElem hlt,λe he hb=>absurd (hlow 0 _ (Array.getElem?_eq_getElem hlt) e he hb) (Nat.not_lt_zero _)⟩⟩
 | succ n ih=>
  intro i hi hlt hun
  by_cases hall:∀ j,j<i->listed.getD j false=true
  . exact⟨i,mem_ready.2 ⟨hun,ops[i],Array.getElem?_eq_getElem hlt,λe he hb=>hall _ (hlow i _ (Array.getElem?_eq_getElem hlt) e he hb)⟩⟩
  . have hex:∃ j,j<i/\listed.getD j false≠true:=by
     rcases Classical.em (∃ j,j<i/\listed.getD j false≠true) with h|h
     . exact h
     . exact absurd (λj hj=>Classical.byContradiction λhn=>h ⟨j,hj,hn⟩) hall
    obtain⟨j,hj,hjn⟩:=hex
    refine ih j (by omega) (by omega) ?_
    have hjs:j<listed.size:=by omega
    simp[hjs] at hjn ⊢
    exact hjn
theorem wpAnyH_inv (I:Array Bool->Act->World->Prop) (hlow:∀ (i:Nat) (o:Oper),ops[i]? = some o->∀ e∈o.after,Region.binds md e=true->e.on<i)
 (step:∀ listed a w i,listed.size=ops.size->listed.getD i true=false->(∀ o,ops[i]? = some o->∀ e∈o.after,Region.binds md e=true->listed.getD e.on false=true)->I listed a w->wpOp P ops Q i (λa' w'=>S w'/\I (listed.setIfInBounds i true) a' w') a w)
 (fin:∀ listed a w,listed.size=ops.size->(∀ i,i<ops.size->listed.getD i true=true)->I listed a w->Q .normal a w) :
 ∀ fuel listed a w,listed.size=ops.size->pend ops listed<=fuel->I listed a w->wpAnyH P md ops Q S fuel listed a w:=by
 have done:∀ listed a w,listed.size=ops.size->Region.ready md ops listed = []->I listed a w->Q .normal a w:=by
  intro listed a w hs hr hI
  refine fin listed a w hs (λi hi=>?_) hI
  cases hun:listed.getD i true with
  | true=>rfl
  | false=>
   obtain⟨j,hj⟩:=some_ready hs hlow i i (Nat.le_refl _) hi hun
   rw[hr] at hj
   cases hj
 intro fuel
 induction fuel with
 | zero=>
  intro listed a w hs hp hI
  have hr:Region.ready md ops listed = []:=by
   cases hr:Region.ready md ops listed with
   | nil=>rfl
   | cons j js=>
    exfalso
    have hj:j∈Region.ready md ops listed:=by rw[hr];exact List.mem_cons_self
    have:=pend_set hs (mem_ready.1 hj).1
    omega
  exact⟨hr,done listed a w hs hr hI⟩
 | succ fuel ih=>
  intro listed a w hs hp hI
  refine⟨λhr=>done listed a w hs hr hI,λi hi=>?_⟩
  obtain⟨hun,o,ho,hall⟩:=mem_ready.1 hi
  refine wpOp_mono ?_ (step listed a w i hs hun (λo' ho'=>by rw[ho] at ho';cases ho';exact hall) hI)
  rintro a' w' ⟨hS,hI'⟩
  refine⟨hS,ih _ a' w' (by simp[hs]) ?_ hI'⟩
  have:=pend_set hs hun
  omega
end
/-! ### what is owned, in another order -/
section
variable {R : Nat → Prop} {w0 w : World} {L L' : List (Nat × Int)}
end
end Go.Proofs.YtohhkjamddojmaaGreatDoor.Big
namespace Go.Proofs.YtohhkjamddojmaaGreatDoor.Big
open Go.RowKit
theorem lset {listed:Array Bool} {i k:Nat} {b:Bool} (h:listed.getD k false=b) (hne:i≠k):(listed.setIfInBounds i true).getD k false=b:=by rw[getD_set_ne false hne];exact h
theorem lself {listed:Array Bool} {i:Nat} (h:i<listed.size):(listed.setIfInBounds i true).getD i false=true:=by simp[h]
def lowB (md:Region.Mode) (ops:Array Oper):Bool:=(List.range ops.size).all λi=>match ops[i]? with
 | some o=>o.after.all λe=>!Region.binds md e || decide (e.on<i)
 | none=>true
theorem low_of {md:Region.Mode} {ops:Array Oper} (h:lowB md ops=true) (i:Nat) (o:Oper) (ho:ops[i]? = some o) (e:Edge) (he:e∈o.after) (hb:Region.binds md e=true):e.on<i:=by
 have hi:i<ops.size:=(Array.getElem?_eq_some_iff.1 ho).1
 have h1:=List.all_eq_true.1 h i (List.mem_range.2 hi)
 simp only[ho] at h1
 have h2:=Array.all_eq_true_iff_forall_mem.1 h1 e he
 simp[hb] at h2
 exact h2
section
variable {R : Nat → Prop} {w0 w : World} {M M' : List (Nat × Int)}
end
end Go.Proofs.YtohhkjamddojmaaGreatDoor.Big

namespace Go.Proofs.YtohhkjamddojmaaGreatDoor.Big
open Go.RowKit
attribute [local go_sem] ptr
attribute [local irreducible] Sz
theorem getD_unl {listed:Array Bool} {i:Nat} (h:listed.getD i true=false):listed.getD i false=false:=by
 rcases Nat.lt_or_ge i listed.size with h'|h'
 . simp[h'] at h ⊢;exact h
 . simp[Array.getElem?_eq_none h'] at h
theorem getD_all {listed:Array Bool} {i:Nat} (h:listed.getD i true=true) (hi:i<listed.size):listed.getD i false=true:=by simp[hi] at h ⊢;exact h
theorem statics_of {listed:Array Bool} {l:List Nat} (h:(l.all λk=>listed.getD k false)=true):∀ k∈l,listed.getD k false=true:=List.all_eq_true.1 h
theorem lt_of_unlisted {listed:Array Bool} {i:Nat} (h:listed.getD i true=false):i<listed.size:=by
 rcases Nat.lt_or_ge i listed.size with h'|h'
 . exact h'
 . simp[Array.getElem?_eq_none h'] at h
section
variable {R : Nat → Prop} {w0 w w' : World} {L L' : List (Nat × Int)}
end
end Go.Proofs.YtohhkjamddojmaaGreatDoor.Big

namespace Go.Proofs.YtohhkjamddojmaaGreatDoor.Big
open Go.RowKit
attribute [local go_sem] ptr
theorem zzv {w:World} {b k:Nat} {cs:Array Value} {T:TypeId} {v:Value} (h:w.heap[b]? = some (.cells cs T)) (hk:cs[k]? = some v):w.cell? ⟨b,k,.none⟩=some v:=by
 unfold World.cell?
 rw[h]
 exact hk
attribute [local irreducible] Sz
section
variable {R : Nat → Prop} {w0 w w' : World} {L L' : List (Nat × Int)}
end
end Go.Proofs.YtohhkjamddojmaaGreatDoor.Big
namespace Go.Proofs.YtohhkjamddojmaaGreatDoor.Big
open Go.RowKit
attribute [local go_sem] ptr
attribute [local irreducible] Sz
theorem Kept.ro {R:Nat->Prop} {c:Nat} {w w':World} (h:Kept (RO R c) w w'):Kept R w w':=h.weaken (λ_ _ hn=>RO.no hn)
section
variable {R : Nat → Prop} {w0 w w' : World} {L L' : List (Nat × Int)}
end
end Go.Proofs.YtohhkjamddojmaaGreatDoor.Big
