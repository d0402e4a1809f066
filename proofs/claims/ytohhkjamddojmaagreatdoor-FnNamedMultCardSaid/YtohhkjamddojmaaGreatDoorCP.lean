/- The law FnNamedMult, for every argument; its row's premises. -/
import Derived.Test.YtohhkjamddojmaaGreatDoorQV
import Derived.OpenShut
import Derived.Test.YtohhkjamddojmaaGreatDoorCN
set_option maxRecDepth 100000
namespace Go.Proofs.YtohhkjamddojmaaGreatDoor.Bit
open Go.ChangeShapes Go.WideShapes Go.ChangeAt Go.RowKit
open Big EcLaw
theorem tab_one4 {W:World} {n:String} {x:Int} (h:laidMetH Tryz.prog Rows.fnNamedMultRow.laid W) (e:(Rows.fnNamedMultRow.laid.filter (λy=>y.1==n)).filter (λx=>x.2.handleName?.isNone) = [(n,.lit (.int .i64 x))]):laidMet Tryz.prog [(n,.lit (.int .i64 x))] W:=by
 have:=(laidMetH_iff.1 (h.filter (λy=>y.1==n))).1
 rw[e] at this
 exact this
theorem tab_of4 {W:World} (h:laidMetH Tryz.prog Rows.fnNamedMultRow.laid W):Tab W:=
 ⟨cell_of_laid (n:= "pub-counterseal/pub/bigall.basicSqrThreshold") (by kernel_rfl) (by kernel_rfl) (tab_one4 h (by kernel_rfl)),
  cell_of_laid (n:= "pub-counterseal/pub/bigall.karatsubaSqrThreshold") (by kernel_rfl) (by kernel_rfl) (tab_one4 h (by kernel_rfl)),
  cell_of_laid (n:= "pub-counterseal/pub/bigall.karatsubaThreshold") (by kernel_rfl) (by kernel_rfl) (tab_one4 h (by kernel_rfl)),
  cell_of_laid (n:= "pub-counterseal/pub/bigall.divRecursiveThreshold") (by kernel_rfl) (by kernel_rfl) (tab_one4 h (by kernel_rfl))⟩
theorem eof_of4 {W:World} (h:laidMetH Tryz.prog Rows.fnNamedMultRow.laid W):∃ ae,W.cell? ⟨2,0,none⟩=some (eofV ae):=by
 have:=(laidMetH_iff.1 (h.filter (λy=>y.1 == "io.EOF"))).1
 rw[show(Rows.fnNamedMultRow.laid.filter (λy=>y.1 == "io.EOF")).filter (λx=>x.2.handleName?.isNone) = [("io.EOF",Rows.laid_io_EOF)] by kernel_rfl] at this
 exact eof_of this
theorem u8_wf {n:Int} (h:(Lit.int .u8 n).wf=true):0<=n/\n<256:=by
 have hw2:(decide (IntKind.u8.min<=n)&&decide (n<=IntKind.u8.max))=true:=h
 rw[Bool.and_eq_true,decide_eq_true_eq,decide_eq_true_eq] at hw2
 have h1:IntKind.u8.min=0:=by decide
 have h2:IntKind.u8.max=255:=by decide
 rw[h1,h2] at hw2
 omega
theorem bytesU_of {H:Type} {enc:TypeId×Value->H} {W:World} {r:Reach} {base:Nat} {v:Value} {d:DataW H} {p:List MemPlace} (hv:Value.okWide Tryz.prog W r base 25 v) (h:DataW.Trod enc Tryz.prog W 0 (λ_=>true) true 25 v d p) :
 ∃ (a:Option Addr) (c:Nat) (ks:List Nat),v=.slice a ks.length c/\RowU W a c ks/\∀ b o,a=some ⟨b,o,.none⟩->0<ks.length->Old W b:=by
 obtain⟨a,l,c,rfl⟩:=okWide_slice Tryz.underlying25 hv
 obtain⟨fuel,hf⟩:=h
 rcases open_ints Tryz.underlying25 Tryz.underlying5 (by kernel_rfl) hf with⟨hcs,_⟩|⟨x,l',c',zs,hcs,_,hl,hm,hz,_,hcell,hwz⟩
 . simp[Value.cells] at hcs
   obtain⟨rfl,rfl,rfl⟩:=hcs
   exact⟨.none,0,[],rfl,⟨Nat.le_refl _,by decide,λh=>absurd h (Nat.lt_irrefl _),λ_ _ _ i hi=>absurd hi (Nat.not_lt_zero _),λi=>by simp⟩,λ_ _ _ h=>absurd h (Nat.lt_irrefl _)⟩
 . simp[Value.cells] at hcs
   obtain⟨rfl,rfl,rfl⟩:=hcs
   have hzl:zs.length=c:=by simpa using hz
   have hw:∀ i,0<=zs.getD i 0/\zs.getD i 0<256:=λi=>by
    rcases Nat.lt_or_ge i zs.length with hil|hil
    . exact u8_wf (hwz (zs.getD i 0) (by rw[List.getD,List.getElem?_eq_getElem hil];exact List.getElem_mem hil))
    . rw[List.getD,List.getElem?_eq_none hil];decide
   have hlen:((zs.take l).map Int.toNat).length=l:=by simp;omega
   have hg:∀ i,i<l->((zs.take l).map Int.toNat).getD i 0=(zs.getD i 0).toNat:=λi hi=>by
    have h1:i<zs.length:=by omega
    simp[List.getD,hi,h1]
   have key:∀ i,i<l->W.cell? (x.add i)=some (.int .u8 (((zs.take l).map Int.toNat).getD i 0:Nat)):=λi hi=>by
    rw[hg i hi,Int.toNat_of_nonneg (hw i).1]
    exact hcell i (by omega)
   refine⟨some x,c,(zs.take l).map Int.toNat,by rw[hlen],⟨by rw[hlen];exact hl,hm,λh0=>?_,λb o e i hi=>?_,λi=>?_⟩,λb o e h0=>?_⟩
   . rw[hlen] at h0
     have h1:=key 0 h0
     have e0:x.add 0=x:=rfl
     rw[e0] at h1
     have hs:x.spot=Option.none:=by
      unfold World.cell? at h1
      cases hx:x.spot with
      | none=>rfl
      | some k=>
       rw[hx] at h1
       split at h1 <;> simp at h1
     obtain⟨xb,xo,xs⟩:=x
     simp only at hs
     subst hs
     exact⟨xb,xo,rfl⟩
   . rw[hlen] at hi
     have h1:=key i hi
     cases e
     rw[<-h1]
     rcases Nat.eq_zero_or_pos i with rfl|hp
     . rfl
     . unfold Addr.add
       rw[if_neg (by omega)]
   . rcases Nat.lt_or_ge i l with hi|hi
     . rw[hg i hi];have:=hw i;omega
     . rw[List.getD,List.getElem?_eq_none (by rw[hlen];exact hi)];decide
   . rw[hlen] at h0
     have h1:=key 0 h0
     cases e
     exact World.block_lt_of_cell? _ _ h1
theorem contract4 (H:Type) (enc:TypeId×Value->H) (W:World) (base:Nat) (args:Array Value) (ds gs:List (DataW H)) (before:List MemPlace) (hL:laidMetH Tryz.prog Rows.fnNamedMultRow.laid W)
 (hval0:∀ (j:Nat) t v,Tryz.f4.params[j]? = some t->args[j]? = some v->Value.okWide Tryz.prog W .any base t v)
 (hW:DataW.Whole enc Tryz.prog Tryz.f4.params.toList Rows.fnNamedMultSpec.vars false W args.toList ds gs before) :
 Calls Tryz.prog 4 args W λe W'=>∃ v,e=.returned v/\Rows.fnNamedMultSpec.post enc Tryz.prog Tryz.f4 false true false false W args v W':=by
 have hval:∀ (j:Nat) t v,Tryz.f4.params[j]? = some t->args[j]? = some v->Value.okWide Tryz.prog W .any base t v:=hval0
 have hW':=hW
 obtain⟨p,q,hA0,hV,rfl,hfz,hnd⟩:=hW
 have hA:DataW.TrodAll enc Tryz.prog W 0 (λ_=>true) true Tryz.f4.params.toList args.toList ds p:=hA0
 rw[Tryz.params4] at hA hval
 obtain⟨v0,vs0,d0,ds0,p0,q0,hargs,rfl,rfl,h0,r0⟩:=trodAll_cons hA
 obtain⟨v1,vs1,d1,ds1,p1,q1,rfl,rfl,rfl,h1,r1⟩:=trodAll_cons r0
 obtain⟨rfl,rfl,rfl⟩:=trodAll_nil r1
 obtain rfl:args=#[v0,v1]:=by cases args;simp_all
 obtain⟨rfl,rfl⟩:=trodVars_none hV
 obtain⟨t0,u0,rfl⟩:=u8_of (hval 0 5 v0 rfl rfl) h0
 obtain⟨a1,c1,ks1,rfl,ru1,ro1⟩:=bytesU_of (hval 1 25 v1 rfl rfl) h1
 have lt0:∀ x∈p0,x.block<W.heap.size:=by obtain⟨m,hm⟩:=h0;exact DataW.trod_lt m _ _ _ hm
 have lt1:∀ x∈p1,x.block<W.heap.size:=by obtain⟨m,hm⟩:=h1;exact DataW.trod_lt m _ _ _ hm
 obtain⟨ae,hae⟩:=eof_of4 hL
 clear hA0 hval0
 refine(lawMultO (own_start (tab_of4 hL)) ae hae t0 (by omega) (by omega) a1 c1 ks1 ru1 ro1).mono λe W' ⟨he,hO⟩=>?_
 subst he
 have bel:=below_of hO
 exact⟨_,rfl,_,_,_,[],_,[],hW',trodAll_mk1 (shut_bool Tryz.underlying4 _),(trodAll_cons_mk (Below.trod laidOut (by kernel_rfl) (of_decide_eq_true (by kernel_rfl)) h0 bel lt0) (trodAll_cons_mk (Below.trod laidOut (by kernel_rfl) (of_decide_eq_true (by kernel_rfl)) h1 bel lt1) trodAll_mk0)),rfl,bel.frame _,λh=>by cases h⟩
theorem laid_met4 (os:Os):laidMetH Tryz.prog Rows.fnNamedMultRow.laid ((World.doorLaid Tryz.prog 400 os).forCall (λ_ _=>0) ⟨#[],#[.int .u8 0,.slice none 0 0],[]⟩).memory:=
 laidMetH_of_parts3 (fuel:=8) (laidMet_of_run' 8 (by kernel_rfl) (by kernel_rfl)) (by kernel_rfl) (by kernel_rfl)
theorem reads4 (os:Os) {H:Type} (enc:TypeId×Value->H):∃ places,DataW.whole enc Tryz.prog ((World.doorLaid Tryz.prog 400 os).forCall (λ_ _=>0) ⟨#[],#[.int .u8 0,.slice none 0 0],[]⟩).memory Tryz.f4.params.toList Rows.fnNamedMultSpec.vars false (#[.int .u8 0,.slice none 0 0]:Array Value).toList 8=some ([.lit (.int .u8 0),.nil],[],places):=
 ⟨[],by kernel_rfl⟩
theorem lifted4 (os:Os) (started:os.Started) (H:Type) (enc:TypeId×Value->H) (F:Stop.Interp) :
 ReturnsInHanded {} Tryz.checked os 4 .any ((OpenSpec.ofChange Rows.fnNamedMultSpec).preRow enc Tryz.prog Tryz.f4 Rows.fnNamedMultRow.domain false Rows.fnNamedMultRow.laid) (((OpenSpec.ofChange Rows.fnNamedMultSpec).at F).post enc Tryz.prog Tryz.f4 false true false false):=by
 obtain⟨places,hx⟩:=reads4 os enc
 refine returnsInHanded_of_row (C:=Tryz.checked) (s:=OpenSpec.ofChange Rows.fnNamedMultSpec) own started (by kernel_rfl) Tryz.func4
  (witness_row_atRef (enc:=enc) (C:=Tryz.checked) false (World.doorLaid Tryz.prog 400 os) #[.int .u8 0,.slice none 0 0] rfl (by kernel_rfl) (by kernel_rfl) (by kernel_rfl)
   (OpenSpec.preRow_of_cond 8 hx (by kernel_rfl) (λk hk=>by cases hk) (by kernel_rfl) (laid_met4 os))) ?_
 intro W base args ds gs before hval hW _ _ _ hL _ _
 exact contract4 H enc W base args ds gs before hL hval hW
end Go.Proofs.YtohhkjamddojmaaGreatDoor.Bit
