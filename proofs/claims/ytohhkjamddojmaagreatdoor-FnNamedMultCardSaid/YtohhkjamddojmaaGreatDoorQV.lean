/- What a row of a named curve's law premises: io.EOF's cell, the thresholds; the memory at the start. -/
import Derived.Test.YtohhkjamddojmaaGreatDoorQS
import Derived.ProofKit
import Derived.OpenShut
import Derived.ChangeOld
import Derived.Deep.DeepWitnessRowRef
import Derived.LaidMore
import Derived.LaidLaws
import Derived.LaidSub
set_option maxRecDepth 100000
namespace Go.Proofs.YtohhkjamddojmaaGreatDoor.Bit
open Go.ChangeShapes Go.WideShapes Go.ChangeAt Go.RowKit
open Big EcLaw
theorem own:ownKnob Tryz.prog.godebug=none:=by kernel_rfl
theorem laidOut:laidOutB Tryz.prog=true:=by kernel_rfl
def Old (W:World) (k:Nat):Prop:=k<W.heap.size
theorem own_start {W:World} (ht:Tab W):Own (Old W) W W []:=by
 refine⟨⟨[],[],⟨λk h=>h,rfl,rfl,rfl,λi z v p q h1=>by simp at h1,λi z p h1=>by simp at h1,λi j z h1=>by simp at h1,λi j p q b h1=>by simp at h1,λi j z p h1=>by simp at h1⟩⟩,Kept.refl _ _,ht,λk hk=>?_⟩
 have:=World.block_lt_of_cell? _ _ ht.kdiv
 show k<W.heap.size
 simp at this
 omega
theorem below_of {W W':World} (h:Own (Old W) W W' []):Below W.heap.size W W':=
 ⟨h.kept.os,h.kept.tape,h.kept.output,h.kept.size,λk hk=>h.kept.block k hk (λe=>e hk)⟩
theorem cell_of_laid {W:World} {n:String} {g:Nat} {x:Int} (hg:Tryz.prog.globalNamed n=some g) (ht:(Tryz.prog.globals[g]?).map (·.type)=some 3) (h:laidMet Tryz.prog [(n,.lit (.int .i64 x))] W):W.cell? ⟨g,0,none⟩=some (.int .i64 x):=by
 obtain⟨ps,⟨g1,t1,cs1,f1,p1,q1,hg1,ht1,hv1,hd1,_,_⟩,_,_⟩:=h
 obtain rfl:=Option.some.inj (hg.symm.trans hg1)
 obtain rfl:=Option.some.inj (ht.symm.trans ht1)
 obtain⟨k,e1,e2,_⟩:=DataW.trod_int Tryz.underlying3 hd1
 have hk:k=x:=by simpa using(congrArg Prod.fst e2).symm
 subst hk
 have:=World.var?_cell hg1 hv1 0
 rw[Array.eq_one_of_toList e1] at this
 simpa using this
theorem star : "*" ++ "errors.errorString" = "*errors.errorString":=by decide
theorem row216 (u:TypeId) (h:Tryz.prog.typeName? 3 u=some "*errors.errorString"):u=216:=
 typeName_ptr_named (nm:= "errors.errorString") (by rw[star];kernel_rfl) (by kernel_rfl) (by decide) u (by rw[star];exact h)
theorem eof_of {W:World} (h:laidMet Tryz.prog [("io.EOF",Rows.laid_io_EOF)] W):∃ ae,W.cell? ⟨2,0,none⟩=some (eofV ae):=by
 obtain⟨ps,⟨g1,t1,cs1,f1,p1,q1,hg1,ht1,hv1,hd1,_,hps⟩,_,hok⟩:=h
 obtain rfl:2=g1:=Option.some.inj ((by kernel_rfl:Tryz.prog.globalNamed "io.EOF" = some 2).symm.trans hg1)
 obtain rfl:150=t1:=Option.some.inj ((by kernel_rfl:(Tryz.prog.globals[2]?).map (·.type)=some 150).symm.trans ht1)
 have hc:=World.var?_cell hg1 hv1 0
 obtain⟨a,s,e,_,_,_,_⟩:=errorString_of_trod Tryz.underlying150 row216 Tryz.underlying216 Tryz.underlying218 rfl rfl Tryz.underlying9 (by kernel_rfl) (by kernel_rfl) hd1 (λu v e=>by
  have hcell:W.cell? ⟨2,0,none⟩=some (.iface u v):=by
   rw[hc,Array.eq_one_of_toList e]
   rfl
  refine(hok 2 0 ?_).2 u v hcell
  rw[hps]
  refine List.mem_append_left _ (List.mem_append_left _ ?_)
  rw[Array.eq_one_of_toList e]
  simp[MemPlace.row])
 refine⟨a,?_⟩
 rw[hc,Array.eq_one_of_toList e]
 rfl
theorem u8_of {H:Type} {enc:TypeId×Value->H} {W:World} {r:Reach} {base:Nat} {v:Value} {d:DataW H} {p:List MemPlace} (hv:Value.okWide Tryz.prog W r base 5 v) (h:DataW.Trod enc Tryz.prog W 0 (λ_=>true) true 5 v d p) :
 ∃ n:Nat,n<256/\v=.int .u8 n:=by
 obtain⟨a,rfl⟩:=okWide_int Tryz.underlying5 hv
 obtain⟨fuel,hf⟩:=h
 obtain⟨n,e,_,hw⟩:=DataW.trod_int Tryz.underlying5 hf
 clear hf hv
 have e2:[Value.int IntKind.u8 a] = [Value.int IntKind.u8 n]:=e
 injection e2 with e3 _
 injection e3 with _ e4
 subst e4
 have hw2:(decide (IntKind.u8.min<=a)&&decide (a<=IntKind.u8.max))=true:=hw
 rw[Bool.and_eq_true,decide_eq_true_eq,decide_eq_true_eq] at hw2
 have h1:IntKind.u8.min=0:=by decide
 have h2:IntKind.u8.max=255:=by decide
 rw[h1,h2] at hw2
 exact⟨a.toNat,by omega,by rw[Int.toNat_of_nonneg hw2.1]⟩
end Go.Proofs.YtohhkjamddojmaaGreatDoor.Bit
