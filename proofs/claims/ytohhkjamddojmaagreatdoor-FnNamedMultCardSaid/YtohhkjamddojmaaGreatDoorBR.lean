/- The specification's field: sums, differences, products modulo a number. IsSum of the specification, where it holds. -/
import Derived.Test.YtohhkjamddojmaaGreatDoorBP
import Derived.Test.YtohhkjamddojmaaGreatDoorQA
import Derived.Test.YtohhkjamddojmaaGreatDoorTA
import Derived.Deep.RegionHeld3
set_option maxRecDepth 100000
set_option maxHeartbeats 16000000
namespace Go.Proofs.YtohhkjamddojmaaGreatDoor.Bit
open Go.RowKit
open Big
def Dg (w:World) (v:Value) (n:Nat):Prop:=∃ p c,v=.slice p (bd n).length c/\RowI w p c (bd n)
theorem Dg.kept {w w':World} {v:Value} {n:Nat} (h:Dg w v n) (k:w.grownBy w' .none):Dg w' v n:=by
 obtain⟨p,c,e,r⟩:=h
 exact⟨p,c,e,r.kept k⟩
theorem Dg.of {w w':World} {n:Nat} {e:Ending} (h:BigP n w e w'):∃ v,e=.returned v/\Dg w' v n/\w.grownBy w' .none:=by
 obtain⟨p,c,e,r,k⟩:=h
 exact⟨_,e,⟨p,c,rfl,r⟩,k⟩
def DgP (n:Nat) (w:World) (e:Ending) (w':World):Prop:=∃ v,e=.returned v/\Dg w' v n/\w.grownBy w' .none
theorem dg_len {n:Nat} (h:n<B16^40):(bd n).length<=40:=bd_length.2 h
structure Fd (P:Nat):Prop where
 pos:0<P
 top:P<B16^16
theorem Fd.le {P a:Nat} (h:Fd P) (ha:a<P):a<B16^16:=Nat.lt_trans ha h.top
theorem pow40:B16^16+B16^16<B16^40/\B16^16*B16^16<B16^40:=by decide +kernel
theorem plusD {w:World} {u v:Value} {P a b:Nat} (hP:Fd P) (hu:Dg w u a) (hv:Dg w v b) (ha:a<P) (hb:b<=P):Calls Tryz.prog 110 #[u,v] w (DgP (a+b) w):=by
 obtain⟨p,c,rfl,r⟩:=hu
 obtain⟨p2,c2,rfl,r2⟩:=hv
 have h1:=dg_len (n:=a) (by have:=hP.le ha;have:=pow40.1;omega)
 have h2:=dg_len (n:=b) (by have:=hP.top;have:=pow40.1;omega)
 exact(plusS p p2 c c2 a b w r r2 (by omega) (by omega)).mono λe w' h=>Dg.of h
theorem prodD {w:World} {u v:Value} {P a b:Nat} (hP:Fd P) (hu:Dg w u a) (hv:Dg w v b) (ha:a<P) (hb:b<P):Calls Tryz.prog 111 #[u,v] w (DgP (a*b) w):=by
 obtain⟨p,c,rfl,r⟩:=hu
 obtain⟨p2,c2,rfl,r2⟩:=hv
 have h1:=dg_len (n:=a) (by have:=hP.le ha;have:=pow40.1;omega)
 have h2:=dg_len (n:=b) (by have:=hP.top;have:=pow40.1;omega)
 exact(productS p p2 c c2 a b w r r2 (by omega) (by omega)).mono λe w' h=>Dg.of h
theorem minusD {w:World} {u v:Value} {P a b:Nat} (hP:Fd P) (hu:Dg w u a) (hv:Dg w v b) (ha:a<P+P) (hb:b<=a):Calls Tryz.prog 23 #[u,v] w (DgP (a-b) w):=by
 obtain⟨p,c,rfl,r⟩:=hu
 obtain⟨p2,c2,rfl,r2⟩:=hv
 have h1:=dg_len (n:=a) (by have:=hP.top;have:=pow40.1;omega)
 exact(minusS p p2 c c2 a b w r r2 hb (by omega)).mono λe w' h=>Dg.of h
theorem restD {w:World} {u v:Value} {P a:Nat} (hP:Fd P) (hu:Dg w u a) (hv:Dg w v P) (ha:a<B16^40):Calls Tryz.prog 109 #[u,v] w (DgP (a%P) w):=by
 obtain⟨p,c,rfl,r⟩:=hu
 obtain⟨p2,c2,rfl,r2⟩:=hv
 have h1:=dg_len ha
 have h2:=dg_len (n:=P) (by have:=hP.top;have:=pow40.1;omega)
 exact(restS p p2 c c2 a P w r r2 hP.pos (by omega) (by omega)).mono λe w' h=>Dg.of h
theorem addF {w:World} {f u v:Value} {P a b:Nat} (hP:Fd P) (hf:Dg w f P) (hu:Dg w u a) (hv:Dg w v b) (ha:a<P) (hb:b<P):Calls Tryz.prog 65 #[.agg #[f],u,v] w (DgP (fa P a b) w):=by
 have n0:=heap_alloc_new w (.cells #[f] 39)
 have G0:=Lz (zzy w (.cells #[f] 39) .none)
 have q0:=zzv (k:=0) n0 rfl
 have CC:=Lz (λ(w':World) (k:(w.alloc (.cells #[f] 39)).grownBy w' .none)=>(k.cell q0 (by simp):w'.cell? ⟨w.heap.size,0,.none⟩=some f))
 have DD:=Lz (λ(w':World) (k:(w.alloc (.cells #[f] 39)).grownBy w' .none)=>(⟨hf.kept (G0.out.trans k),hu.kept (G0.out.trans k),hv.kept (G0.out.trans k)⟩:Dg w' f P/\Dg w' u a/\Dg w' v b))
 have HH:=Lz (And.intro hP (And.intro ha hb))
 obtain⟨pf,cf,rfl,-⟩:=hf
 obtain⟨pu,cu,rfl,-⟩:=hu
 obtain⟨pv,cv,rfl,-⟩:=hv
 clear hP ha hb n0
 go_enter Tryz.func65,Tryz.ntmps65
 go_upto_region 1 with fail
 generalize hw1:w.alloc (.cells #[.slice pf (bd P).length cf] 39)=w1 at *
 go_region_held3 (λw'=>w'.cell? ⟨w.heap.size,0,.none⟩=some (.slice pf (bd P).length cf)) (go_keep) (first|(go_at_call 109;refine(restD HH.out.1 A1.out.2 (DD.out _ A1.out.1).1 (by have h:=HH.out;have:=h.1.top;have:=pow40.1;omega)).mono ?_;rintro en u9 ⟨v9,rfl,d9,gr9⟩;have q0:=CC.out _ ((A1.out.1).trans gr9);have FIN:=Lz (⟨_,rfl,d9,G0.out.trans ((A1.out.1).trans gr9)⟩:DgP _ w (.returned v9) u9);clear d9 gr9)|(go_at_call 110;refine(plusD HH.out.1 (DD.out _ (zzz w1 _ .none)).2.1 (DD.out _ (zzz w1 _ .none)).2.2 HH.out.2.1 (Nat.le_of_lt HH.out.2.2)).mono ?_;rintro en u1 ⟨v1,rfl,d1,gr1⟩;have gg:=(zzz w1 _ .none).trans gr1;have q0:=CC.out _ gg;have A1:=Lz (And.intro gg d1);obtain⟨p1,c1,rfl,-⟩:=d1;clear gr1 gg))
 go_wp2_with fail
 go_ret
 exact FIN.out
theorem mulF {w:World} {f u v:Value} {P a b:Nat} (hP:Fd P) (hf:Dg w f P) (hu:Dg w u a) (hv:Dg w v b) (ha:a<P) (hb:b<P):Calls Tryz.prog 64 #[.agg #[f],u,v] w (DgP (fm P a b) w):=by
 have n0:=heap_alloc_new w (.cells #[f] 39)
 have G0:=Lz (zzy w (.cells #[f] 39) .none)
 have q0:=zzv (k:=0) n0 rfl
 have CC:=Lz (λ(w':World) (k:(w.alloc (.cells #[f] 39)).grownBy w' .none)=>(k.cell q0 (by simp):w'.cell? ⟨w.heap.size,0,.none⟩=some f))
 have DD:=Lz (λ(w':World) (k:(w.alloc (.cells #[f] 39)).grownBy w' .none)=>(⟨hf.kept (G0.out.trans k),hu.kept (G0.out.trans k),hv.kept (G0.out.trans k)⟩:Dg w' f P/\Dg w' u a/\Dg w' v b))
 have HH:=Lz (And.intro hP (And.intro ha hb))
 obtain⟨pf,cf,rfl,-⟩:=hf
 obtain⟨pu,cu,rfl,-⟩:=hu
 obtain⟨pv,cv,rfl,-⟩:=hv
 clear hP ha hb n0
 go_enter Tryz.func64,Tryz.ntmps64
 go_upto_region 1 with fail
 generalize hw1:w.alloc (.cells #[.slice pf (bd P).length cf] 39)=w1 at *
 go_region_held3 (λw'=>w'.cell? ⟨w.heap.size,0,.none⟩=some (.slice pf (bd P).length cf)) (go_keep) (first|(go_at_call 109;refine(restD HH.out.1 A1.out.2 (DD.out _ A1.out.1).1 (by have h:=HH.out;have h1:=h.1.le h.2.1;have h2:=h.1.le h.2.2;exact Nat.lt_of_le_of_lt (Nat.mul_le_mul (Nat.le_of_lt h1) (Nat.le_of_lt h2)) pow40.2)).mono ?_;rintro en u9 ⟨v9,rfl,d9,gr9⟩;have q0:=CC.out _ ((A1.out.1).trans gr9);have FIN:=Lz (⟨_,rfl,d9,G0.out.trans ((A1.out.1).trans gr9)⟩:DgP _ w (.returned v9) u9);clear d9 gr9)|(go_at_call 111;refine(prodD HH.out.1 (DD.out _ (zzz w1 _ .none)).2.1 (DD.out _ (zzz w1 _ .none)).2.2 HH.out.2.1 HH.out.2.2).mono ?_;rintro en u1 ⟨v1,rfl,d1,gr1⟩;have gg:=(zzz w1 _ .none).trans gr1;have q0:=CC.out _ gg;have A1:=Lz (And.intro gg d1);obtain⟨p1,c1,rfl,-⟩:=d1;clear gr1 gg))
 go_wp2_with fail
 go_ret
 exact FIN.out
theorem subF {w:World} {f u v:Value} {P a b:Nat} (hP:Fd P) (hf:Dg w f P) (hu:Dg w u a) (hv:Dg w v b) (ha:a<P) (hb:b<=P):Calls Tryz.prog 63 #[.agg #[f],u,v] w (DgP (fs P a b) w):=by
 have n0:=heap_alloc_new w (.cells #[f] 39)
 have G0:=Lz (zzy w (.cells #[f] 39) .none)
 have q0:=zzv (k:=0) n0 rfl
 have CC:=Lz (λ(w':World) (k:(w.alloc (.cells #[f] 39)).grownBy w' .none)=>(k.cell q0 (by simp):w'.cell? ⟨w.heap.size,0,.none⟩=some f))
 have DD:=Lz (λ(w':World) (k:(w.alloc (.cells #[f] 39)).grownBy w' .none)=>(⟨hf.kept (G0.out.trans k),hu.kept (G0.out.trans k),hv.kept (G0.out.trans k)⟩:Dg w' f P/\Dg w' u a/\Dg w' v b))
 have HH:=Lz (And.intro hP (And.intro ha hb))
 obtain⟨pf,cf,rfl,-⟩:=hf
 obtain⟨pu,cu,rfl,-⟩:=hu
 obtain⟨pv,cv,rfl,-⟩:=hv
 clear hP ha hb n0
 go_enter Tryz.func63,Tryz.ntmps63
 go_upto_region 1 with fail
 generalize hw1:w.alloc (.cells #[.slice pf (bd P).length cf] 39)=w1 at *
 go_region_held3 (λw'=>w'.cell? ⟨w.heap.size,0,.none⟩=some (.slice pf (bd P).length cf)) (go_keep) (first|(go_at_call 109;refine(restD HH.out.1 A2.out.2 (DD.out _ A2.out.1).1 (by have h:=HH.out;have:=h.1.top;have:=pow40.1;omega)).mono ?_;rintro en u9 ⟨v9,rfl,d9,gr9⟩;have q0:=CC.out _ ((A2.out.1).trans gr9);have FIN:=Lz (⟨_,rfl,d9,G0.out.trans ((A2.out.1).trans gr9)⟩:DgP _ w (.returned v9) u9);clear d9 gr9)|(go_at_call 23;refine(minusD HH.out.1 A1.out.2 (DD.out _ A1.out.1).2.2 (by have h:=HH.out;have:=h.1.pos;omega) (by have h:=HH.out;omega)).mono ?_;rintro en u2 ⟨v2,rfl,d2,gr2⟩;have gg:=A1.out.1.trans gr2;have q0:=CC.out _ gg;have A2:=Lz (And.intro gg d2);obtain⟨p2,c2,rfl,-⟩:=d2;clear gr2 gg)|(go_at_call 110;refine(plusD HH.out.1 (DD.out _ (zzz w1 _ .none)).2.1 (DD.out _ (zzz w1 _ .none)).1 HH.out.2.1 (Nat.le_refl _)).mono ?_;rintro en u1 ⟨v1,rfl,d1,gr1⟩;have gg:=(zzz w1 _ .none).trans gr1;have q0:=CC.out _ gg;have A1:=Lz (And.intro gg d1);obtain⟨p1,c1,rfl,-⟩:=d1;clear gr1 gg))
 go_wp2_with fail
 go_ret
 exact FIN.out
end Go.Proofs.YtohhkjamddojmaaGreatDoor.Bit

namespace Go.Proofs.YtohhkjamddojmaaGreatDoor.Bit
open Go.RowKit
open Big
theorem addE {w:World} {f u v:Value} {P a b n:Nat} (hn:n=fa P a b) (hP:Fd P) (hf:Dg w f P) (hu:Dg w u a) (hv:Dg w v b) (ha:a<P) (hb:b<P):Calls Tryz.prog 65 #[.agg #[f],u,v] w (DgP n w):=hn ▸ addF hP hf hu hv ha hb
theorem subE {w:World} {f u v:Value} {P a b n:Nat} (hn:n=fs P a b) (hP:Fd P) (hf:Dg w f P) (hu:Dg w u a) (hv:Dg w v b) (ha:a<P) (hb:b<P):Calls Tryz.prog 63 #[.agg #[f],u,v] w (DgP n w):=hn ▸ subF hP hf hu hv ha (Nat.le_of_lt hb)
theorem mulE {w:World} {f u v:Value} {P a b n:Nat} (hn:n=fm P a b) (hP:Fd P) (hf:Dg w f P) (hu:Dg w u a) (hv:Dg w v b) (ha:a<P) (hb:b<P):Calls Tryz.prog 64 #[.agg #[f],u,v] w (DgP n w):=hn ▸ mulF hP hf hu hv ha hb
end Go.Proofs.YtohhkjamddojmaaGreatDoor.Bit
