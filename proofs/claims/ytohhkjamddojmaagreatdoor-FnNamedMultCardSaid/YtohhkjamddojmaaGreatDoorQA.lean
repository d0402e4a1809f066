/- Plain mathematics: the primes and the orders of four curves are primes; points by numbers, and what a multiple is, reckoned. Plain mathematics: the base points of four curves have the orders that are told. Plain mathematics: the groups of four curves: what multiples of the base points are apart. What the steps of bitcurves come to: doubling and adding in Jacobian coordinates on y^2 = x^3 + b. Sums of points as the specification asks them: chords and tangents without an inverse; doubling and adding in its projective coordinates: plain numbers. -/
import Derived.Test.YtohhkjamddojmaaGreatDoorEcLaw
import Derived.Test.YtohhkjamddojmaaGreatDoorOB
namespace Go.Proofs.YtohhkjamddojmaaGreatDoor.NumLaw
theorem p4:IsP 19979:=small 19979 143 (by decide +kernel)
theorem p5:IsP 6491:=small 6491 82 (by decide +kernel)
theorem p3:IsP 13227736279:=zxz (zyy 2 2037858 34 (zyy 2 662082 34 (zyj 13227736279) p4 (by decide +kernel)) p5 (by decide +kernel)) (by decide +kernel)
theorem p2:IsP 7900291948105309:=zxz (zyy 2 597252 53 (zyj 7900291948105309) p3 (by decide +kernel)) (by decide +kernel)
theorem p7:IsP 7933:=small 7933 91 (by decide +kernel)
theorem p8:IsP 23:=small 23 6 (by decide +kernel)
theorem p6:IsP 9064563121:=zxz (zyy 3 394111440 34 (zyy 2 1142640 34 (zyj 9064563121) p7 (by decide +kernel)) p8 (by decide +kernel)) (by decide +kernel)
theorem p1:IsP 61588775277324185343602394973294691093621473:=zxz (zyy 2 6794455999168962634399244200849632 146 (zyy 2 7795759407612112427233831008 146 (zyj 61588775277324185343602394973294691093621473) p2 (by decide +kernel)) p6 (by decide +kernel)) (by decide +kernel)
theorem p0:IsP 1461501637330902918203684832716283019651637554291:=zxz (zyy 2 23730 160 (zyj 1461501637330902918203684832716283019651637554291) p1 (by decide +kernel)) (by decide +kernel)
theorem prime160:IsP 1461501637330902918203684832716283019651637554291:=p0
theorem p13:IsP 12275743:=small 12275743 3505 (by decide +kernel)
theorem p14:IsP 634031:=small 634031 798 (by decide +kernel)
theorem p12:IsP 26429838000075999883:=zxz (zyy 2 41685403395222 65 (zyy 2 2153013304374 65 (zyj 26429838000075999883) p13 (by decide +kernel)) p14 (by decide +kernel)) (by decide +kernel)
theorem p11:IsP 1427211252004103993683:=zxz (zyy 2 54 71 (zyj 1427211252004103993683) p12 (by decide +kernel)) (by decide +kernel)
theorem p10:IsP 128449012680369359431471:=zxz (zyy 2 90 77 (zyj 128449012680369359431471) p11 (by decide +kernel)) (by decide +kernel)
theorem p18:IsP 2997227:=small 2997227 1733 (by decide +kernel)
theorem p17:IsP 17983363:=zxz (zyy 2 6 25 (zyj 17983363) p18 (by decide +kernel)) (by decide +kernel)
theorem p16:IsP 4603740929:=zxz (zyy 2 256 33 (zyj 4603740929) p17 (by decide +kernel)) (by decide +kernel)
theorem p20:IsP 1613:=small 1613 42 (by decide +kernel)
theorem p21:IsP 467:=small 467 23 (by decide +kernel)
theorem p19:IsP 332945783:=zxz (zyy 2 712946 29 (zyy 2 206414 29 (zyj 332945783) p20 (by decide +kernel)) p21 (by decide +kernel)) (by decide +kernel)
theorem p15:IsP 42918291593381467397:=zxz (zyy 2 128904746012 66 (zyy 2 9322481924 66 (zyj 42918291593381467397) p16 (by decide +kernel)) p19 (by decide +kernel)) (by decide +kernel)
theorem p9:IsP 1461501637330902918203686915170869725397159163571:=zxz (zyy 2 34053117751692720878877276810 161 (zyy 2 11378068284321360821618670 161 (zyj 1461501637330902918203686915170869725397159163571) p10 (by decide +kernel)) p15 (by decide +kernel)) (by decide +kernel)
theorem order160:IsP 1461501637330902918203686915170869725397159163571:=p9
theorem p25:IsP 8473813:=small 8473813 2912 (by decide +kernel)
theorem p24:IsP 138580737803:=zxz (zyy 2 16354 38 (zyj 138580737803) p25 (by decide +kernel)) (by decide +kernel)
theorem p27:IsP 2683:=small 2683 53 (by decide +kernel)
theorem p28:IsP 2473:=small 2473 51 (by decide +kernel)
theorem p26:IsP 16189543961:=zxz (zyy 2 6546520 34 (zyy 2 6034120 34 (zyj 16189543961) p27 (by decide +kernel)) p28 (by decide +kernel)) (by decide +kernel)
theorem p23:IsP 10489845818524887021689201254173392444641:=zxz (zyy 2 647939549365598527478448054240 133 (zyy 2 75694833097488405220460126880 133 (zyj 10489845818524887021689201254173392444641) p24 (by decide +kernel)) p26 (by decide +kernel)) (by decide +kernel)
theorem p22:IsP 6277101735386680763835789423207666416102355444459739541047:=zxz (zyy 2 598397902503145206 192 (zyj 6277101735386680763835789423207666416102355444459739541047) p23 (by decide +kernel)) (by decide +kernel)
theorem prime192:IsP 6277101735386680763835789423207666416102355444459739541047:=p22
theorem p34:IsP 866417:=small 866417 932 (by decide +kernel)
theorem p35:IsP 815669:=small 815669 905 (by decide +kernel)
theorem p33:IsP 1611297632578441:=zxz (zyy 2 1975430760 51 (zyy 2 1859725320 51 (zyj 1611297632578441) p34 (by decide +kernel)) p35 (by decide +kernel)) (by decide +kernel)
theorem p36:IsP 445097:=small 445097 669 (by decide +kernel)
theorem p32:IsP 31767070186748510944261247684750677:=zxz (zyy 2 71371117277241839294044326708 115 (zyy 2 19715209371911014836 115 (zyj 31767070186748510944261247684750677) p33 (by decide +kernel)) p36 (by decide +kernel)) (by decide +kernel)
theorem p31:IsP 434093022356392396149847294750353440317757907331:=zxz (zyy 2 13664874343290 159 (zyj 434093022356392396149847294750353440317757907331) p32 (by decide +kernel)) (by decide +kernel)
theorem p30:IsP 143250697377609490729449607267616635304860109419231:=zxz (zyy 2 330 167 (zyj 143250697377609490729449607267616635304860109419231) p31 (by decide +kernel)) (by decide +kernel)
theorem p29:IsP 6277101735386680763835789423061264271957123915200845512077:=zxz (zyy 2 43818996 192 (zyj 6277101735386680763835789423061264271957123915200845512077) p30 (by decide +kernel)) (by decide +kernel)
theorem order192:IsP 6277101735386680763835789423061264271957123915200845512077:=p29
theorem p41:IsP 17293:=small 17293 133 (by decide +kernel)
theorem p42:IsP 10663:=small 10663 105 (by decide +kernel)
theorem p43:IsP 3001:=small 3001 56 (by decide +kernel)
theorem p40:IsP 31670999344427766303479:=zxz (zyy 2 10553481954157869478 75 (zyy 2 2970177186948116506 75 (zyy 2 1831434646644756046 75 (zyj 31670999344427766303479) p41 (by decide +kernel)) p42 (by decide +kernel)) p43 (by decide +kernel)) (by decide +kernel)
theorem p39:IsP 30974237358850355444802463:=zxz (zyy 2 978 85 (zyj 30974237358850355444802463) p40 (by decide +kernel)) (by decide +kernel)
theorem p38:IsP 9743875111334057846550285755748171501325144788037:=zxz (zyy 2 314579984599682586438972 163 (zyj 9743875111334057846550285755748171501325144788037) p39 (by decide +kernel)) (by decide +kernel)
theorem p37:IsP 26959946667150639794667015087019630673637144422540572481099315275117:=zxz (zyy 2 2766860859679007868 224 (zyj 26959946667150639794667015087019630673637144422540572481099315275117) p38 (by decide +kernel)) (by decide +kernel)
theorem prime224:IsP 26959946667150639794667015087019630673637144422540572481099315275117:=p37
theorem p48:IsP 10083949:=small 10083949 3177 (by decide +kernel)
theorem p49:IsP 4437767:=small 4437767 2108 (by decide +kernel)
theorem p47:IsP 58597812472881879287:=zxz (zyy 2 13204346346458 66 (zyy 2 5810998496014 66 (zyj 58597812472881879287) p48 (by decide +kernel)) p49 (by decide +kernel)) (by decide +kernel)
theorem p51:IsP 12019933:=small 12019933 3468 (by decide +kernel)
theorem p50:IsP 6058046233:=zxz (zyy 2 504 33 (zyj 6058046233) p51 (by decide +kernel)) (by decide +kernel)
theorem p46:IsP 2514514399252200308862687893991356095647329471:=zxz (zyy 2 415070189718078420756530382522644590 151 (zyy 2 42911403909759889757861810 151 (zyj 2514514399252200308862687893991356095647329471) p47 (by decide +kernel)) p50 (by decide +kernel)) (by decide +kernel)
theorem p45:IsP 4493324444525106632444502514503273391085054513853345758165826444713:=zxz (zyy 2 1786955145638215926872 222 (zyj 4493324444525106632444502514503273391085054513853345758165826444713) p46 (by decide +kernel)) (by decide +kernel)
theorem p44:IsP 26959946667150639794667015087019640346510327083120074548994958668279:=zxz (zyy 2 6 225 (zyj 26959946667150639794667015087019640346510327083120074548994958668279) p45 (by decide +kernel)) (by decide +kernel)
theorem order224:IsP 26959946667150639794667015087019640346510327083120074548994958668279:=p44
theorem p56:IsP 53:=small 53 9 (by decide +kernel)
theorem p57:IsP 29:=small 29 7 (by decide +kernel)
theorem p58:IsP 7:=small 7 4 (by decide +kernel)
theorem p55:IsP 107590001:=zxz (zyy 2 15370000 27 (zyy 2 3710000 27 (zyy 2 2030000 27 (zyj 107590001) p56 (by decide +kernel)) p57 (by decide +kernel)) p58 (by decide +kernel)) (by decide +kernel)
theorem p59:IsP 7240687:=small 7240687 2692 (by decide +kernel)
theorem p60:IsP 96557:=small 96557 312 (by decide +kernel)
theorem p54:IsP 255515944373312847190720520512484175977:=zxz (zyy 2 2646270538369179315748423423599368 128 (zyy 2 35288908963101546467996824129048 128 (zyy 2 2374904191824599455024826335976 128 (zyj 255515944373312847190720520512484175977) p55 (by decide +kernel)) p59 (by decide +kernel)) p60 (by decide +kernel)) (by decide +kernel)
theorem p53:IsP 205115282021455665897114700593932402728804164701536103180137503955397371:=zxz (zyy 2 802749442992798076634733441528810 237 (zyj 205115282021455665897114700593932402728804164701536103180137503955397371) p54 (by decide +kernel)) (by decide +kernel)
theorem p52:IsP 115792089237316195423570985008687907853269984665640564039457584007908834671663:=zxz (zyy 2 564522 256 (zyj 115792089237316195423570985008687907853269984665640564039457584007908834671663) p53 (by decide +kernel)) (by decide +kernel)
theorem prime256:IsP 115792089237316195423570985008687907853269984665640564039457584007908834671663:=p52
theorem p65:IsP 1627771:=small 1627771 1277 (by decide +kernel)
theorem p64:IsP 297159362677:=zxz (zyy 2 182556 39 (zyj 297159362677) p65 (by decide +kernel)) (by decide +kernel)
theorem p67:IsP 28181:=small 28181 169 (by decide +kernel)
theorem p66:IsP 545358713:=zxz (zyy 2 19352 30 (zyj 545358713) p67 (by decide +kernel)) (by decide +kernel)
theorem p63:IsP 29047611873442575647497758179:=zxz (zyy 2 53263313083699784306 95 (zyy 2 97750956294169114 95 (zyj 29047611873442575647497758179) p64 (by decide +kernel)) p66 (by decide +kernel)) (by decide +kernel)
theorem p62:IsP 341948486974166000522343609283189:=zxz (zyy 2 11772 109 (zyj 341948486974166000522343609283189) p63 (by decide +kernel)) (by decide +kernel)
theorem p70:IsP 9349:=small 9349 98 (by decide +kernel)
theorem p69:IsP 44706919:=zxz (zyy 2 4782 26 (zyj 44706919) p70 (by decide +kernel)) (by decide +kernel)
theorem p71:IsP 120233:=small 120233 348 (by decide +kernel)
theorem p68:IsP 174723607534414371449:=zxz (zyy 2 1453208416444856 68 (zyy 2 3908200597192 68 (zyj 174723607534414371449) p69 (by decide +kernel)) p71 (by decide +kernel)) (by decide +kernel)
theorem p61:IsP 115792089237316195423570985008687907852837564279074904382605163141518161494337:=zxz (zyy 2 662715765037699607481235088557493206623080876315205958464 256 (zyy 2 338624364920977752681389262317185522840540224 256 (zyj 115792089237316195423570985008687907852837564279074904382605163141518161494337) p62 (by decide +kernel)) p68 (by decide +kernel)) (by decide +kernel)
theorem order256:IsP 115792089237316195423570985008687907852837564279074904382605163141518161494337:=p61
end Go.Proofs.YtohhkjamddojmaaGreatDoor.NumLaw
namespace Go.Proofs.YtohhkjamddojmaaGreatDoor.EcLaw
open NumLaw (IsP pm pm_eq)
theorem prm_of_isP {p:Nat} (h:IsP p) (h2:2<p):Prm (p:Int):=⟨by omega,λx y hd=>h.int x y hd⟩
abbrev PtN:=Option (Nat×Nat)
def toPt:PtN->Pt
 | none=>.inf
 | some (x,y)=>.aff x y
def invN (p k x:Nat):Nat:=pm p k x (p-2)
def slopeN (p k a x1 y1 x2 y2:Nat):Nat:=if x1=x2 then((3*x1*x1+a)*invN p k (2*y1%p))%p else((y1+p-y2)*invN p k ((x1+p-x2)%p))%p
def chordN (p l x1 y1 x2:Nat):PtN:=some ((l*l+2*p-x1-x2)%p,(l*(x1+p-(l*l+2*p-x1-x2)%p)+p-y1)%p)
def addN (p k a:Nat):PtN->PtN->PtN
 | none,B=>B
 | some A,none=>some A
 | some (x1,y1),some (x2,y2)=>if x1=x2/\(y1+y2)%p=0 then none else chordN p (slopeN p k a x1 y1 x2 y2) x1 y1 x2
def mulN (p k a:Nat) (P:PtN):Nat->Nat->PtN
 | 0,_=>none
 | f+1,n=>if n=0 then none else
  match mulN p k a P f (n/2) with
  | none=>if n%2=1 then P else none
  | some (x,y)=>if n%2=1 then addN p k a (addN p k a (some (x,y)) (some (x,y))) P else addN p k a (some (x,y)) (some (x,y))
theorem inv_ok {p k x:Nat} (h:IsP p) (hk:p-2<2^k) (hx:¬p∣x):(p:Int)∣(x:Int)*(invN p k x:Int)-1:=by
 unfold invN
 rw[pm_eq p k x _ hk]
 have h2:=h.1
 have e:=h.fermat1 hx
 have e1:(x*(x^(p-2)%p))%p=1:=by
  rw[Nat.mul_mod_mod,show x*x^(p-2)=x^(p-1) by rw[Nat.mul_comm,<-Nat.pow_succ];congr 1;omega];exact e
 generalize x^(p-2)%p=i at *
 refine⟨((x*i/p:Nat):Int),?_⟩
 have:=Nat.div_add_mod (x*i) p
 rw[e1] at this
 have:((p*(x*i/p)+1:Nat):Int)=((x*i:Nat):Int):=by rw[this]
 simp only[Int.natCast_add,Int.natCast_mul] at this
 simp only[Int.natCast_ediv] at *
 omega
theorem castmod {p n:Nat} {e:Int} (h:(p:Int)∣(n:Int)-e):(p:Int)∣((n%p:Nat):Int)-e:=by
 have h1:(p:Int)∣((n%p:Nat):Int)-n:=by rw[Int.natCast_emod];exact zyq _ _
 exact lin2 1 1 h1 h (by omega)
theorem natdvd {p n:Nat}:(p:Int)∣(n:Int)↔p∣n:=Int.natCast_dvd_natCast
theorem addN_ok {p k:Nat} {a:Nat} {b:Int} (h:IsP p) (h2:2<p) (hk:p-2<2^k) {A B:PtN} (hA:On p a b (toPt A)) (hB:On p a b (toPt B)) :
 toPt (addN p k a A B)=add p a (toPt A) (toPt B):=by
 have hp:=prm_of_isP h h2
 match A,B with
 | none,none=>rfl
 | none,some _=>rfl
 | some _,none=>rfl
 | some (x1,y1),some (x2,y2)=>
  have bx1:x1<p:=by have:=hA.2.1;omega
  have by1:y1<p:=by have:=hA.2.2.2.1;omega
  have bx2:x2<p:=by have:=hB.2.1;omega
  have by2:y2<p:=by have:=hB.2.2.2.1;omega
  show toPt (if x1=x2/\(y1+y2)%p=0 then none else _)=add p a (.aff x1 y1) (.aff x2 y2)
  have ex:((p:Int)∣(x1:Int)-x2)↔x1=x2:=by
   refine⟨λhh=>?_,λhh=>by rw[hh];simp⟩
   have:=eq_of_range (p:=(p:Int)) (by omega) (by omega) (by omega) (by omega) hh
   omega
  have ey:((p:Int)∣(y1:Int)+y2)↔(y1+y2)%p=0:=by
   rw[show(y1:Int)+y2=((y1+y2:Nat):Int) by omega,natdvd,Nat.dvd_iff_mod_eq_zero]
  by_cases c:x1=x2/\(y1+y2)%p=0
  . rw[if_pos c,add_opp ⟨ex.2 c.1,ey.2 c.2⟩];rfl
  . rw[if_neg c]
    have hne:¬((p:Int)∣(x1:Int)-x2/\(p:Int)∣(y1:Int)+y2):=λhh=>c ⟨ex.1 hh.1,ey.1 hh.2⟩
    have hsl:Sl p a x1 y1 x2 y2 (slopeN p k a x1 y1 x2 y2):=by
     have fA:=hA.2.2.2.2
     have fB:=hB.2.2.2.2
     unfold slopeN
     by_cases cx:x1=x2
     . rw[if_pos cx]
       have cy:¬(p:Int)∣(y1:Int)+y2:=λhh=>hne ⟨ex.2 cx,hh⟩
       have exx:=ex.2 cx
       have e0:(p:Int)∣((y1:Int)+y2)*((y1:Int)-y2):=lin3 1 (-1) ((x1:Int)^2+x1*x2+(x2:Int)^2+a) fA fB exx (by grind)
       have hyy:=hp.cancel cy e0
       have n2y:¬p∣2*y1%p:=by
        rw[Nat.dvd_iff_mod_eq_zero,Nat.mod_mod,<-Nat.dvd_iff_mod_eq_zero]
        intro hd
        refine cy (lin2 1 (-1) (natdvd.2 hd) hyy (by push_cast;grind))
       have hi:=inv_ok h hk n2y
       have q:(p:Int)∣((2*y1%p:Nat):Int)-2*y1:=castmod (by push_cast;simp)
       generalize invN p k (2*y1%p)=i at *
       have ql:(p:Int)∣(((3*x1*x1+a)*i%p:Nat):Int)-(3*(x1:Int)*x1+a)*i:=castmod (by push_cast;simp)
       generalize ((3*x1*x1+a)*i%p:Nat)=l at *
       generalize (2*y1%p:Nat)=d at *
       have hi2:(p:Int)∣2*(y1:Int)*i-1:=lin2 1 (-i) hi q (by grind)
       refine⟨hne,?_,?_⟩
       . exact lin2 l (-1) exx hyy (by grind)
       . exact lin2 1 1 (lin3 (2*y1) (3*(x1:Int)*x1+a) (2*(x1:Int)+x2) ql hi2 exx rfl) (lin2 (-l) 0 hyy hyy rfl) (by grind)
     . rw[if_neg cx]
       have cxx:¬(p:Int)∣(x1:Int)-x2:=λhh=>cx (ex.1 hh)
       have q:(p:Int)∣(((x1+p-x2)%p:Nat):Int)-(x1-x2):=castmod ⟨1,by omega⟩
       have nx:¬p∣(x1+p-x2)%p:=by
        intro hd
        exact cxx (lin2 1 (-1) (natdvd.2 hd) q (by omega))
       have hi:=inv_ok h hk nx
       generalize invN p k ((x1+p-x2)%p)=i at *
       generalize ((x1+p-x2)%p:Nat)=d at *
       have ql:(p:Int)∣(((y1+p-y2)*i%p:Nat):Int)-((y1:Int)-y2)*i:=castmod ⟨i,by rw[Int.natCast_mul,show((y1+p-y2:Nat):Int)=y1+p-y2 by omega];grind⟩
       generalize ((y1+p-y2)*i%p:Nat)=l at *
       have hi2:(p:Int)∣((x1:Int)-x2)*i-1:=lin2 1 (-i) hi q (by grind)
       have hc:(p:Int)∣(l:Int)*(x1-x2)-(y1-y2):=lin2 ((x1:Int)-x2) ((y1:Int)-y2) ql hi2 (by grind)
       refine⟨hne,hc,hp.cancel cxx ?_⟩
       exact lin3 ((y1:Int)+y2) 1 (-1) hc fA fB (by grind)
    generalize slopeN p k a x1 y1 x2 y2=l at *
    symm
    have X:(p:Int)∣(((l*l+2*p-x1-x2)%p:Nat):Int)-((l:Int)^2-x1-x2):=castmod ⟨2,by
     have:((l*l+2*p-x1-x2:Nat):Int)=((l*l:Nat):Int)+2*p-x1-x2:=by omega
     rw[this,Int.natCast_mul];grind⟩
    have bx:(l*l+2*p-x1-x2)%p<p:=Nat.mod_lt _ (by omega)
    generalize hX:(l*l+2*p-x1-x2)%p=x3 at *
    have Y:(p:Int)∣(((l*(x1+p-x3)+p-y1)%p:Nat):Int)-((l:Int)*(x1-x3)-y1):=castmod ⟨l+1,by
     have:((l*(x1+p-x3)+p-y1:Nat):Int)=((l*(x1+p-x3):Nat):Int)+p-y1:=by omega
     rw[this,Int.natCast_mul,show((x1+p-x3:Nat):Int)=x1+p-x3 by omega];grind⟩
    have byy:(l*(x1+p-x3)+p-y1)%p<p:=Nat.mod_lt _ (by omega)
    unfold chordN
    rw[hX]
    exact add_is hp hA hB hsl ⟨by omega,by omega,by omega,by omega⟩ X Y
theorem mulN_ok {p k a:Nat} {b:Int} (h:IsP p) (h2:2<p) (hk:p-2<2^k) (hc:Cv p a b) {P:PtN} (hP:On p a b (toPt P)) :
 ∀ f n,n<2^f->toPt (mulN p k a P f n)=mul p a n (toPt P)
 | 0,n,hn=>by rw[show n=0 by simpa using hn];rfl
 | f+1,n,hn=>by
  unfold mulN
  by_cases h0:n=0
  . rw[if_pos h0,h0];rfl
  . rw[if_neg h0]
    have ih:=mulN_ok h h2 hk hc hP f (n/2) (by rw[Nat.pow_succ] at hn;omega)
    have e2:=mul_two_mul hc hP (n/2)
    have ho:=mul_on hc.prm hP (n/2)
    generalize mulN p k a P f (n/2)=Q at *
    have hQ:On p a b (toPt Q):=by rw[ih];exact ho
    have eQ:toPt (addN p k a Q Q)=mul p a (2*(n/2)) (toPt P):=by rw[addN_ok h h2 hk hQ hQ,ih,e2]
    have oQ:On p a b (toPt (addN p k a Q Q)):=by rw[eQ];exact mul_on hc.prm hP _
    by_cases h1:n%2=1
    . have e1:mul p a n (toPt P)=add p a (mul p a (2*(n/2)) (toPt P)) (toPt P):=by
       conv=>lhs;rw[show n=2*(n/2)+1 by omega]
       rfl
      match Q with
      | none=>rw[e1,<-eQ];simp only[h1,if_true];rfl
      | some (x,y)=>simp only[h1,if_true];rw[addN_ok h h2 hk oQ hP,eQ,e1]
    . have e1:mul p a n (toPt P)=mul p a (2*(n/2)) (toPt P):=by
       conv=>lhs;rw[show n=2*(n/2) by omega]
      match Q with
      | none=>simp only[h1,if_false];rw[e1,<-eQ];rfl
      | some (x,y)=>simp only[h1,if_false];rw[eQ,e1]
end Go.Proofs.YtohhkjamddojmaaGreatDoor.EcLaw

set_option maxRecDepth 100000
namespace Go.Proofs.YtohhkjamddojmaaGreatDoor.EcLaw
open NumLaw (IsP)
structure Nums where
 p:Nat
 n:Nat
 b:Nat
 x:Nat
 y:Nat
def nums160:Nums:=⟨1461501637330902918203684832716283019651637554291,1461501637330902918203686915170869725397159163571,7,338530205676502674729549372677647997389429898939,842365456698940303598009444920994870805149798382⟩
def nums192:Nums:=⟨6277101735386680763835789423207666416102355444459739541047,6277101735386680763835789423061264271957123915200845512077,3,5377521262291226325198505011805525673063229037935769709693,3805108391982600717572440947423858335415441070543209377693⟩
def nums224:Nums:=⟨26959946667150639794667015087019630673637144422540572481099315275117,26959946667150639794667015087019640346510327083120074548994958668279,5,16983810465656793445178183341822322175883642221536626637512293983324,13272896753306862154536785447615077600479862871316829862783613755813⟩
def nums256:Nums:=⟨115792089237316195423570985008687907853269984665640564039457584007908834671663,115792089237316195423570985008687907852837564279074904382605163141518161494337,7,55066263022277343669578718895168534326250603453777594175500187360389116729240,32670510020758816978083085130507043184471273380659243275938904335757337482424⟩
theorem reckoned160:mulN nums160.p 256 0 (some (nums160.x,nums160.y)) 257 nums160.n=none:=by decide +kernel
theorem reckoned192:mulN nums192.p 256 0 (some (nums192.x,nums192.y)) 257 nums192.n=none:=by decide +kernel
theorem reckoned224:mulN nums224.p 256 0 (some (nums224.x,nums224.y)) 257 nums224.n=none:=by decide +kernel
theorem reckoned256:mulN nums256.p 256 0 (some (nums256.x,nums256.y)) 257 nums256.n=none:=by decide +kernel
end Go.Proofs.YtohhkjamddojmaaGreatDoor.EcLaw

namespace Go.Proofs.YtohhkjamddojmaaGreatDoor.EcLaw
open NumLaw (IsP)
def Nums.G (c:Nums):Pt:=.aff (c.x:Int) (c.y:Int)
structure Grp (c:Nums):Prop where
 pp:IsP c.p
 pn:IsP c.n
 cv:Cv (c.p:Int) 0 (c.b:Int)
 on:On (c.p:Int) 0 (c.b:Int) c.G
 ord:mul (c.p:Int) 0 c.n c.G=.inf
 p5:5<c.p
 n5:5<c.n
 pB:c.p<2^256
 nB:c.n<2^256
theorem Grp.prm {c:Nums} (h:Grp c):Prm (c.p:Int):=h.cv.prm
theorem Grp.ne {c:Nums} (h:Grp c) {o:Nat} (h0:0<o) (h1:o<c.n):mul (c.p:Int) 0 o c.G≠.inf:=by
 intro e
 have hn:=prm_of_isP h.pn (by have:=h.n5;omega)
 have hnd:¬(c.n:Int)∣(o:Int):=λhd=>by
  have:=Nat.le_of_dvd h0 (Int.natCast_dvd_natCast.1 hd)
  omega
 obtain⟨i,hi⟩:=hn.inv _ hnd
 have hc0:(0:Int)<c.n:=by have:=h.n5;omega
 -- i from 0 on
 obtain⟨j,hj⟩:∃ j:Nat,(j:Int)=i%c.n:=⟨(i%c.n).toNat,by have:=Int.emod_nonneg i (show(c.n:Int)≠0 by omega);omega⟩
 have hd:(c.n:Int)∣(o:Int)*j-1:=by
  rw[hj]
  exact lin2 1 (o:Int) hi (zyq (c.n:Int) i) (by grind)
 have hj0:0<j:=by
  rcases Nat.eq_zero_or_pos j with h0|h0
  . exfalso
    rw[h0] at hd
    obtain⟨t,ht⟩:=hd
    have:(c.n:Int)∣1:=⟨-t,by rw[Int.mul_neg,<-ht];simp⟩
    have:=Int.le_of_dvd (by omega) this
    have:=h.n5
    omega
  . exact h0
 have ho1:1<=o*j:=Nat.mul_pos h0 hj0
 obtain⟨t,ht⟩:=hd
 have ht0:0<=t:=by
  rcases Int.lt_or_le t 0 with h2|h2
  . exfalso
    have h3:=Int.mul_neg_of_pos_of_neg hc0 h2
    have:((o*j:Nat):Int)=(o:Int)*j:=Int.natCast_mul _ _
    omega
  . exact h2
 obtain⟨s,rfl⟩:∃ s:Nat,t=s:=⟨t.toNat,by omega⟩
 have hs:o*j=c.n*s+1:=by
  have e1:((o*j:Nat):Int)=(o:Int)*j:=Int.natCast_mul _ _
  have e2:((c.n*s:Nat):Int)=(c.n:Int)*s:=Int.natCast_mul _ _
  omega
 have k1:mul (c.p:Int) 0 (o*j) c.G=.inf:=by rw[mul_mul h.cv h.on,e,mul_inf]
 rw[hs,mul_add h.cv h.on,mul_mul h.cv h.on,h.ord,mul_inf,mul_one] at k1
 cases k1
theorem Grp.apart {c:Nums} (h:Grp c) {i j:Nat} (hij:i<j) (hj:j-i<c.n):mul (c.p:Int) 0 i c.G≠mul (c.p:Int) 0 j c.G:=by
 intro e
 have hi:=mul_on h.prm h.on i
 have hd:=mul_on h.prm h.on (j-i)
 have e1:mul (c.p:Int) 0 j c.G=add (c.p:Int) 0 (mul (c.p:Int) 0 i c.G) (mul (c.p:Int) 0 (j-i) c.G):=by rw[<-mul_add h.cv h.on];congr 1;omega
 have e2:=cancel h.cv hi hd
 rw[<-e1,<-e,add_comm h.prm (neg_on h.prm hi) hi,add_neg hi] at e2
 exact h.ne (by omega) hj e2.symm
set_option exponentiation.threshold 300 in
theorem grp_of {c:Nums} (pp:IsP c.p) (pn:IsP c.n) (h:(decide (5<c.p)&&decide (5<c.n)&&decide (c.p<2^256)&&decide (c.n<2^256)&&decide (c.x<c.p)&&decide (c.y<c.p)&&(c.y^2%c.p==(c.x^3+c.b)%c.p)&&(c.b%c.p != 0))=true)
 (hr:mulN c.p 256 0 (some (c.x,c.y)) 257 c.n=none):Grp c:=by
 simp only[Bool.and_eq_true,decide_eq_true_eq,beq_iff_eq,bne_iff_ne] at h
 obtain⟨⟨⟨⟨⟨⟨⟨p5,n5⟩,pB⟩,nB⟩,hx⟩,hy⟩,ho⟩,hd⟩:=h
 have hp:=prm_of_isP pp (by omega)
 have hcv:Cv (c.p:Int) 0 (c.b:Int):=⟨hp,by
  intro x hx h3
  have h4:(c.p:Int)∣3*(x*x):=by
   have e:3*x^2+0=3*(x*x):=by grind
   rw[<-e];exact h3
  have h5:¬(c.p:Int)∣3:=λhh=>by
   have:=Int.le_of_dvd (by omega) hh
   omega
  have h6:=hp.sq (hp.cancel h5 h4)
  have h7:(c.p:Int)∣(c.b:Int):=lin2 1 (-(x^2)) hx h6 (by grind)
  exact hd (Nat.mod_eq_zero_of_dvd (Int.natCast_dvd_natCast.1 h7))⟩
 have hon:On (c.p:Int) 0 (c.b:Int) c.G:=by
  refine⟨by omega,by omega,by omega,by omega,?_⟩
  have e1:((c.y^2%c.p:Nat):Int)=((c.x^3+c.b)%c.p:Nat):=by rw[ho]
  have a1:(c.p:Int)∣((c.y^2%c.p:Nat):Int)-((c.y^2:Nat):Int):=by
   rw[Int.natCast_emod];exact zyq _ _
  have a2:(c.p:Int)∣(((c.x^3+c.b)%c.p:Nat):Int)-((c.x^3+c.b:Nat):Int):=by
   rw[Int.natCast_emod];exact zyq _ _
  rw[e1] at a1
  refine lin2 (-1) 1 a1 a2 ?_
  push_cast
  grind
 refine⟨pp,pn,hcv,hon,?_,p5,n5,pB,nB⟩
 have:=mulN_ok (k:=256) (a:=0) (b:=(c.b:Int)) pp (by omega) (by omega) hcv (P:=some (c.x,c.y)) hon 257 c.n (Nat.lt_trans nB (Nat.pow_lt_pow_right (by decide) (by decide)))
 rw[hr] at this
 exact this.symm
theorem grp160:Grp nums160:=grp_of NumLaw.prime160 NumLaw.order160 (by decide +kernel) reckoned160
theorem grp192:Grp nums192:=grp_of NumLaw.prime192 NumLaw.order192 (by decide +kernel) reckoned192
theorem grp224:Grp nums224:=grp_of NumLaw.prime224 NumLaw.order224 (by decide +kernel) reckoned224
theorem grp256:Grp nums256:=grp_of NumLaw.prime256 NumLaw.order256 (by decide +kernel) reckoned256
end Go.Proofs.YtohhkjamddojmaaGreatDoor.EcLaw

namespace Go.Proofs.YtohhkjamddojmaaGreatDoor.Bit
open EcLaw
open Big (BitDbl BitAdd)
theorem dvd_mod {p v w:Int} (h:w=v%p):p∣w-v:=h ▸ zyq p v
theorem dvd_fix {p v w:Int} (h:w=if v<0 then v+p else v):p∣w-v:=by
 subst h
 split
 . exact⟨1,by omega⟩
 . exact⟨0,by omega⟩
theorem mod_in {p v w:Int} (hp:0<p) (h:w=v%p):0<=w/\w<p:=by
 subst h
 exact⟨Int.emod_nonneg _ (by omega),Int.emod_lt_of_pos _ hp⟩
def Red (p X Y Z:Int):Prop:=(0<=X/\X<p)/\(0<=Y/\Y<p)/\(0<=Z/\Z<p)
theorem z3_id {p Z1 Z2 Z3 a b h:Int} (t:p∣Z3-((Z1+Z2)*(Z1+Z2)-a-b)*h) (c2:p∣a-Z1*Z1) (c4:p∣b-Z2*Z2):p∣Z3-2*Z1*Z2*h:=lin3 1 (-h) (-h) t c2 c4 (by grind)
def IsJ (p:Int) (A:Pt) (X Y Z:Int):Prop:=Red p X Y Z/\Jac p X Y Z A
theorem bitDbl_isJ {p b X Y Z X3 Y3 Z3:Int} {A:Pt} (h:Prm p) (hA:On p 0 b A) (j:IsJ p A X Y Z) (D:BitDbl X Y Z p X3 Y3 Z3):IsJ p (add p 0 A A) X3 Y3 Z3:=by
 have hp:0<p:=by have:=h.two;omega
 obtain⟨v1,v2,v3,v4,v5,v6,v7,v9,v11,v12,v14,v15,v17,v18,v20,v21,v23,v25,e1,e2,e3,e4,e5,e6,e7,e9,e11,e12,e14,e15,e16,e17,e18,e20,e21,e22,e23,e25,e26⟩:=D
 have c16:=dvd_mod e16
 have c22:=dvd_mod e22
 have c26:=dvd_mod e26
 refine⟨⟨mod_in hp e16,mod_in hp e22,mod_in hp e26⟩,?_⟩
 have kZ:p∣Z3-2*Y*Z:=zzq 1 c26 (by rw[e25,e23];grind)
 have eD:v9=4*X*Y^2:=by rw[e9,e7,e6,e5,e4,e3,e2,e1];grind
 have eE:v11=3*X^2+0*Z^4:=by rw[e11,e1];grind
 have kX:p∣X3-(v11^2-2*v9):=zzq 1 c16 (by rw[e15,e14,e12];grind)
 have kY:p∣Y3-(v11*(v9-X3)-8*Y^4):=zzq 1 c22 (by rw[e21,e20,e18,e17,e3,e2];grind)
 cases A with
 | inf=>exact jac_double_inf (Y:=Y) j.2 kZ
 | aff x y=>exact jac_double h hA j.2 (M:=v11) (S:=v9) (by rw[eE];simp) (by rw[eD];simp) kX kY kZ
theorem bitAdd_isJ {p b X1 Y1 Z1 X2 Y2 Z2 X3 Y3 Z3:Int} {A B:Pt} (h:Prm p) (hA:On p 0 b A) (hB:On p 0 b B) (jA:IsJ p A X1 Y1 Z1) (jB:IsJ p B X2 Y2 Z2) (nA:A≠.inf) (nB:B≠.inf) (nAB:A≠B) (D:BitAdd X1 Y1 Z1 X2 Y2 Z2 p X3 Y3 Z3):IsJ p (add p 0 A B) X3 Y3 Z3:=by
 have hp:0<p:=by have:=h.two;omega
 obtain⟨v1,v2,v3,v4,v5,v6,v7,v8,v9,v10,v11,v12,v13,v14,v15,v16,v17,v18,v19,v20,v21,v22,v23,v24,v25,v26,v27,v28,v30,v31,v32,v33,v34,v35,v37,v38,v39,v40,v41,v42,v43,e1,e2,e3,e4,e5,e6,e7,e8,e9,e10,e11,e12,e13,e14,e15,e16,e17,e18,e19,e20,e21,e22,e23,e24,e25,e26,e27,e28,e29,e30,e31,e32,e33,e34,e35,e36,e37,e38,e39,e40,e41,e42,e43,e44⟩:=D
 have c2:=dvd_mod e2
 have c4:=dvd_mod e4
 have c6:=dvd_mod e6
 have c8:=dvd_mod e8
 have c10:=dvd_fix e10
 have c16:=dvd_mod e16
 have c19:=dvd_mod e19
 have c21:=dvd_fix e21
 have c29:=dvd_mod e29
 have c36:=dvd_mod e36
 have c40:=dvd_fix e40
 have c42:=dvd_fix e42
 have c44:=dvd_mod e44
 rw[e1] at c2
 rw[e3] at c4
 rw[e5] at c6
 rw[e7] at c8
 rw[e9] at c10
 rw[e15,e14] at c16
 rw[e18,e17] at c19
 rw[e20] at c21
 have kU1:p∣v6-X1*Z2^2:=lin2 1 X1 c6 c4 (by grind)
 have kU2:p∣v8-X2*Z1^2:=lin2 1 X2 c8 c2 (by grind)
 have kH:p∣v10-(v8-v6):=zzq 1 c10 (by grind)
 have kS1:p∣v16-Y1*Z2^3:=lin2 1 (Y1*Z2) c16 c4 (by grind)
 have kS2:p∣v19-Y2*Z1^3:=lin2 1 (Y2*Z1) c19 c2 (by grind)
 have kR:p∣v21-(v19-v16):=zzq 1 c21 (by grind)
 refine⟨⟨mod_in hp e29,mod_in hp e36,mod_in hp e44⟩,?_⟩
 have kX:p∣X3-(4*v21^2-4*v10^3-8*v6*v10^2):=zzq 1 c29 (by rw[e28,e27,e26,e25,e24,e23,e22,e13,e12,e11];grind)
 have kY:p∣Y3-(2*v21*(4*v6*v10^2-X3)-8*v16*v10^3):=zzq 1 c36 (by rw[e35,e34,e33,e32,e31,e30,e23,e22,e13,e12,e11];grind)
 have k42:p∣v42-((Z1+Z2)*(Z1+Z2)-v2-v4):=by
  rw[e41] at c42
  rw[e39,e38,e37] at c40
  exact lin2 1 1 c42 c40 (by grind)
 have kZ:p∣Z3-2*Z1*Z2*v10:=by
  rw[e43] at c44
  have t:p∣Z3-((Z1+Z2)*(Z1+Z2)-v2-v4)*v10:=lin2 1 v10 c44 k42 (by grind)
  exact z3_id t c2 c4
 cases A with
 | inf=>exact absurd rfl nA
 | aff x1 y1=>
  cases B with
  | inf=>exact absurd rfl nB
  | aff x2 y2=>
   refine jac_add h hA hB jA.2 jB.2 kU1 kU2 kH kS1 kS2 kR kX kY kZ ?_
   rintro⟨h0,r0⟩
   refine nAB ?_
   obtain⟨m1,ex1,ey1⟩:=jA.2
   obtain⟨m2,ex2,ey2⟩:=jB.2
   have n12:=h.nmul m1 m2
   have n4:=h.nmul n12 n12
   have n6:=h.nmul n4 n12
   have gx:p∣(Z1*Z2*(Z1*Z2))*(x1-x2):=by
    have a1:p∣v8-v6:=lin2 1 (-1) h0 kH (by grind)
    have a2:p∣v6-x1*(Z1*Z2)^2:=lin2 1 (Z2^2) kU1 ex1 (by grind)
    have a3:p∣v8-x2*(Z1*Z2)^2:=lin2 1 (Z1^2) kU2 ex2 (by grind)
    exact lin3 (-1) (-1) 1 a1 a2 a3 (by grind)
   have gy:p∣(Z1*Z2*(Z1*Z2)*(Z1*Z2))*(y1-y2):=by
    have a1:p∣v19-v16:=lin2 1 (-1) r0 kR (by grind)
    have a2:p∣v16-y1*(Z1*Z2)^3:=lin2 1 (Z2^3) kS1 ey1 (by grind)
    have a3:p∣v19-y2*(Z1*Z2)^3:=lin2 1 (Z1^3) kS2 ey2 (by grind)
    exact lin3 (-1) (-1) 1 a1 a2 a3 (by grind)
   exact aff_eq hA hB (h.cancel n4 gx) (h.cancel n6 gy)
theorem aff_isJ {p b x y:Int} (h:Prm p) (hA:On p 0 b (.aff x y)):IsJ p (.aff x y) x y 1:=by
 have h2:=h.two
 refine⟨⟨⟨hA.1,hA.2.1⟩,⟨hA.2.2.1,hA.2.2.2.1⟩,by omega,by omega⟩,h.not1,?_,?_⟩
 . exact⟨0,by grind⟩
 . exact⟨0,by grind⟩
theorem Grp_aff {c:Nums} (h:Grp c) {o:Nat} (h0:0<o) (h1:o<c.n):∃ x y:Nat,mul (c.p:Int) 0 o c.G=.aff (x:Int) (y:Int)/\x<c.p/\y<c.p:=by
 have hn:=h.ne h0 h1
 have ho:=mul_on h.prm h.on o
 cases e:mul (c.p:Int) 0 o c.G with
 | inf=>exact absurd e hn
 | aff x y=>
  rw[e] at ho
  have k1:=ho.1;have k2:=ho.2.1;have k3:=ho.2.2.1;have k4:=ho.2.2.2.1
  exact⟨x.toNat,y.toNat,by rw[show(x.toNat:Int)=x by omega,show(y.toNat:Int)=y by omega],by omega,by omega⟩
theorem step_dbl {c:Nums} (h:Grp c) {m:Nat} {X Y Z X3 Y3 Z3:Int} (j:IsJ c.p (mul (c.p:Int) 0 m c.G) X Y Z) (D:BitDbl X Y Z c.p X3 Y3 Z3):IsJ c.p (mul (c.p:Int) 0 (2*m) c.G) X3 Y3 Z3:=by
 rw[mul_two_mul h.cv h.on]
 exact bitDbl_isJ h.prm (mul_on h.prm h.on m) j D
theorem step_add {c:Nums} (h:Grp c) {m:Nat} (m0:2<=m) (m1:m+1<c.n) {X Y Z X3 Y3 Z3:Int} (j:IsJ c.p (mul (c.p:Int) 0 m c.G) X Y Z) (D:BitAdd c.x c.y 1 X Y Z c.p X3 Y3 Z3):IsJ c.p (mul (c.p:Int) 0 (m+1) c.G) X3 Y3 Z3:=by
 have e:mul (c.p:Int) 0 (m+1) c.G=add (c.p:Int) 0 c.G (mul (c.p:Int) 0 m c.G):=by
  rw[show m+1=1+m by omega,mul_add h.cv h.on,mul_one]
 rw[e]
 have h1:=h.apart (i:=1) (j:=m) (by omega) (by omega)
 rw[mul_one] at h1
 exact bitAdd_isJ h.prm h.on (mul_on h.prm h.on m) (aff_isJ h.prm h.on) j (by unfold Nums.G;simp) (h.ne (by omega) (by omega)) h1 D
end Go.Proofs.YtohhkjamddojmaaGreatDoor.Bit

namespace Go.Proofs.YtohhkjamddojmaaGreatDoor.Bit
open EcLaw
def fm (p a b:Nat):Nat:=a*b%p
def fa (p a b:Nat):Nat:=(a+b)%p
def fs (p a b:Nat):Nat:=(a+p-b)%p
theorem fm_dvd (p a b:Nat):(p:Int)∣(fm p a b:Int)-a*b:=by
 unfold fm;rw[Int.natCast_emod,Int.natCast_mul];exact zyq _ _
theorem fa_dvd (p a b:Nat):(p:Int)∣(fa p a b:Int)-(a+b):=by
 unfold fa;rw[Int.natCast_emod,Int.natCast_add];exact zyq _ _
theorem fs_dvd {p a b:Nat} (h:b<=p):(p:Int)∣(fs p a b:Int)-(a-b):=by
 unfold fs;rw[Int.natCast_emod,show((a+p-b:Nat):Int)=a-b+p by omega]
 exact lin2 1 1 (zyq (p:Int) ((a:Int)-b+p)) (Int.dvd_refl (p:Int)) (by grind)
theorem fm_lt {p a b:Nat} (h:0<p):fm p a b<p:=Nat.mod_lt _ h
theorem fa_lt {p a b:Nat} (h:0<p):fa p a b<p:=Nat.mod_lt _ h
theorem fs_lt {p a b:Nat} (h:0<p):fs p a b<p:=Nat.mod_lt _ h
/-! ### The specification's triples -/
def twN (p A x y z:Nat):Nat×Nat×Nat:=
 if z=0\/y=0 then(1,1,0) else
  let yy:=fm p y y
  let s:=fm p 4 (fm p x yy)
  let zz:=fm p z z
  let m:=fa p (fm p 3 (fm p x x)) (fm p A (fm p zz zz))
  let x3:=fs p (fm p m m) (fa p s s)
  let y3:=fs p (fm p m (fs p s x3)) (fm p 8 (fm p yy yy))
  (x3,y3,fm p 2 (fm p y z))
def adN (p A:Nat) (P Q:Nat×Nat×Nat):Nat×Nat×Nat:=
 if P.2.2=0 then Q else if Q.2.2=0 then P else
  let pp:=fm p P.2.2 P.2.2
  let qq:=fm p Q.2.2 Q.2.2
  let u:=fm p P.1 qq
  let v:=fm p Q.1 pp
  let s:=fm p P.2.1 (fm p qq Q.2.2)
  let t:=fm p Q.2.1 (fm p pp P.2.2)
  let h:=fs p v u
  let r:=fs p t s
  if h=0 then if r=0 then twN p A P.1 P.2.1 P.2.2 else(1,1,0)
  else
   let hh:=fm p h h
   let hhh:=fm p hh h
   let w:=fm p u hh
   let x3:=fs p (fs p (fm p r r) hhh) (fa p w w)
   let y3:=fs p (fm p r (fs p w x3)) (fm p s hhh)
   (x3,y3,fm p h (fm p P.2.2 Q.2.2))
def TJ (p:Nat) (A:Pt) (T:Nat×Nat×Nat):Prop:=(T.1<p/\T.2.1<p/\T.2.2<p)/\Jac p T.1 T.2.1 T.2.2 A/\(T.2.2=0->A=.inf)
theorem dvd_zero_of_lt {p z:Nat} (h:z<p) (hd:(p:Int)∣(z:Int)):z=0:=by
 rcases Nat.eq_zero_or_pos z with h0|h0
 . exact h0
 . have:=Int.le_of_dvd (by omega) hd;omega
theorem TJ.zero {p:Nat} {A:Pt} {T:Nat×Nat×Nat} (h:TJ p A T) (hA:A=.inf):T.2.2=0:=by
 subst hA
 exact dvd_zero_of_lt h.1.2.2 h.2.1
theorem tw_ok {p A:Nat} {b:Int} {P:Pt} {x y z:Nat} (h:Prm (p:Int)) (hP:On p A b P) (j:TJ p P (x,y,z)):TJ p (add p A P P) (twN p A x y z):=by
 have hp:=h.two
 have one:TJ p .inf (1,1,0):=⟨⟨by simp;omega,by simp;omega,by simp;omega⟩,⟨0,by simp⟩,λ_=>rfl⟩
 unfold twN
 by_cases hz:z=0
 . rw[if_pos (.inl hz),j.2.2 hz]
   exact one
 . cases hPe:P with
   | inf=>exact absurd (j.zero hPe) hz
   | aff x1 y1=>
    rw[hPe] at hP j
    obtain⟨⟨lx,ly,lz⟩,hj,-⟩:=j
    obtain⟨nz,ex,ey⟩:=hj
    by_cases hy:y=0
    . rw[if_pos (.inr hy)]
      have hy1:(p:Int)∣y1:=by
       rw[hy] at ey
       have k:(p:Int)∣(z:Int)*z*z*y1:=zzq (-1) ey (by push_cast;grind)
       exact h.cancel (h.nmul (h.nmul nz nz) nz) k
      rw[add_opp ⟨⟨0,by grind⟩,lin2 1 1 hy1 hy1 (by grind)⟩]
      exact one
    . rw[if_neg (by rintro(hh|hh);exact hz hh;exact hy hh)]
      have l0:0<p:=by omega
      have a1:=fm_dvd p y y
      have a2:=fm_dvd p x (fm p y y)
      have a3:=fm_dvd p 4 (fm p x (fm p y y))
      have a4:=fm_dvd p z z
      have a5:=fm_dvd p x x
      have a6:=fm_dvd p 3 (fm p x x)
      have a7:=fm_dvd p (fm p z z) (fm p z z)
      have a8:=fm_dvd p A (fm p (fm p z z) (fm p z z))
      have a9:=fa_dvd p (fm p 3 (fm p x x)) (fm p A (fm p (fm p z z) (fm p z z)))
      have q1:fm p x (fm p y y)<p:=fm_lt l0
      have q2:fm p 4 (fm p x (fm p y y))<p:=fm_lt l0
      have b1:=fm_dvd p y z
      have b2:=fm_dvd p 2 (fm p y z)
      have b3:fm p 2 (fm p y z)<p:=fm_lt l0
      have b4:=fm_dvd p (fm p y y) (fm p y y)
      have b5:=fm_dvd p 8 (fm p (fm p y y) (fm p y y))
      have b6:fm p 8 (fm p (fm p y y) (fm p y y))<p:=fm_lt l0
      show TJ p _ (fs p _ _,fs p _ _,fm p 2 (fm p y z))
      generalize fm p 8 (fm p (fm p y y) (fm p y y))=Y8 at *
      generalize fm p (fm p y y) (fm p y y)=Y4 at *
      generalize fm p 2 (fm p y z)=Z3 at *
      generalize fm p y z=yz at *
      generalize fa p (fm p 3 (fm p x x)) (fm p A (fm p (fm p z z) (fm p z z)))=m at *
      generalize fm p A (fm p (fm p z z) (fm p z z))=Az at *
      generalize fm p (fm p z z) (fm p z z)=z4 at *
      generalize fm p z z=zz at *
      generalize fm p 3 (fm p x x)=xx3 at *
      generalize fm p x x=xx at *
      generalize fm p 4 (fm p x (fm p y y))=s at *
      generalize fm p x (fm p y y)=xyy at *
      generalize fm p y y=yy at *
      have c1:=fm_dvd p m m
      have c2:=fa_dvd p s s
      have c3:fa p s s<p:=fa_lt l0
      have c4:=fs_dvd (p:=p) (a:=fm p m m) (b:=fa p s s) (by omega)
      have c5:fs p (fm p m m) (fa p s s)<p:=fs_lt l0
      generalize fs p (fm p m m) (fa p s s)=X3 at *
      generalize fm p m m=mm at *
      generalize fa p s s=ss at *
      have d1:=fs_dvd (p:=p) (a:=s) (b:=X3) (by omega)
      have d2:=fm_dvd p m (fs p s X3)
      have d3:=fs_dvd (p:=p) (a:=fm p m (fs p s X3)) (b:=Y8) (by omega)
      have d4:fs p (fm p m (fs p s X3)) Y8<p:=fs_lt l0
      generalize fs p (fm p m (fs p s X3)) Y8=Y3 at *
      generalize fm p m (fs p s X3)=mf at *
      generalize fs p s X3=sf at *
      have kM:(p:Int)∣(m:Int)-(3*x^2+A*z^4):=by
       have t1:(p:Int)∣(z4:Int)-z^4:=lin2 1 ((zz:Int)+z^2) a7 a4 (by grind)
       have t2:(p:Int)∣(Az:Int)-A*z^4:=lin2 1 (A:Int) a8 t1 (by grind)
       have t3:(p:Int)∣(xx3:Int)-3*x^2:=lin2 1 3 a6 a5 (by grind)
       exact lin3 1 1 1 a9 t3 t2 (by grind)
      have kS:(p:Int)∣(s:Int)-4*x*y^2:=by
       have t1:(p:Int)∣(xyy:Int)-x*y^2:=lin2 1 (x:Int) a2 a1 (by grind)
       exact lin2 1 4 a3 t1 (by grind)
      have kX:(p:Int)∣(X3:Int)-(m^2-2*s):=lin3 1 1 (-1) c4 c1 c2 (by grind)
      have kY:(p:Int)∣(Y3:Int)-(m*(s-X3)-8*y^4):=by
       have t1:(p:Int)∣(mf:Int)-m*(s-X3):=lin2 1 (m:Int) d2 d1 (by grind)
       have t2:(p:Int)∣(Y4:Int)-y^4:=lin2 1 ((yy:Int)+y^2) b4 a1 (by grind)
       have t3:(p:Int)∣(Y8:Int)-8*y^4:=lin2 1 8 b5 t2 (by grind)
       exact lin3 1 1 (-1) d3 t1 t3 (by grind)
      have kZ:(p:Int)∣(Z3:Int)-2*y*z:=lin2 1 2 b2 b1 (by grind)
      have J:=jac_double h hP ⟨nz,ex,ey⟩ kM kS kX kY kZ
      refine⟨⟨c5,d4,b3⟩,J,λhh=>?_⟩
      have hh':Z3=0:=hh
      exfalso
      have k2:(p:Int)∣2*((y:Int)*z):=by
       rw[hh'] at kZ
       exact zzq (-1) kZ (by push_cast;grind)
      have ny:¬(p:Int)∣y:=λhd=>hy (dvd_zero_of_lt ly hd)
      exact h.nmul ny nz (h.cancel h.not2 k2)
theorem jac_half {p X Y Z:Int} {A:Pt} (h:Prm p) (j:Jac p (4*X) (8*Y) (2*Z) A):Jac p X Y Z A:=by
 cases A with
 | inf=>exact h.cancel h.not2 j
 | aff x y=>
  obtain⟨n,ex,ey⟩:=j
  have n4:=h.nmul h.not2 h.not2
  have n8:=h.nmul h.not2 n4
  refine⟨λhd=>n (lin2 2 0 hd hd (by grind)),h.cancel n4 ?_,h.cancel n8 ?_⟩
  . exact zzq 1 ex (by grind)
  . exact zzq 1 ey (by grind)
theorem ad_ok {p A:Nat} {b:Int} {P Q:Pt} {T U:Nat×Nat×Nat} (h:Prm (p:Int)) (hP:On p A b P) (hQ:On p A b Q) (j:TJ p P T) (k:TJ p Q U):TJ p (add p A P Q) (adN p A T U):=by
 obtain⟨x1,y1,z1⟩:=T
 obtain⟨x2,y2,z2⟩:=U
 have hp:=h.two
 have l0:0<p:=by omega
 unfold adN
 by_cases hz1:z1=0
 . rw[if_pos hz1,j.2.2 hz1]
   have e:add p A .inf Q=Q:=by cases Q <;> rfl
   rw[e];exact k
 . rw[if_neg hz1]
   by_cases hz2:z2=0
   . rw[if_pos hz2,k.2.2 hz2,add_inf];exact j
   . rw[if_neg hz2]
     cases hPe:P with
     | inf=>exact absurd (j.zero hPe) hz1
     | aff a1 b1=>
      cases hQe:Q with
      | inf=>exact absurd (k.zero hQe) hz2
      | aff a2 b2=>
       have jj:=j
       rw[hPe] at hP j jj
       rw[hQe] at hQ k
       obtain⟨⟨lx,ly,lz⟩,jP,-⟩:=j
       obtain⟨⟨mx,my,mz⟩,jQ,-⟩:=k
       have n1:=jP.1
       have n2:=jQ.1
       -- the values
       have c1:=fm_dvd p z1 z1
       have c2:=fm_dvd p z2 z2
       have c3:=fm_dvd p x1 (fm p z2 z2)
       have c4:=fm_dvd p x2 (fm p z1 z1)
       have c5:=fm_dvd p (fm p z2 z2) z2
       have c6:=fm_dvd p y1 (fm p (fm p z2 z2) z2)
       have c7:=fm_dvd p (fm p z1 z1) z1
       have c8:=fm_dvd p y2 (fm p (fm p z1 z1) z1)
       have q1:fm p x1 (fm p z2 z2)<p:=fm_lt l0
       have q2:fm p y1 (fm p (fm p z2 z2) z2)<p:=fm_lt l0
       have c9:=fs_dvd (p:=p) (a:=fm p x2 (fm p z1 z1)) (b:=fm p x1 (fm p z2 z2)) (by omega)
       have c10:=fs_dvd (p:=p) (a:=fm p y2 (fm p (fm p z1 z1) z1)) (b:=fm p y1 (fm p (fm p z2 z2) z2)) (by omega)
       have q3:fs p (fm p x2 (fm p z1 z1)) (fm p x1 (fm p z2 z2))<p:=fs_lt l0
       have q4:fs p (fm p y2 (fm p (fm p z1 z1) z1)) (fm p y1 (fm p (fm p z2 z2) z2))<p:=fs_lt l0
       show TJ p _ (if fs p (fm p x2 (fm p z1 z1)) (fm p x1 (fm p z2 z2))=0 then if fs p (fm p y2 (fm p (fm p z1 z1) z1)) (fm p y1 (fm p (fm p z2 z2) z2))=0 then twN p A x1 y1 z1 else(1,1,0) else _)
       generalize hh0:fs p (fm p x2 (fm p z1 z1)) (fm p x1 (fm p z2 z2))=hh at *
       generalize hr0:fs p (fm p y2 (fm p (fm p z1 z1) z1)) (fm p y1 (fm p (fm p z2 z2) z2))=r at *
       generalize fm p y2 (fm p (fm p z1 z1) z1)=t at *
       generalize fm p (fm p z1 z1) z1=zzz1 at *
       generalize fm p y1 (fm p (fm p z2 z2) z2)=s at *
       generalize fm p (fm p z2 z2) z2=zzz2 at *
       generalize fm p x2 (fm p z1 z1)=v at *
       generalize fm p x1 (fm p z2 z2)=u at *
       generalize fm p z1 z1=pp at *
       generalize fm p z2 z2=qq at *
       have kU1:(p:Int)∣(u:Int)-x1*z2^2:=lin2 1 (x1:Int) c3 c2 (by grind)
       have kU2:(p:Int)∣(v:Int)-x2*z1^2:=lin2 1 (x2:Int) c4 c1 (by grind)
       have kS1:(p:Int)∣(s:Int)-y1*z2^3:=by
        have t1:(p:Int)∣(zzz2:Int)-z2^3:=lin2 1 (z2:Int) c5 c2 (by grind)
        exact lin2 1 (y1:Int) c6 t1 (by grind)
       have kS2:(p:Int)∣(t:Int)-y2*z1^3:=by
        have t1:(p:Int)∣(zzz1:Int)-z1^3:=lin2 1 (z1:Int) c7 c1 (by grind)
        exact lin2 1 (y2:Int) c8 t1 (by grind)
       have one:TJ p .inf (1,1,0):=⟨⟨by simp;omega,by simp;omega,by simp;omega⟩,⟨0,by simp⟩,λ_=>rfl⟩
       by_cases h0:hh=0
       . rw[if_pos h0]
         have hd0:(p:Int)∣(hh:Int):=by rw[h0];exact⟨0,by simp⟩
         by_cases r0:r=0
         . rw[if_pos r0]
           have rd0:(p:Int)∣(r:Int):=by rw[r0];exact⟨0,by simp⟩
           have hsame:Pt.aff a1 b1=Pt.aff a2 b2:=by
            obtain⟨m1,ex1,ey1⟩:=jP
            obtain⟨m2,ex2,ey2⟩:=jQ
            have n12:=h.nmul m1 m2
            have n4:=h.nmul n12 n12
            have n6:=h.nmul n4 n12
            have gx:(p:Int)∣((z1:Int)*z2*(z1*z2))*(a1-a2):=by
             have t1:(p:Int)∣(v:Int)-u:=lin2 1 (-1) hd0 c9 (by grind)
             have t2:(p:Int)∣(u:Int)-a1*(z1*z2)^2:=lin2 1 ((z2:Int)^2) kU1 ex1 (by grind)
             have t3:(p:Int)∣(v:Int)-a2*(z1*z2)^2:=lin2 1 ((z1:Int)^2) kU2 ex2 (by grind)
             exact lin3 (-1) (-1) 1 t1 t2 t3 (by grind)
            have gy:(p:Int)∣((z1:Int)*z2*(z1*z2)*(z1*z2))*(b1-b2):=by
             have t1:(p:Int)∣(t:Int)-s:=lin2 1 (-1) rd0 c10 (by grind)
             have t2:(p:Int)∣(s:Int)-b1*(z1*z2)^3:=lin2 1 ((z2:Int)^3) kS1 ey1 (by grind)
             have t3:(p:Int)∣(t:Int)-b2*(z1*z2)^3:=lin2 1 ((z1:Int)^3) kS2 ey2 (by grind)
             exact lin3 (-1) (-1) 1 t1 t2 t3 (by grind)
            exact aff_eq hP hQ (h.cancel n4 gx) (h.cancel n6 gy)
           rw[<-hsame]
           exact tw_ok h hP jj
         . rw[if_neg r0]
           have nr:¬(p:Int)∣(r:Int):=λhd=>r0 (dvd_zero_of_lt q4 hd)
           have J:=jac_add h hP hQ jP jQ kU1 kU2 c9 kS1 kS2 c10 (X3:=4*(r:Int)^2-4*(hh:Int)^3-8*(u:Int)*(hh:Int)^2) (Y3:=2*(r:Int)*(4*(u:Int)*(hh:Int)^2-(4*(r:Int)^2-4*(hh:Int)^3-8*(u:Int)*(hh:Int)^2))-8*(s:Int)*(hh:Int)^3) (Z3:=2*(z1:Int)*z2*hh) ⟨0,by grind⟩ ⟨0,by grind⟩ ⟨0,by grind⟩ (λhx=>nr hx.2)
           have hz:(p:Int)∣2*(z1:Int)*z2*hh:=lin2 (2*(z1:Int)*z2) 0 hd0 hd0 (by grind)
           cases e:add (p:Int) A (.aff a1 b1) (.aff a2 b2) with
           | inf=>exact one
           | aff x y=>
            rw[e] at J
            exact absurd hz J.1
       . rw[if_neg h0]
         have nh:¬(p:Int)∣(hh:Int):=λhd=>h0 (dvd_zero_of_lt q3 hd)
         have d1:=fm_dvd p hh hh
         have d2:=fm_dvd p (fm p hh hh) hh
         have d3:=fm_dvd p u (fm p hh hh)
         have d4:=fm_dvd p r r
         have d5:=fs_dvd (p:=p) (a:=fm p r r) (b:=fm p (fm p hh hh) hh) (Nat.le_of_lt (fm_lt l0))
         have d6:=fa_dvd p (fm p u (fm p hh hh)) (fm p u (fm p hh hh))
         have d7:=fs_dvd (p:=p) (a:=fs p (fm p r r) (fm p (fm p hh hh) hh)) (b:=fa p (fm p u (fm p hh hh)) (fm p u (fm p hh hh))) (Nat.le_of_lt (fa_lt l0))
         have d8:fs p (fs p (fm p r r) (fm p (fm p hh hh) hh)) (fa p (fm p u (fm p hh hh)) (fm p u (fm p hh hh)))<p:=fs_lt l0
         have d9:=fm_dvd p s (fm p (fm p hh hh) hh)
         have d10:fm p s (fm p (fm p hh hh) hh)<p:=fm_lt l0
         have f1:=fm_dvd p z1 z2
         have f2:=fm_dvd p hh (fm p z1 z2)
         have f3:fm p hh (fm p z1 z2)<p:=fm_lt l0
         show TJ p _ (fs p (fs p (fm p r r) (fm p (fm p hh hh) hh)) (fa p (fm p u (fm p hh hh)) (fm p u (fm p hh hh))),fs p (fm p r (fs p (fm p u (fm p hh hh)) (fs p (fs p (fm p r r) (fm p (fm p hh hh) hh)) (fa p (fm p u (fm p hh hh)) (fm p u (fm p hh hh)))))) (fm p s (fm p (fm p hh hh) hh)),fm p hh (fm p z1 z2))
         generalize fs p (fs p (fm p r r) (fm p (fm p hh hh) hh)) (fa p (fm p u (fm p hh hh)) (fm p u (fm p hh hh)))=X3 at *
         generalize fs p (fm p r r) (fm p (fm p hh hh) hh)=g1 at *
         generalize fa p (fm p u (fm p hh hh)) (fm p u (fm p hh hh))=g2 at *
         generalize fm p s (fm p (fm p hh hh) hh)=g3 at *
         generalize fm p (fm p hh hh) hh=h3 at *
         generalize fm p u (fm p hh hh)=w at *
         generalize fm p hh hh=h2 at *
         generalize fm p r r=rr at *
         generalize fm p hh (fm p z1 z2)=Z3 at *
         generalize fm p z1 z2=z12 at *
         have e1:=fs_dvd (p:=p) (a:=w) (b:=X3) (by omega)
         have e2:=fm_dvd p r (fs p w X3)
         have e3:=fs_dvd (p:=p) (a:=fm p r (fs p w X3)) (b:=g3) (by omega)
         have e4:fs p (fm p r (fs p w X3)) g3<p:=fs_lt l0
         generalize fs p (fm p r (fs p w X3)) g3=Y3 at *
         generalize fm p r (fs p w X3)=g4 at *
         generalize fs p w X3=g5 at *
         have k1:(p:Int)∣(h3:Int)-hh^3:=lin2 1 (hh:Int) d2 d1 (by grind)
         have k2:(p:Int)∣(w:Int)-u*hh^2:=lin2 1 (u:Int) d3 d1 (by grind)
         have k3:(p:Int)∣(g1:Int)-(r^2-hh^3):=lin3 1 1 (-1) d5 d4 k1 (by grind)
         have kX:(p:Int)∣(X3:Int)-(r^2-hh^3-2*u*hh^2):=lin4 1 1 (-1) (-2) d7 k3 d6 k2 (by grind)
         have k5:(p:Int)∣(g4:Int)-r*(u*hh^2-X3):=lin3 1 (r:Int) (r:Int) e2 e1 k2 (by grind)
         have k6:(p:Int)∣(g3:Int)-s*hh^3:=lin2 1 (s:Int) d9 k1 (by grind)
         have kY:(p:Int)∣(Y3:Int)-(r*(u*hh^2-X3)-s*hh^3):=lin3 1 1 (-1) e3 k5 k6 (by grind)
         have kZ:(p:Int)∣(Z3:Int)-z1*z2*hh:=lin2 1 (hh:Int) f2 f1 (by grind)
         have J:=jac_add h hP hQ jP jQ kU1 kU2 c9 kS1 kS2 c10 (X3:=4*(X3:Int)) (Y3:=8*(Y3:Int)) (Z3:=2*(Z3:Int)) (zzq 4 kX (by grind)) (zzq 8 kY (by grind)) (zzq 2 kZ (by grind)) (λhx=>nh hx.1)
         refine⟨⟨d8,e4,f3⟩,jac_half h J,λhz=>?_⟩
         exfalso
         have hz':Z3=0:=hz
         rw[hz'] at kZ
         exact h.nmul (h.nmul n1 n2) nh (zzq (-1) kZ (by push_cast;grind))
theorem pt_ok {p A:Nat} {b:Int} {x y:Int} {T:Nat×Nat×Nat} {w:Nat} (h:Prm (p:Int)) (hP:On p A b (.aff x y)) (j:TJ p (.aff x y) T) (hw:(p:Int)∣(w:Int)*T.2.2-1) :
 ((fm p T.1 (fm p w w):Nat):Int)=x/\((fm p T.2.1 (fm p (fm p w w) w):Nat):Int)=y:=by
 have hp:=h.two
 have l0:0<p:=by omega
 have c1:=fm_dvd p w w
 have c2:=fm_dvd p T.1 (fm p w w)
 have c3:=fm_dvd p (fm p w w) w
 have c4:=fm_dvd p T.2.1 (fm p (fm p w w) w)
 have q1:fm p T.1 (fm p w w)<p:=fm_lt l0
 have q2:fm p T.2.1 (fm p (fm p w w) w)<p:=fm_lt l0
 generalize fm p T.2.1 (fm p (fm p w w) w)=v at *
 generalize fm p (fm p w w) w=w3 at *
 generalize fm p T.1 (fm p w w)=u at *
 generalize fm p w w=w2 at *
 exact jac_affine h hP j.2.1 hw (lin2 1 (T.1:Int) c2 c1 (by grind)) (lin3 1 (T.2.1:Int) ((T.2.1:Int)*w) c4 c3 c1 (by grind)) (by omega) (by omega) (by omega) (by omega)
end Go.Proofs.YtohhkjamddojmaaGreatDoor.Bit
