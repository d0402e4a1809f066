/- The specification's powers and inverses in a field. The specification's inverse in a field. -/
import Derived.Test.YtohhkjamddojmaaGreatDoorBN
set_option maxRecDepth 100000
set_option maxHeartbeats 16000000
namespace Go.Proofs.YtohhkjamddojmaaGreatDoor.Bit
open Go.RowKit
open Big
theorem and1 (x:Nat) (hx:x<9223372036854775808):bits BinOp.and IntKind.i64 (x:Int) 1=((x%2:Nat):Int):=by
 have e63:(2:Int)^63=9223372036854775808:=by decide
 have h:=bits_mask .i64 63 (by decide) (λn h0 h1=>by rw[e63] at h1;rw[IntKind.wrap_i64];omega) 1 (by decide) (x:Int) (by omega) (by rw[e63];omega)
 have e:((2:Int)^1-1)=1:=by decide
 rw[e] at h
 rw[h]
 omega
def ex (E:List Nat) (i k:Nat):Nat:=bval (E.drop (i+1))*2^(16-k)+E.getD i 0/2^k
theorem ex_top {E:List Nat} (hw:Wb E) (i:Nat):ex E i 16=bval (E.drop (i+1)):=by
 unfold ex
 rw[show(2:Nat)^16=B16 from rfl,Nat.div_eq_of_lt (hw.getD i)]
 simp
theorem ex_end (E:List Nat) (i:Nat):ex E i 0=bval (E.drop i):=by
 unfold ex
 rw[bval_drop E i,Nat.pow_zero,Nat.div_one,Nat.mul_comm,Nat.add_comm];rfl
theorem ex_step (E:List Nat) (i k:Nat) (hk:k<16):ex E i k=2*ex E i (k+1)+E.getD i 0/2^k%2:=by
 unfold ex
 have e1:2^(16-k)=2*2^(16-(k+1)):=by rw[show 16-k=16-(k+1)+1 by omega,Nat.pow_succ,Nat.mul_comm]
 have e2:E.getD i 0/2^(k+1)=E.getD i 0/2^k/2:=by rw[Nat.pow_succ,Nat.div_div_eq_div_mul]
 have e3:bval (E.drop (i+1))*2^(16-k)=2*(bval (E.drop (i+1))*2^(16-(k+1))):=by rw[e1,Nat.mul_left_comm]
 rw[e2,e3]
 omega
theorem pw_sq (n P t:Nat):fm P (n^t%P) (n^t%P)=n^(2*t)%P:=by
 unfold fm
 rw[<-Nat.mul_mod,<-Nat.pow_add,Nat.two_mul]
theorem pw_mul (n P t:Nat):fm P (n^t%P) n=n^(t+1)%P:=by
 unfold fm
 rw[Nat.mod_mul_mod,Nat.pow_succ]
theorem powE {w:World} {f v u:Value} {P n e m:Nat} (hm:m=n^e%P) (hP:Fd P) (h1:1<P) (hf:Dg w f P) (hv:Dg w v n) (hu:Dg w u e) (ln:n<P) (le:(bd e).length<=100000):Calls Tryz.prog 148 #[.agg #[f],v,u] w (DgP m w):=by
 obtain⟨pf,cf,rfl,-⟩:=id hf
 obtain⟨pv,cv,rfl,-⟩:=id hv
 obtain⟨pu,cu,rfl,re⟩:=hu
 obtain⟨E,hE⟩:∃ E,E=bd e:=⟨_,rfl⟩
 have vE:bval E=e:=by rw[hE];exact bval_bd e
 have hwE:Wb E:=by rw[hE];exact bd_words e
 rw[<-hE] at re le ⊢
 obtain⟨L,hL⟩:∃ L,L=E.length:=⟨_,rfl⟩
 rw[<-hL] at le ⊢
 have s1:(w.alloc (.cells #[.slice pf (bd P).length cf] 39)).heap.size=w.heap.size+1:=Array.size_push _
 have n1:=heap_alloc_new w (.cells #[.slice pf (bd P).length cf] 39)
 have g1:(w.alloc (.cells #[.slice pf (bd P).length cf] 39)).grownBy ((w.alloc (.cells #[.slice pf (bd P).length cf] 39)).alloc one3) .none:=zzy _ _ _
 have d1:=dg_small (n:=1) (by decide) (by decide) (heap_alloc_new (w.alloc (.cells #[.slice pf (bd P).length cf] 39)) one3)
 rw[s1] at d1
 have G0:=Lz (show w.grownBy ((w.alloc (.cells #[.slice pf (bd P).length cf] 39)).alloc one3) .none from(zzy _ _ _).trans g1)
 have CC:=Lz (λ(w':World) (k:World.grownBy ((w.alloc (.cells #[.slice pf (bd P).length cf] 39)).alloc one3) w' .none)=>((g1.trans k).cell (zzv (k:=0) n1 rfl) (by simp):w'.cell? ⟨w.heap.size,0,.none⟩=some (.slice pf (bd P).length cf)))
 have DD:=Lz (λ(w':World) (k:World.grownBy ((w.alloc (.cells #[.slice pf (bd P).length cf] 39)).alloc one3) w' .none)=>(⟨hf.kept (G0.out.trans k),hv.kept (G0.out.trans k),re.kept (G0.out.trans k)⟩:Dg w' (.slice pf (bd P).length cf) P/\Dg w' (.slice pv (bd n).length cv) n/\RowI w' pu cu E))
 have D1:=Lz d1
 have HP:=Lz (And.intro hP (And.intro h1 ln))
 have HE:=Lz (show bval E=e/\Wb E/\L=E.length/\L<=100000/\m=n^e%P from⟨vE,hwE,hL,le,hm⟩)
 clear hm hP h1 hf hv re ln le vE hwE hL hE s1 n1 g1 d1
 go_enter Tryz.func148,Tryz.ntmps148
 go_wp2_with fail
 generalize hw1:(w.alloc (.cells #[.slice pf (bd P).length cf] 39)).alloc one3=w1 at *
 go_loopw [7,8] (λs7 s8 wr=>∃ I a:Nat,Dg wr s7 a/\s8=.int .i64 ((I:Int)-1)/\w1.grownBy wr .none/\RowKit.Hid (I<=L/\a=n^bval (E.drop I)%P)) (λ_ s8 _=>(intOf s8+1).toNat)
 case atStart=>exact⟨L,1,D1.out,by first|rfl|exact congrArg (Value.int .i64) (by have:=HE.out.2.2.2.1;unfold wrap64;omega),zyz _ _,⟨Nat.le_refl _,by rw[HE.out.2.2.1,List.drop_length,bval_nil,Nat.pow_zero,Nat.mod_eq_of_lt HP.out.2.1]⟩⟩
 case round=>
  obtain⟨I,a,hd,rfl,hg,HR⟩:=hrel
  obtain⟨p7,c7,rfl,-⟩:=id hd
  rcases I with _|i
  . have e8:((0:Nat):Int)-1=-1:=by omega
    rw[e8]
    have HF:=Lz (show DgP m w (.returned (.slice p7 (bd a).length c7)) wr from⟨_,rfl,by
     have h2:=HR.out.2
     rw[List.drop_zero,HE.out.1,<-HE.out.2.2.2.2] at h2
     rw[<-h2]
     exact hd,G0.out.trans hg⟩)
    clear hd hg HR e8
    go_wp2_with fail
    go_ret
    exact HF.out
  . have e8:((i+1:Nat):Int)-1=(i:Int):=by omega
    rw[e8]
    have i5:(0:Int)<=i:=by omega
    have i5':decide ((i:Int)>=0)=true:=by rw[decide_eq_true_iff];omega
    have HI:=Lz (show i<L/\a=n^bval (E.drop (i+1))%P from⟨by have:=HR.out.1;omega,HR.out.2⟩)
    have HD0:=Lz (And.intro hd hg)
    clear hd hg HR e8
    go_wp2_with fail
    go_loopw [7,9] (λs7 s9 wq=>∃ k b:Nat,Dg wq s7 b/\s9=.int .i64 ((k:Int)-1)/\w1.grownBy wq .none/\RowKit.Hid (k<=16/\b=n^ex E i k%P)) (λ_ s9 _=>(intOf s9+1).toNat)
    case atStart=>exact⟨16,a,HD0.out.1,by first|rfl|exact congrArg (Value.int .i64) (by omega),HD0.out.2,⟨Nat.le_refl _,by rw[ex_top HE.out.2.1];exact HI.out.2⟩⟩
    case round=>
     obtain⟨k,b,hd,rfl,hg,HR⟩:=hrel
     obtain⟨p8,c8,rfl,-⟩:=id hd
     have HD1:=Lz (And.intro hd hg)
     rcases k with _|k
     . have e9:((0:Nat):Int)-1=-1:=by omega
       rw[e9]
       have HF:=Lz (show i<=L/\b=n^bval (E.drop i)%P from⟨by have:=HI.out.1;omega,by rw[<-ex_end];exact HR.out.2⟩)
       have iB:(i:Int)<=100000:=by have:=HI.out.1;have:=HE.out.2.2.2.1;omega
       clear hd hg HR e9
       go_wp2_with fail
       go_roundw
       case rel=>first|exact⟨i,b,HD1.out.1,by first|rfl|exact congrArg (Value.int .i64) (by unfold wrap64;omega),HD1.out.2,HF.out⟩|exact⟨i,by first|rfl|omega,b,HD1.out.1,HD1.out.2,HF⟩
       case measure=>
        simp only[intOf]
        first|omega|(unfold wrap64;omega)
     . have e9:((k+1:Nat):Int)-1=(k:Int):=by omega
       rw[e9]
       have k5:(0:Int)<=k:=by omega
       have k5':decide ((k:Int)>=0)=true:=by rw[decide_eq_true_iff];omega
       have k15:(k:Int)<=15:=by have:=HR.out.1;omega
       have q0:=CC.out _ hg
       have lb:b<P:=by rw[HR.out.2];exact Nat.mod_lt _ HP.out.1.pos
       have C1:=Lz (mulE rfl HP.out.1 (DD.out _ hg).1 hd hd lb lb)
       obtain⟨bu,ou,rfl⟩:=(DD.out _ hg).2.2.2.2.1 (by have:=HI.out.1;have:=HE.out.2.2.1;omega)
       obtain⟨d,hdd⟩:∃ d,d=E.getD i 0:=⟨_,rfl⟩
       have dB:d<65536:=by rw[hdd];exact HE.out.2.1.getD i
       obtain⟨dk,hdk⟩:∃ x,x=d/2^k:=⟨_,rfl⟩
       have dkB:dk<=d:=by rw[hdk];exact Nat.div_le_self _ _
       have Q1:(d:Int)/2^k=(dk:Int):=by rw[hdk];exact shr_nat d k
       have Q2:bits .and .i64 (dk:Int) 1=((dk%2:Nat):Int):=and1 dk (by omega)
       have HK:=Lz (show k<16/\b=n^ex E i (k+1)%P/\dk=E.getD i 0/2^k from⟨by have:=HR.out.1;omega,HR.out.2,by rw[hdk,hdd]⟩)
       have iL:(i:Int)<L:=by have:=HI.out.1;omega
       have iB:(i:Int)<=100000:=by have:=HI.out.1;have:=HE.out.2.2.2.1;omega
       have HD2:=Lz hdd
       clear hd hg HR e9 lb hdd hdk dkB dB
       go_wp2_with fail
       refine C1.out.mono ?_
       rintro en u1 ⟨v1,rfl,d1,gr1⟩
       obtain⟨p1,c1,rfl,-⟩:=id d1
       have ce:=(DD.out _ (HD1.out.2.trans gr1)).2.2.2.2.2 bu ou rfl i (by have:=HI.out.1;have:=HE.out.2.2.1;omega)
       rw[<-HD2.out] at ce
       have q0:=CC.out _ (HD1.out.2.trans gr1)
       have HU:=Lz (show w1.grownBy u1 .none/\Dg u1 (.slice p1 (bd (fm P b b)).length c1) (fm P b b)/\fm P b b=n^(2*ex E i (k+1))%P from⟨HD1.out.2.trans gr1,d1,by rw[HK.out.2.1];exact pw_sq n P _⟩)
       clear d1 gr1 C1
       have lsq:fm P b b<P:=fm_lt HP.out.1.pos
       by_cases hbit:dk%2=1
       . have Q3:(((dk%2:Nat):Int)==1)=true:=by rw[hbit];rfl
         have C2:=Lz (mulE rfl HP.out.1 (DD.out _ HU.out.1).1 HU.out.2.1 (DD.out _ HU.out.1).2.1 lsq HP.out.2.2)
         have HN:=Lz (show fm P (fm P b b) n=n^ex E i k%P from by
          rw[HU.out.2.2,pw_mul,ex_step E i k HK.out.1,<-HK.out.2.2,hbit])
         have HK2:=Lz (show k<=16 by have:=HK.out.1;omega)
         clear hbit lsq
         go_wp2_with fail
         refine C2.out.mono ?_
         rintro en u2 ⟨v2,rfl,d2,gr2⟩
         have HV:=Lz (And.intro d2 (HU.out.1.trans gr2))
         obtain⟨p2,c2,rfl,-⟩:=d2
         clear gr2
         go_wp2_with fail
         go_roundw
         case rel=>first|exact⟨k,_,HV.out.1,by first|rfl|exact congrArg (Value.int .i64) (by unfold wrap64;omega),HV.out.2,⟨HK2.out,HN.out⟩⟩|exact⟨k,by first|rfl|omega,_,HV.out.1,HV.out.2,⟨HK2.out,HN.out⟩⟩
         case measure=>
          simp only[intOf]
          first|omega|(unfold wrap64;omega)
       . have Q3:(((dk%2:Nat):Int)==1)=false:=by rw[beq_eq_false_iff_ne];omega
         have HN:=Lz (show fm P b b=n^ex E i k%P from by
          rw[HU.out.2.2,ex_step E i k HK.out.1,<-HK.out.2.2,show dk%2=0 by omega]
          rfl)
         have HK2:=Lz (show k<=16 by have:=HK.out.1;omega)
         clear hbit lsq
         go_wp2_with fail
         go_roundw
         case rel=>first|exact⟨k,_,HU.out.2.1,by first|rfl|exact congrArg (Value.int .i64) (by unfold wrap64;omega),HU.out.1,⟨HK2.out,HN.out⟩⟩|exact⟨k,by first|rfl|omega,_,HU.out.2.1,HU.out.1,⟨HK2.out,HN.out⟩⟩
         case measure=>
          simp only[intOf]
          first|omega|(unfold wrap64;omega)
end Go.Proofs.YtohhkjamddojmaaGreatDoor.Bit

set_option maxRecDepth 100000
set_option maxHeartbeats 16000000
namespace Go.Proofs.YtohhkjamddojmaaGreatDoor.Bit
open Go.RowKit
open Big
theorem invE {w:World} {f v:Value} {P n m:Nat} (hm:m=n^(P-2)%P) (hP:Fd P) (h1:2<P) (hf:Dg w f P) (hv:Dg w v n) (ln:n<P):Calls Tryz.prog 113 #[.agg #[f],v] w (DgP m w):=by
 obtain⟨pf,cf,rfl,-⟩:=id hf
 obtain⟨pv,cv,rfl,-⟩:=id hv
 have n1:=heap_alloc_new w (.cells #[.slice pf (bd P).length cf] 39)
 have s1:(w.alloc (.cells #[.slice pf (bd P).length cf] 39)).heap.size=w.heap.size+1:=Array.size_push _
 have G0:=Lz (zzy w (.cells #[.slice pf (bd P).length cf] 39) .none)
 have q0:=zzv (k:=0) n1 rfl
 have CC:=Lz (λ(w':World) (k:World.grownBy (w.alloc (.cells #[.slice pf (bd P).length cf] 39)) w' .none)=>(k.cell q0 (by simp):w'.cell? ⟨w.heap.size,0,.none⟩=some (.slice pf (bd P).length cf)))
 have DD:=Lz (λ(w':World) (k:World.grownBy (w.alloc (.cells #[.slice pf (bd P).length cf] 39)) w' .none)=>(⟨hf.kept (G0.out.trans k),hv.kept (G0.out.trans k)⟩:Dg w' (.slice pf (bd P).length cf) P/\Dg w' (.slice pv (bd n).length cv) n))
 have HP:=Lz (show Fd P/\2<P/\n<P/\m=n^(P-2)%P from⟨hP,h1,ln,hm⟩)
 clear hP h1 ln hm hf hv n1
 go_enter Tryz.func113,Tryz.ntmps113
 go_upto_region 1 with fail
 generalize hw1:w.alloc (.cells #[.slice pf (bd P).length cf] 39)=w1 at *
 have HS:=Lz s1
 clear s1
 have GA:=Lz (show w1.grownBy ((w1.alloc (.cells #[.int .i64 2] 3)).drew) .none from(zzy _ _ .none).trans (zxj _ .none))
 have TW:=Lz (show Dg ((w1.alloc (.cells #[.int .i64 2] 3)).drew) (.slice (some ⟨w1.heap.size,0,.none⟩) 1 1) 2 from(dg_small (n:=2) (by decide) (by decide) (heap_alloc_new w1 (.cells #[.int .i64 2] 3))).kept (zxj _ .none))
 go_region_held3 (λw'=>w'.cell? ⟨w.heap.size,0,.none⟩=some (.slice pf (bd P).length cf)) (go_keep) (first|(go_at_call 148;refine(powE HP.out.2.2.2 HP.out.1 (by have:=HP.out.2.1;omega) (DD.out _ A1.out.1).1 (DD.out _ A1.out.1).2 A1.out.2 HP.out.2.2.1 (by have:=dg_len (n:=P-2) (by have:=HP.out.1.top;have:=pow40.1;omega);omega)).mono ?_;rintro en u2 ⟨v2,rfl,d2,gr2⟩;have q0:=CC.out _ (A1.out.1.trans gr2);have FIN:=Lz (show DgP m w (.returned v2) u2 from⟨_,rfl,d2,G0.out.trans (A1.out.1.trans gr2)⟩);clear d2 gr2)|(go_at_call 23;refine(minusD HP.out.1 (DD.out _ GA.out).1 TW.out (by have:=HP.out.1.pos;omega) (by have:=HP.out.2.1;omega)).mono ?_;rintro en u1 ⟨v1,rfl,d1,gr1⟩;have q0:=CC.out _ (GA.out.trans gr1);have A1:=Lz (And.intro (GA.out.trans gr1) d1);obtain⟨p1,c1,rfl,-⟩:=d1;clear gr1))
 go_wp2_with fail
 go_ret
 exact FIN.out
end Go.Proofs.YtohhkjamddojmaaGreatDoor.Bit
