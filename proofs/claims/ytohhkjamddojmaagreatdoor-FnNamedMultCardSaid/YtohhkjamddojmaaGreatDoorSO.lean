/- The four curves by name. SameBytes where the bytes are the same; the sizes of the curves. -/
import Derived.Test.YtohhkjamddojmaaGreatDoorSN
import Derived.Test.YtohhkjamddojmaaGreatDoorBI
set_option maxRecDepth 100000
set_option maxHeartbeats 16000000
namespace Go.Proofs.YtohhkjamddojmaaGreatDoor.Bit
open Go.RowKit
open Big EcLaw
attribute [local go_sem] ptr
section
variable {R : Nat → Prop} {w0 w : World} {L : List (Nat × Int)}
theorem S160 (h:Own R w0 w L) (ae:Addr) (he:w.cell? ⟨2,0,.none⟩=some (eofV ae)):Calls Tryz.prog 98 #[] w (CurveC R w L nums160 160):=by
 have C:=Lz (init160 h ae he)
 clear h he
 go_enter Tryz.func98,Tryz.ntmps98
 go_wp2_with fail
 refine C.out.mono ?_
 rintro e w1 hc
 obtain⟨c,zP,zN,zB,zX,zY,nm,rfl,h1⟩:=id hc
 have HC:=Lz hc
 clear hc h1
 unfold ptr
 go_wp2_with fail
 go_ret
 exact HC.out
theorem named160 (h:Own R w0 w L) (ae:Addr) (he:w.cell? ⟨2,0,.none⟩=some (eofV ae)):Calls Tryz.prog 56 #[.int .i64 160] w (CurveC R w L nums160 160):=by
 have C:=Lz (S160 h ae he)
 clear h he
 go_enter Tryz.func56,Tryz.ntmps56
 go_wp2_with fail
 refine C.out.mono ?_
 rintro e w1 hc
 obtain⟨c,zP,zN,zB,zX,zY,nm,rfl,h1⟩:=id hc
 have HC:=Lz hc
 clear hc h1
 unfold ptr
 go_wp2_with fail
 go_ret
 exact HC.out
theorem S192 (h:Own R w0 w L) (ae:Addr) (he:w.cell? ⟨2,0,.none⟩=some (eofV ae)):Calls Tryz.prog 99 #[] w (CurveC R w L nums192 192):=by
 have C:=Lz (init192 h ae he)
 clear h he
 go_enter Tryz.func99,Tryz.ntmps99
 go_wp2_with fail
 refine C.out.mono ?_
 rintro e w1 hc
 obtain⟨c,zP,zN,zB,zX,zY,nm,rfl,h1⟩:=id hc
 have HC:=Lz hc
 clear hc h1
 unfold ptr
 go_wp2_with fail
 go_ret
 exact HC.out
theorem named192 (h:Own R w0 w L) (ae:Addr) (he:w.cell? ⟨2,0,.none⟩=some (eofV ae)):Calls Tryz.prog 56 #[.int .i64 192] w (CurveC R w L nums192 192):=by
 have C:=Lz (S192 h ae he)
 clear h he
 go_enter Tryz.func56,Tryz.ntmps56
 go_wp2_with fail
 refine C.out.mono ?_
 rintro e w1 hc
 obtain⟨c,zP,zN,zB,zX,zY,nm,rfl,h1⟩:=id hc
 have HC:=Lz hc
 clear hc h1
 unfold ptr
 go_wp2_with fail
 go_ret
 exact HC.out
theorem S224 (h:Own R w0 w L) (ae:Addr) (he:w.cell? ⟨2,0,.none⟩=some (eofV ae)):Calls Tryz.prog 100 #[] w (CurveC R w L nums224 224):=by
 have C:=Lz (init224 h ae he)
 clear h he
 go_enter Tryz.func100,Tryz.ntmps100
 go_wp2_with fail
 refine C.out.mono ?_
 rintro e w1 hc
 obtain⟨c,zP,zN,zB,zX,zY,nm,rfl,h1⟩:=id hc
 have HC:=Lz hc
 clear hc h1
 unfold ptr
 go_wp2_with fail
 go_ret
 exact HC.out
theorem named224 (h:Own R w0 w L) (ae:Addr) (he:w.cell? ⟨2,0,.none⟩=some (eofV ae)):Calls Tryz.prog 56 #[.int .i64 224] w (CurveC R w L nums224 224):=by
 have C:=Lz (S224 h ae he)
 clear h he
 go_enter Tryz.func56,Tryz.ntmps56
 go_wp2_with fail
 refine C.out.mono ?_
 rintro e w1 hc
 obtain⟨c,zP,zN,zB,zX,zY,nm,rfl,h1⟩:=id hc
 have HC:=Lz hc
 clear hc h1
 unfold ptr
 go_wp2_with fail
 go_ret
 exact HC.out
theorem S256 (h:Own R w0 w L) (ae:Addr) (he:w.cell? ⟨2,0,.none⟩=some (eofV ae)):Calls Tryz.prog 101 #[] w (CurveC R w L nums256 256):=by
 have C:=Lz (init256 h ae he)
 clear h he
 go_enter Tryz.func101,Tryz.ntmps101
 go_wp2_with fail
 refine C.out.mono ?_
 rintro e w1 hc
 obtain⟨c,zP,zN,zB,zX,zY,nm,rfl,h1⟩:=id hc
 have HC:=Lz hc
 clear hc h1
 unfold ptr
 go_wp2_with fail
 go_ret
 exact HC.out
theorem named256 (h:Own R w0 w L) (ae:Addr) (he:w.cell? ⟨2,0,.none⟩=some (eofV ae)):Calls Tryz.prog 56 #[.int .i64 256] w (CurveC R w L nums256 256):=by
 have C:=Lz (S256 h ae he)
 clear h he
 go_enter Tryz.func56,Tryz.ntmps56
 go_wp2_with fail
 refine C.out.mono ?_
 rintro e w1 hc
 obtain⟨c,zP,zN,zB,zX,zY,nm,rfl,h1⟩:=id hc
 have HC:=Lz hc
 clear hc h1
 unfold ptr
 go_wp2_with fail
 go_ret
 exact HC.out
inductive Four:Nat->Nums->Prop
 | c160:Four 160 nums160
 | c192:Four 192 nums192
 | c224:Four 224 nums224
 | c256:Four 256 nums256
theorem Four.grp {b:Nat} {cu:Nums} (h:Four b cu):Grp cu:=by
 cases h
 . exact grp160
 . exact grp192
 . exact grp224
 . exact grp256
theorem namedO {b:Nat} {cu:Nums} (hf:Four b cu) (h:Own R w0 w L) (ae:Addr) (he:w.cell? ⟨2,0,.none⟩=some (eofV ae)):Calls Tryz.prog 56 #[.int .i64 (b:Nat)] w (CurveC R w L cu b):=by
 cases hf
 . exact named160 h ae he
 . exact named192 h ae he
 . exact named224 h ae he
 . exact named256 h ae he
end
end Go.Proofs.YtohhkjamddojmaaGreatDoor.Bit

set_option maxRecDepth 100000
set_option maxHeartbeats 16000000
namespace Go.Proofs.YtohhkjamddojmaaGreatDoor.Big
open Go.RowKit
theorem sameS (p p2:Option Addr) (c c2:Nat) (ks:List Nat) (w:World) (h:RowU w p c ks) (h2:RowU w p2 c2 ks):Calls Tryz.prog 26 #[.slice p ks.length c,.slice p2 ks.length c2] w (λe w'=>e=.returned (.bool true)/\∃ d,w'=w.drewN d):=by
 obtain⟨n,hn⟩:∃ n,n=ks.length:=⟨_,rfl⟩
 have H:=Lz (And.intro h (And.intro h2 hn))
 have hcm:n<=9223372036854775807:=by have:=h.1;have:=h.2.1;unfold maxLen at this;omega
 have W1:=Lz (show ∀ j:Nat,j<n->wrap64 ((j:Int)+1)=((j+1:Nat):Int) from λj hj=>wrapN (by omega) (by omega))
 have i1:((n:Int) != n)=false:=bne_self_eq_false _
 rw[<-hn]
 clear h h2 hn hcm
 go_enter Tryz.func26,Tryz.ntmps26
 go_wp2_with fail
 go_loopw [13] (λv wr=>∃ (k d:Nat),v=.int .i64 (k:Nat)/\wr=w.drewN d/\RowKit.Hid (k<=n)) (λv _=>((n:Int)-intOf v).toNat)
 case atStart=>exact⟨0,0,rfl,rfl,Lz (Nat.zero_le _)⟩
 case round=>
  obtain⟨k,d,rfl,rfl,HR⟩:=hrel
  have hk:=HR.out
  obtain⟨h,h2,hn⟩:=H.out
  rcases Nat.lt_or_ge k n with hkn|hkn
  . obtain⟨b,o,rfl⟩:=h.2.2.1 (by omega)
    obtain⟨b2,o2,rfl⟩:=h2.2.2.1 (by omega)
    have ca:=h.2.2.2.1 b o rfl k (by omega)
    have cb:=h2.2.2.2.1 b2 o2 rfl k (by omega)
    obtain⟨xa,hxa⟩:∃ v,v=ks.getD k 0:=⟨_,rfl⟩
    rw[<-hxa] at ca cb
    have i2:(k:Int)<n:=by omega
    have j1:((xa:Int) != xa)=false:=bne_self_eq_false _
    have HK:=Lz hkn
    clear h h2 hn hk HR hxa hkn
    go_wp2_with fail
    go_quiet (fail)
    go_wp2_with fail
    simp only[W1.out k HK.out]
    go_roundw
    case rel=>exact⟨k+1,_,rfl,by first|rfl|exact World.drewN_drewN _ _ _,Lz HK.out⟩
    case measure=>
     show((n:Int)-((k+1:Nat):Int)).toNat<((n:Int)-(k:Int)).toNat
     have:=HK.out
     omega
  . have i2:¬(k:Int)<n:=by omega
    clear hkn hk HR h h2 hn
    go_wp2_with fail
    go_ret
    exact⟨rfl,_,rfl⟩
end Go.Proofs.YtohhkjamddojmaaGreatDoor.Big
namespace Go.Proofs.YtohhkjamddojmaaGreatDoor.Bit
open Go.RowKit
open Big EcLaw
theorem sizeO (x:Int) (w:World) (h0:0<=x) (_h1:x<256):Calls Tryz.prog 14 #[.int .u8 x] w (λe w'=>∃ b c,Four b c/\e=.returned (.int .i64 (b:Nat))/\w.grownBy w' .none):=by
 have hm:x.tmod 4=0\/x.tmod 4=1\/x.tmod 4=2\/x.tmod 4=3:=by
  rw[Int.tmod_eq_emod_of_nonneg h0];omega
 go_enter Tryz.func14,Tryz.ntmps14
 rcases hm with h|h|h|h
 . go_wp2_with fail
   go_ret
   exact⟨160,_,.c160,rfl,zzy _ _ _⟩
 . go_wp2_with fail
   go_ret
   exact⟨192,_,.c192,rfl,zzy _ _ _⟩
 . go_wp2_with fail
   go_ret
   exact⟨224,_,.c224,rfl,zzy _ _ _⟩
 . go_wp2_with fail
   go_ret
   exact⟨256,_,.c256,rfl,zzy _ _ _⟩
end Go.Proofs.YtohhkjamddojmaaGreatDoor.Bit
