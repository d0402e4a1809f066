/- The specification's great numbers out of bytes. -/
import Derived.Test.YtohhkjamddojmaaGreatDoorBF
import Derived.Test.YtohhkjamddojmaaGreatDoorKC
import Derived.Lib.EndianBits
set_option maxRecDepth 100000
set_option maxHeartbeats 16000000
namespace Go.Proofs.YtohhkjamddojmaaGreatDoor.Big
open Go.RowKit
def RowU (w:World) (p:Option Addr) (c:Nat) (ks:List Nat):Prop:=
 ks.length<=c/\c<=maxLen/\(0<ks.length->∃ b o,p=some ⟨b,o,.none⟩)/\(∀ b o,p=some ⟨b,o,.none⟩->∀ i,i<ks.length->w.cell? ⟨b,o+i,.none⟩=some (.int .u8 (ks.getD i 0:Nat)))/\∀ i,ks.getD i 0<256
theorem RowU.kept {w w':World} {p:Option Addr} {c:Nat} {ks:List Nat} (h:RowU w p c ks) (hg:w.grownBy w' .none):RowU w' p c ks:=
 ⟨h.1,h.2.1,h.2.2.1,λb o e i hi=>hg.cell (h.2.2.2.1 b o e i hi) (by simp),h.2.2.2.2⟩
theorem bev_drop {ks:List Nat} {i:Nat} (h:i<ks.length):bev (ks.drop i)=ks.getD i 0*256^(ks.length-(i+1))+bev (ks.drop (i+1)):=by
 rw[List.drop_eq_getElem_cons h,bev_cons,List.length_drop]
 simp[List.getD,h]
theorem fb_two {ks ds:List Nat} {i j:Nat} (h:i+2+2*j=ks.length) (hd:ds.length=j) (hv:bval ds=bev (ks.drop (i+2))):bval (ds ++ [ks.getD (i+1) 0+ks.getD i 0*256])=bev (ks.drop i):=by
 rw[bval_snoc,hv,hd,bev_drop (show i<ks.length by omega),bev_drop (show i+1<ks.length by omega)]
 rw[show ks.length-(i+1)=2*j+1 by omega,show ks.length-(i+1+1)=2*j by omega]
 have e:B16^j=256^(2*j):=by rw[Nat.pow_mul];rfl
 rw[e,Nat.pow_succ]
 grind
theorem fb_one {ks ds:List Nat} {j:Nat} (h:1+2*j=ks.length) (hd:ds.length=j) (hv:bval ds=bev (ks.drop 1)):bval (ds ++ [ks.getD 0 0])=bev ks:=by
 have e0:bev ks=bev (ks.drop 0):=rfl
 rw[bval_snoc,hv,hd,e0,bev_drop (show 0<ks.length by omega)]
 rw[show ks.length-(0+1)=2*j by omega]
 have e:B16^j=256^(2*j):=by rw[Nat.pow_mul];rfl
 rw[e]
 grind
theorem or8 {a b:Nat} (ha:a<256) (hb:b<256):bits .or .i64 (a:Int) ((b:Int)*256)=((a+b*256:Nat):Int):=by
 rw[show(b:Int)*256=((b*256:Nat):Int) by omega]
 rw[bits_join_low .i64 63 (by decide) (λn h0 h1=>by rw[IntKind.wrap_i64];omega) 8 (a:Int) ((b*256:Nat):Int) (by omega) (by omega) (by omega) (by omega) (by omega) (by omega)]
 omega
theorem fromBytesS (p:Option Addr) (c:Nat) (ks:List Nat) (w:World) (h:RowU w p c ks) (hk:ks.length<=2147483647):Calls Tryz.prog 19 #[.slice p ks.length c] w (BigP (bev ks) w):=by
 obtain⟨i0,hi,hz0,hz1,hz2⟩:=info_parts info3
 obtain⟨n,hn⟩:∃ n,n=ks.length:=⟨_,rfl⟩
 have H:=Lz (And.intro h (And.intro hk hn))
 rw[<-hn]
 have W0:=Lz (show wrap64 ((n:Int)-1)=(n:Int)-1 from by have:=H.out.2;unfold wrap64;omega)
 clear h hk hn
 go_enter Tryz.func19,Tryz.ntmps19
 go_wp2_with fail
 try simp only[W0.out]
 go_loopw [3,4] (λv s4 wr=>∃ (j:Nat) (ds:List Nat) (t:Int),s4=.int .i64 t/\wr.ownsRow w.heap.size 3 1 v j (ds.map i64v)/\w.grownBy wr .none/\RowKit.Hid (t=(n:Int)-1-2*j/\-2<=t/\j<=n/\ds.length=j/\Wb ds/\bval ds=bev (ks.drop (t+1).toNat))) (λ_ s4 _=>(intOf s4+2).toNat)
 case atStart=>exact⟨0,[],(n:Int)-1,by first|rfl|exact congrArg (Value.int .i64) W0.out,World.ownsRow_nil _ _ _ _,World.grownBy.refl _ _,⟨by omega,by omega,Nat.zero_le _,rfl,Wb.nil,by
  rw[show((n:Int)-1+1).toNat=ks.length by have:=H.out.2.2;omega,List.drop_length];rfl⟩⟩
 case round=>
  obtain⟨j,ds,t,rfl,hown,hg,HR⟩:=hrel
  have HO:=Lz hown
  have HG:=Lz hg
  have hsz:w.heap.size<=wr.heap.size:=hg.size
  have hj6:j+1<=2147483648:=by have:=HR.out;have:=H.out;omega
  by_cases ht:0<=t
  . obtain⟨i,rfl⟩:∃ i:Nat,t=i:=⟨t.toNat,by omega⟩
    have i1:(i:Int)<n:=by have:=HR.out;omega
    have i1':i<n:=by omega
    obtain⟨bk,ok,rfl⟩:=H.out.1.2.2.1 (by have:=H.out.2.2;omega)
    have ck:=(H.out.1.kept hg).2.2.2.1 bk ok rfl i (by have:=H.out.2.2;omega)
    obtain⟨ki,hki⟩:∃ x,x=ks.getD i 0:=⟨_,rfl⟩
    rw[<-hki] at ck
    have kB:ki<256:=by rw[hki];exact H.out.1.2.2.2.2 i
    have W2:=Lz (show wrap64 ((i:Int)-2)=(i:Int)-2 from by have:=H.out.2;unfold wrap64;omega)
    by_cases hi0:i=0
    . have hi1:¬(0:Int)<i:=by omega
      have HN:=Lz (show(i:Int)-2=(n:Int)-1-2*((j+1:Nat):Int)/\(-2:Int)<=(i:Int)-2/\j+1<=n/\(ds ++ [ki]).length=j+1/\Wb (ds ++ [ki])/\bval (ds ++ [ki])=bev (ks.drop ((i:Int)-2+1).toNat) from by
       obtain⟨r1,r2,r3,r4,r5,r6⟩:=HR.out
       have hl:=H.out.2.2
       subst hi0
       refine⟨by omega,by omega,by omega,by rw[List.length_append,r4];rfl,r5.append (Wb.one (by unfold B16;omega)),?_⟩
       rw[hki]
       exact fb_one (j:=j) (by omega) r4 r6)
      have q2:=W2.out
      have HJ:=Lz hj6
      clear hki hown hg HR i1' ht hi0
      have hga:w.grownBy (wr.alloc (.cells #[Value.int .i64 (ki:Nat)] 3)) .none:=zzx HG.out (zzy _ _ _)
      have hoa:=owns_alloc HO.out (.cells #[Value.int .i64 (ki:Nat)] 3)
      have hsrc:∀ j u,([Value.int .i64 (ki:Nat)]:List Value)[j]? = some u->(wr.alloc (.cells #[Value.int .i64 (ki:Nat)] 3)).cell? ((⟨wr.heap.size,0,.none⟩:Addr).add j)=some u:=λj u hu=>by
       match j,hu with
       | 0,hu=>rw[<-hu];exact zwx (k:=0) (heap_alloc_new wr (.cells #[Value.int .i64 (ki:Nat)] 3)) rfl
       | j+1,hu=>simp at hu
      go_wp2_with (at_builtin;refine wpList_append_own _ rfl (.tmp 29) (.tmp 31) 36 rfl w.heap.size 3 i0 (.int .i64 0) 1 8 Tryz.underlying36 hi hz0 hz1 hz2 rfl (by decide) _ j (ds.map i64v) rfl hoa ⟨wr.heap.size,0,.none⟩ 1 1 [Value.int .i64 (ki:Nat)] rfl (by simp) hsrc (by intro u hu;rw[List.mem_singleton.1 hu];rfl) (by unfold maxLen;omega) (by omega) (Nat.le_trans hsz (by show _<=(Array.push _ _).size;rw[Array.size_push];omega)) ?_;intro v' w1 hown' hgrow hnn)
      have HO':=Lz (show w1.ownsRow w.heap.size 3 1 v' (j+1) ((ds ++ [ki]).map i64v) by rw[List.map_append];exact hown')
      have HGR:=Lz (And.intro hga hgrow)
      clear hown' hgrow hnn hga hoa hsrc
      go_wp2_with fail
      go_roundw
      case rel=>
       refine⟨j+1,ds ++ [ki],(i:Int)-2,by first|rfl|exact congrArg (Value.int .i64) W2.out,HO'.out,own_grown HO.out HGR.out.1 HGR.out.2,HN.out⟩
      case measure=>simp only[intOf];omega
    . obtain⟨m,hii⟩:∃ m,i=m+1:=⟨i-1,by omega⟩
      have cm:=(H.out.1.kept hg).2.2.2.1 bk ok rfl m (by have:=H.out.2.2;omega)
      obtain⟨km,hkm⟩:∃ x,x=ks.getD m 0:=⟨_,rfl⟩
      rw[<-hkm] at cm
      have kmB:km<256:=by rw[hkm];exact H.out.1.2.2.2.2 m
      have hi1:(0:Int)<i:=by omega
      have W3:=Lz (show wrap64 ((i:Int)-1)=m from wrapN (by omega) (by have:=H.out.2;omega))
      have m1:(m:Int)<n:=by omega
      obtain⟨dd,hdd⟩:∃ d,d=ki+km*256:=⟨_,rfl⟩
      have OR:=Lz (or8 kB kmB)
      have SHL:=Lz (show wrap64 ((km:Int)*256)=((km*256:Nat):Int) from wrapN (by omega) (by omega))
      rw[<-hdd] at OR
      have HN:=Lz (show(i:Int)-2=(n:Int)-1-2*((j+1:Nat):Int)/\(-2:Int)<=(i:Int)-2/\j+1<=n/\(ds ++ [dd]).length=j+1/\Wb (ds ++ [dd])/\bval (ds ++ [dd])=bev (ks.drop ((i:Int)-2+1).toNat) from by
       obtain⟨r1,r2,r3,r4,r5,r6⟩:=HR.out
       have hl:=H.out.2.2
       refine⟨by omega,by omega,by omega,by rw[List.length_append,r4];rfl,r5.append (Wb.one (by unfold B16;omega)),?_⟩
       subst hii
       rw[hdd,hki,hkm]
       rw[show(((m+1:Nat):Int)+1).toNat=m+2 by omega] at r6
       rw[show(((m+1:Nat):Int)-2+1).toNat=m by omega]
       exact fb_two (j:=j) (by omega) r4 r6)
      have q2:=W2.out
      have q3:=W3.out
      have q4:=SHL.out
      have q5:=OR.out
      have HJ:=Lz hj6
      clear hki hkm hown hg HR i1' ht hi0 hii hdd
      have hga:w.grownBy (wr.alloc (.cells #[Value.int .i64 (dd:Nat)] 3)) .none:=zzx HG.out (zzy _ _ _)
      have hoa:=owns_alloc HO.out (.cells #[Value.int .i64 (dd:Nat)] 3)
      have hsrc:∀ j u,([Value.int .i64 (dd:Nat)]:List Value)[j]? = some u->(wr.alloc (.cells #[Value.int .i64 (dd:Nat)] 3)).cell? ((⟨wr.heap.size,0,.none⟩:Addr).add j)=some u:=λj u hu=>by
       match j,hu with
       | 0,hu=>rw[<-hu];exact zwx (k:=0) (heap_alloc_new wr (.cells #[Value.int .i64 (dd:Nat)] 3)) rfl
       | j+1,hu=>simp at hu
      go_wp2_with (at_builtin;refine wpList_append_own _ rfl (.tmp 29) (.tmp 31) 36 rfl w.heap.size 3 i0 (.int .i64 0) 1 8 Tryz.underlying36 hi hz0 hz1 hz2 rfl (by decide) _ j (ds.map i64v) rfl hoa ⟨wr.heap.size,0,.none⟩ 1 1 [Value.int .i64 (dd:Nat)] rfl (by simp) hsrc (by intro u hu;rw[List.mem_singleton.1 hu];rfl) (by unfold maxLen;omega) (by omega) (Nat.le_trans hsz (by show _<=(Array.push _ _).size;rw[Array.size_push];omega)) ?_;intro v' w1 hown' hgrow hnn)
      have HO':=Lz (show w1.ownsRow w.heap.size 3 1 v' (j+1) ((ds ++ [dd]).map i64v) by rw[List.map_append];exact hown')
      have HGR:=Lz (And.intro hga hgrow)
      clear hown' hgrow hnn hga hoa hsrc
      go_wp2_with fail
      go_roundw
      case rel=>
       refine⟨j+1,ds ++ [dd],(i:Int)-2,by first|rfl|exact congrArg (Value.int .i64) W2.out,HO'.out,own_grown HO.out HGR.out.1 HGR.out.2,HN.out⟩
      case measure=>simp only[intOf];omega
  . have ht1:t<0:=by omega
    obtain⟨p',c',hv,hrow⟩:=owned_row hown HR.out.2.2.2.1.symm
    obtain⟨r1,r2,r3,r4,r5,r6⟩:=HR.out
    have hsum:bval ds=bev ks:=by
     rw[r6,show(t+1).toNat=0 by omega];rfl
    have HT:=trimS p' c' ds wr hrow
    rw[bnorm_bd ds r5,hsum,r4] at HT
    have HTT:=Lz HT
    have HF:=Lz (show ∀ wx,wx=wr->BigP (bev ks) w (.returned (.slice p' (bd (bev ks)).length c')) wx from λwx hwx=>by
     subst hwx
     refine⟨p',c',rfl,?_,hg⟩
     have hb:=bnorm_bd ds r5
     rw[hsum] at hb
     have:=bnorm_take ds
     rw[hb] at this
     rw[<-this]
     exact hrow.take _)
    rw[r4] at hv
    subst hv
    clear r1 r2 r3 r4 r5 r6 hsum HT hrow hown hg HR HO ht
    go_wp2_with fail
    refine HTT.out.mono ?_
    rintro e w1 ⟨rfl,hw⟩
    have HE:=Lz (HF.out _ hw)
    clear hw
    go_wp2_with fail
    go_ret
    exact HE.out
end Go.Proofs.YtohhkjamddojmaaGreatDoor.Big
