/- BytesBig of the specification. -/
import Derived.Test.YtohhkjamddojmaaGreatDoorSO
import Derived.Test.YtohhkjamddojmaaGreatDoorBA
import Derived.Deep.RegionHeld3
set_option maxRecDepth 100000
set_option maxHeartbeats 16000000
namespace Go.Proofs.YtohhkjamddojmaaGreatDoor.Big
open Go.RowKit
theorem owned_rowU {w:World} {base n:Nat} {v:Value} {ks:List Nat} (h:w.ownsRow base 5 1 v n (ks.map u8v)) (hn:n=ks.length) (h8:∀ i,ks.getD i 0<256):∃ p c,v=.slice p ks.length c/\RowU w p c ks:=by
 have h':=h
 subst hn
 rcases h with⟨hlen,⟨rfl,hks⟩|⟨g,cap,cur,rfl,hb,hblk,hle,hcm,hsz2,htk⟩⟩
 . obtain rfl:ks = []:=List.length_eq_zero_iff.1 hks
   exact⟨.none,0,rfl,Nat.le_refl _,by decide,λh=>absurd h (Nat.lt_irrefl _),(λb o e=>by cases e),h8⟩
 . refine⟨_,cap,rfl,hle,hcm,λ_=>⟨g,0,rfl⟩,λb o e i hi=>?_,h8⟩
   cases e
   have hc:=h'.cells (g:=g) rfl i (u8v (ks.getD i 0)) (by rw[List.getElem?_map,List.getElem?_eq_getElem hi];simp[List.getD,hi])
   rw[Nat.zero_add]
   unfold Addr.add at hc
   by_cases h0:i=0
   . subst h0;exact hc
   . rw[if_neg h0] at hc
     simpa [u8v] using hc
theorem owns_keep {w u:World} {base n:Nat} {v:Value} {xs:List Value} (h:w.ownsRow base 5 1 v n xs) (k:w.grownBy u .none):u.ownsRow base 5 1 v n xs:=by
 rcases h with⟨hlen,h|⟨g,cap,cur,hv,hb,hblk,hle,hcm,hsz2,htk⟩⟩
 . exact⟨hlen,.inl h⟩
 . exact⟨hlen,.inr ⟨g,cap,cur,hv,hb,(k.block g (Array.getElem?_eq_some_iff.1 hblk).1 (by simp)).trans hblk,hle,hcm,hsz2,htk⟩⟩
theorem own_grownU {w wr wa w1:World} {v:Value} {n:Nat} {xs:List Value} (hown:wr.ownsRow w.heap.size 5 1 v n xs) (h1:w.grownBy wa .none) (h2:wa.grownBy w1 v.ownBlock):w.grownBy w1 .none:=by
 rcases hown with⟨_,⟨rfl,_⟩|⟨g,cap,cur,rfl,hb,_⟩⟩
 . exact zzx h1 h2
 . exact grown_on h1 h2 hb
theorem step_wp {P:Program} {ops:Array Oper} {o:Oper} {a:Act} {w:World} {K:Act->World->Prop} {Q:Exit->Act->World->Prop} {E:Prop} (hgd:o.guard=none) (h:o.wp P a w K Q):if Region.wanted o (yielded ops a.tmps)=true then Oper.wp P o a w K Q else E:=by
 have hw:Region.wanted o (yielded ops a.tmps)=true:=by simp[Region.wanted,hgd]
 rw[if_pos hw]
 exact h
def BytP2 (n:Nat) (w:World) (e:Ending) (w':World):Prop:=∃ p c ks,e=.returned (.slice p ks.length c)/\RowU w' p c ks/\bev ks=n/\(0<ks.length->ks.getD 0 0≠0)/\w.grownBy w' .none
theorem bev_two (ks:List Nat) (d:Nat):bev (ks ++ [d/256,d%256])=bev ks*65536+d:=by
 rw[show ks ++ [d/256,d%256]=(ks ++ [d/256]) ++ [d%256] by simp,bev_snoc,bev_snoc]
 omega
theorem bytesBigS (p:Option Addr) (c n:Nat) (w:World) (h:RowI w p c (bd n)) (hl:(bd n).length<=100000):Calls Tryz.prog 27 #[.slice p (bd n).length c] w (BytP2 n w):=by
 obtain⟨i0,hi,hz0,hz1,hz2⟩:=info_parts info5
 obtain⟨E,hE⟩:∃ E,E=bd n:=⟨_,rfl⟩
 have vE:bval E=n:=by rw[hE];exact bval_bd n
 have hwE:Wb E:=by rw[hE];exact bd_words n
 rw[<-hE] at h hl ⊢
 obtain⟨L,hL⟩:∃ L,L=E.length:=⟨_,rfl⟩
 have H:=Lz (And.intro h (And.intro vE (And.intro hwE (And.intro hL (by omega:L<=100000)))))
 rw[<-hL]
 clear h hl vE hwE hL hE
 go_enter Tryz.func27,Tryz.ntmps27
 go_wp2_with fail
 go_loopw [3,4] (λv s4 wr=>∃ (I:Nat) (ks:List Nat),s4=.int .i64 ((I:Int)-1)/\wr.ownsRow w.heap.size 5 1 v ks.length (ks.map u8v)/\w.grownBy wr .none/\RowKit.Hid (I<=L/\ks.length=2*(L-I)/\(∀ i,ks.getD i 0<256)/\bev ks=bval (E.drop I))) (λ_ s4 _=>(intOf s4+1).toNat)
 case atStart=>exact⟨L,[],by first|rfl|exact congrArg (Value.int .i64) (by have:=H.out.2.2.2.2;unfold wrap64;omega),World.ownsRow_nil _ _ _ _,World.grownBy.refl _ _,⟨Nat.le_refl _,by simp,by simp,by rw[H.out.2.2.2.1,List.drop_length];rfl⟩⟩
 case round=>
  obtain⟨I,ks,rfl,hown,hg,HR⟩:=hrel
  have HO:=Lz hown
  have HG:=Lz hg
  rcases I with _|i
  . have e8:((0:Nat):Int)-1=-1:=by omega
    rw[e8]
    obtain⟨pv,cv,rfl,hrow⟩:=owned_rowU hown rfl HR.out.2.2.1
    have HRow:=Lz (And.intro hrow (show bev ks=n from by have:=HR.out.2.2.2;rw[List.drop_zero,H.out.2.1] at this;exact this))
    clear hown hg HR e8 hrow
    go_wp2_with fail
    go_loopw [3] (λv wq=>∃ (p':Option Addr) (c':Nat) (ls:List Nat),v=.slice p' ls.length c'/\w.grownBy wq .none/\RowKit.Hid (RowU wq p' c' ls/\bev ls=n)) (λv _=>(match v with|.slice _ l _=>l|_=>0))
    case atStart=>exact⟨pv,cv,ks,rfl,HG.out,HRow⟩
    case round=>
     obtain⟨p',c',ls,rfl,hg,HL⟩:=hrel
     have HG2:=Lz hg
     clear hg
     match ls,HL with
     | [],HL=>
      have HF:=Lz (show BytP2 n w (.returned (.slice p' 0 c')) wr from⟨p',c',[],rfl,HL.out.1,HL.out.2,λh=>absurd h (Nat.lt_irrefl _),HG2.out⟩)
      simp only[List.length_nil]
      go_wp2_with fail
      go_ret
      exact HF.out
     | x :: xs,HL=>
      obtain⟨b,o,rfl⟩:=HL.out.1.2.2.1 (by simp)
      have cx:wr.cell? ⟨b,o,.none⟩=some (.int .u8 (x:Nat)):=by
       have:=HL.out.1.2.2.2.1 b o rfl 0 (by simp)
       simpa [List.getD] using this
      obtain⟨c1,hc1⟩:∃ c1,c'=c1+1:=⟨c'-1,by have:=HL.out.1.1;rw[List.length_cons] at this;omega⟩
      subst hc1
      obtain⟨m,hm⟩:∃ m,m=xs.length:=⟨_,rfl⟩
      simp only[List.length_cons]
      rw[<-hm]
      have HM:=Lz hm
      have hmc:(m:Int)<=c1:=by have:=HL.out.1.1;rw[List.length_cons] at this;omega
      have i0':(0:Int)<(m:Int)+1:=by omega
      have i1':(1:Int)<=(m:Int)+1:=by omega
      clear hm
      by_cases hx:x=0
      . subst hx
        by_cases hc:c1=0
        . subst hc
          have HN:=Lz (show RowU wr (some ⟨b,o,.none⟩) 0 xs/\bev xs=n from by
           have h1:=HL.out
           have hxs:xs = []:=List.eq_nil_of_length_eq_zero (by have:=h1.1.1;rw[List.length_cons] at this;omega)
           subst hxs
           refine⟨⟨Nat.le_refl _,by decide,λh=>absurd h (Nat.lt_irrefl _),λb o e i hi=>absurd hi (Nat.not_lt_zero _),by simp⟩,?_⟩
           have:=h1.2
           rw[bev_cons,Nat.zero_mul,Nat.zero_add] at this
           exact this)
          go_wp2_with fail
          go_roundw
          case rel=>exact⟨_,0,xs,by rw[<-HM.out],HG2.out,HN⟩
          case measure=>show m<m+1;omega
        . have HN:=Lz (show RowU wr (some ⟨b,o+1,.none⟩) c1 xs/\bev xs=n from by
           obtain⟨⟨r1,r2,r3,r4,r5⟩,r6⟩:=HL.out
           refine⟨⟨by rw[List.length_cons] at r1;omega,by omega,λ_=>⟨b,o+1,rfl⟩,λb' o' e i hi=>?_,λi=>by have:=r5 (i+1);simpa [List.getD] using this⟩,?_⟩
           . injection e with e
             injection e with e1 e2
             subst e1 e2
             have:=r4 b o rfl (i+1) (by simpa using hi)
             rw[show o+1+i=o+(i+1) by omega]
             simpa [List.getD] using this
           . rw[bev_cons,Nat.zero_mul,Nat.zero_add] at r6
             exact r6)
          go_wp2_with fail
          go_roundw
          case rel=>exact⟨_,c1,xs,by rw[<-HM.out],HG2.out,HN⟩
          case measure=>show m<m+1;omega
      . have hx2:((x:Int)==0)=false:=by rw[beq_eq_false_iff_ne];omega
        have HF:=Lz (show BytP2 n w (.returned (.slice (some ⟨b,o,.none⟩) (m+1) (c1+1))) wr from⟨_,_,x :: xs,by rw[List.length_cons,<-HM.out],HL.out.1,HL.out.2,λ_=>by simpa [List.getD] using hx,HG2.out⟩)
        clear hx
        go_wp2_with fail
        go_ret
        exact HF.out
  . have e8:((i+1:Nat):Int)-1=(i:Int):=by omega
    rw[e8]
    have i5:(0:Int)<=i:=by omega
    have i5':decide ((i:Int)>=0)=true:=by rw[decide_eq_true_iff];omega
    have iL:(i:Int)<L:=by have:=HR.out.1;omega
    have iB:(i:Int)<=100000:=by have:=H.out.2.2.2.2;omega
    obtain⟨bu,ou,rfl⟩:=H.out.1.2.2.1 (by have:=HR.out.1;have:=H.out.2.2.2.1;omega)
    have ce:=(H.out.1.kept hg).2.2.2 bu ou rfl i (by have:=HR.out.1;have:=H.out.2.2.2.1;omega)
    obtain⟨d,hd⟩:∃ d,d=E.getD i 0:=⟨_,rfl⟩
    rw[<-hd] at ce
    have dB:d<65536:=by rw[hd];exact H.out.2.2.1.getD i
    have HD:=Lz (And.intro hd dB)
    obtain⟨dh,hdh⟩:∃ x,x=d/256:=⟨_,rfl⟩
    obtain⟨dl,hdl⟩:∃ x,x=d%256:=⟨_,rfl⟩
    have X1:(d:Int)/256%256=(dh:Int):=by omega
    have X2:(d:Int)%256=(dl:Int):=by omega
    have HX:=Lz (And.intro hdh hdl)
    have X3:IntKind.u8.wrap ((d:Int)/256)=(dh:Int):=by rw[IntKind.wrap_u8];exact X1
    have X4:IntKind.u8.wrap (d:Int)=(dl:Int):=by rw[IntKind.wrap_u8];exact X2
    clear hd dB hown hg e8 hdh hdl
    have GA:=Lz (show wr.grownBy ((wr.alloc (.cells #[.int .u8 (dh:Int),.int .u8 (dl:Int)] 5)).drew) .none from(zzy _ _ .none).trans (zxj _ .none))
    have HOA:=Lz (owns_keep HO.out GA.out)
    have HSRC:=Lz (show ∀ j u,([Value.int .u8 (dh:Int),Value.int .u8 (dl:Int)]:List Value)[j]? = some u->((wr.alloc (.cells #[.int .u8 (dh:Int),.int .u8 (dl:Int)] 5)).drew).cell? ((⟨wr.heap.size,0,.none⟩:Addr).add j)=some u from λj u hu=>by
     match j,hu with
     | 0,hu=>rw[<-hu];exact(zxj _ .none).cell (zwx (k:=0) (heap_alloc_new wr (.cells #[.int .u8 (dh:Int),.int .u8 (dl:Int)] 5)) rfl) (by simp)
     | 1,hu=>rw[<-hu];exact(zxj _ .none).cell (zwx (k:=1) (heap_alloc_new wr (.cells #[.int .u8 (dh:Int),.int .u8 (dl:Int)] 5)) rfl) (by simp)
     | j+2,hu=>simp at hu)
    have HSZ:=Lz (show w.heap.size<=((wr.alloc (.cells #[.int .u8 (dh:Int),.int .u8 (dl:Int)] 5)).drew).heap.size from Nat.le_trans HG.out.size GA.out.size)
    have HONE:=Lz (show ∀ u∈([Value.int .u8 (dh:Int),Value.int .u8 (dl:Int)]:List Value),u.oneCell'=true from by
     intro u hu
     simp only[List.mem_cons,List.not_mem_nil,or_false] at hu
     rcases hu with rfl|rfl
     . rfl
     . rfl)
    have HKB:=Lz (show ks.length<=200000 by have:=HR.out.2.1;have:=H.out.2.2.2.2;omega)
    go_upto_region 5 with fail
    go_region_held3 (λw'=>w'.cell? ⟨bu,ou+i,.none⟩=some (.int .i64 (d:Nat))) (go_keep) ((refine step_wp rfl ?_;refine wp_append_own _ (.tmp 12) (.tmp 24) 25 rfl w.heap.size 5 i0 (.int .u8 0) 1 1 Tryz.underlying25 hi hz0 hz1 hz2 rfl (by decide) _ ks.length (ks.map u8v) rfl HOA.out ⟨wr.heap.size,0,.none⟩ 2 2 [Value.int .u8 (dh:Int),Value.int .u8 (dl:Int)] rfl (by simp) HSRC.out HONE.out (by have:=HKB.out;unfold maxLen;omega) (by have:=HKB.out;omega) HSZ.out ?_;intro v' w1 hown' hgrow hnn;have HW:=Lz (own_grownU HOA.out (HG.out.trans GA.out) hgrow);have ce:=(H.out.1.kept HW.out).2.2.2 bu ou rfl i (by have:=HR.out.1;have:=H.out.2.2.2.1;omega);rw[<-HD.out.1] at ce;have HO':=Lz hown';clear hown' hgrow hnn))
    have HN:=Lz (show i<=L/\(ks ++ [dh,dl]).length=2*(L-i)/\(∀ j,(ks ++ [dh,dl]).getD j 0<256)/\bev (ks ++ [dh,dl])=bval (E.drop i) from by
     obtain⟨r1,r2,r3,r4⟩:=HR.out
     obtain⟨xh,xl⟩:=HX.out
     refine⟨by omega,by rw[List.length_append,r2];simp;omega,λj=>?_,?_⟩
     . have hd2:=HD.out.2
       rcases Nat.lt_or_ge j ks.length with hj|hj
       . have:=r3 j
         simp only[List.getD_eq_getElem?_getD] at this ⊢
         rw[List.getElem?_append_left hj]
         exact this
       . simp only[List.getD_eq_getElem?_getD]
         rw[List.getElem?_append_right hj]
         match j-ks.length with
         | 0=>simp;omega
         | 1=>simp;omega
         | m+2=>simp
     . rw[xh,xl,bev_two,r4,bval_drop E i,<-HD.out.1,Nat.add_comm,Nat.mul_comm];rfl)
    have HO2:=Lz (show w1.ownsRow w.heap.size 5 1 v' (ks ++ [dh,dl]).length ((ks ++ [dh,dl]).map u8v) from by
     rw[List.length_append,List.map_append];exact HO'.out)
    clear ce X1 X2 X3 X4
    go_wp2_with fail
    go_roundw
    case rel=>first|exact⟨i,_,by first|rfl|exact congrArg (Value.int .i64) (by unfold wrap64;omega),HO2.out,HW.out,HN⟩|exact⟨i,by first|rfl|omega,_,HO2.out,HW.out,HN⟩
    case measure=>
     simp only[intOf]
     first|omega|(unfold wrap64;omega)
end Go.Proofs.YtohhkjamddojmaaGreatDoor.Big
