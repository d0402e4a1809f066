/- Differences of the specification's great numbers. Sums of the specification's great numbers. The specification's great numbers written in place: q m taken away. Products of the specification's great numbers. -/
import Derived.Test.YtohhkjamddojmaaGreatDoorBA
import Derived.Test.YtohhkjamddojmaaGreatDoorKC
set_option maxRecDepth 100000
set_option maxHeartbeats 16000000
namespace Go.Proofs.YtohhkjamddojmaaGreatDoor.Big
open Go.RowKit
theorem info3:(Tryz.prog.info? 3).map (λi=>(i.zero,i.size,i.bytes))=some (some (.int .i64 0),1,8):=by kernel_rfl
def i64v (k:Nat):Value:=.int .i64 (k:Nat)
theorem RowI.kept {w w':World} {p:Option Addr} {c:Nat} {xs:List Nat} (h:RowI w p c xs) (hg:w.grownBy w' .none):RowI w' p c xs:=
 ⟨h.1,h.2.1,h.2.2.1,λb o e i hi=>cell_grown (h.2.2.2 b o e i hi) hg (by simp)⟩
theorem owned_row {w:World} {base n:Nat} {v:Value} {ks:List Nat} (h:w.ownsRow base 3 1 v n (ks.map i64v)) (hn:n=ks.length):∃ p c,v=.slice p ks.length c/\RowI w p c ks:=by
 have h':=h
 subst hn
 rcases h with⟨hlen,⟨rfl,hks⟩|⟨g,cap,cur,rfl,hb,hblk,hle,hcm,hsz2,htk⟩⟩
 . obtain rfl:ks = []:=List.length_eq_zero_iff.1 hks
   exact⟨.none,0,rfl,Nat.le_refl _,by decide,λh=>absurd h (Nat.lt_irrefl _),λb o e=>by cases e⟩
 . refine⟨_,cap,rfl,hle,hcm,λ_=>⟨g,0,rfl⟩,λb o e i hi=>?_⟩
   cases e
   have hc:=h'.cells (g:=g) rfl i (i64v (ks.getD i 0)) (by rw[List.getElem?_map,List.getElem?_eq_getElem hi];simp[List.getD,hi])
   rw[Nat.zero_add]
   unfold Addr.add at hc
   by_cases h0:i=0
   . subst h0;exact hc
   . rw[if_neg h0] at hc
     simpa [i64v] using hc
theorem owns_alloc {w:World} {base n:Nat} {v:Value} {xs:List Value} (h:w.ownsRow base 3 1 v n xs) (o:Obj):(w.alloc o).ownsRow base 3 1 v n xs:=by
 rcases h with⟨hlen,h|⟨g,cap,cur,hv,hb,hblk,hle,hcm,hsz2,htk⟩⟩
 . exact⟨hlen,.inl h⟩
 . exact⟨hlen,.inr ⟨g,cap,cur,hv,hb,((zzy w o .none).block g (Array.getElem?_eq_some_iff.1 hblk).1 (by simp)).trans hblk,hle,hcm,hsz2,htk⟩⟩
theorem own_grown {w wr wa w1:World} {v:Value} {n:Nat} {xs:List Value} (hown:wr.ownsRow w.heap.size 3 1 v n xs) (h1:w.grownBy wa .none) (h2:wa.grownBy w1 v.ownBlock):w.grownBy w1 .none:=by
 rcases hown with⟨_,⟨rfl,_⟩|⟨g,cap,cur,rfl,hb,_⟩⟩
 . exact zzx h1 h2
 . exact grown_on h1 h2 hb
def BigP (n:Nat) (w:World) (e:Ending) (w':World):Prop:=∃ p c,e=.returned (.slice p (bd n).length c)/\RowI w' p c (bd n)/\w.grownBy w' .none
theorem minusS (p p2:Option Addr) (c c2 A B:Nat) (w:World) (h:RowI w p c (bd A)) (h2:RowI w p2 c2 (bd B)) (hle:B<=A) (hA:(bd A).length<=1000000):Calls Tryz.prog 23 #[.slice p (bd A).length c,.slice p2 (bd B).length c2] w (BigP (A-B) w):=by
 obtain⟨i0,hi,hz0,hz1,hz2⟩:=info_parts info3
 obtain⟨X,hX⟩:∃ X,X=bd A:=⟨_,rfl⟩
 obtain⟨Y,hY⟩:∃ Y,Y=bd B:=⟨_,rfl⟩
 have vA:bval X=A:=by rw[hX];exact bval_bd A
 have vB:bval Y=B:=by rw[hY];exact bval_bd B
 have hwX:Wb X:=by rw[hX];exact bd_words A
 have hwY:Wb Y:=by rw[hY];exact bd_words B
 have hYX:Y.length<=X.length:=by
  rw[hX,hY]
  rcases Nat.lt_or_ge (bd A).length (bd B).length with hl|hl
  . have:=bd_lt hl;omega
  . exact hl
 rw[<-hX] at h hA ⊢
 rw[<-hY] at h2 ⊢
 obtain⟨n,hn⟩:∃ n,n=X.length:=⟨_,rfl⟩
 obtain⟨m,hm⟩:∃ m,m=Y.length:=⟨_,rfl⟩
 have H:=Lz (And.intro h (And.intro h2 (And.intro hle (And.intro hA (And.intro vA (And.intro vB (And.intro hwX (And.intro hwY (And.intro hYX (And.intro hn hm))))))))))
 rw[<-hn,<-hm]
 clear h h2 hle hA vA vB hwX hwY hYX hn hm hX hY
 go_enter Tryz.func23,Tryz.ntmps23
 go_wp2_with fail
 go_loopw [5,6,11] (λv s6 s11 wr=>∃ (i cy:Nat) (ks:List Nat),s6=.int .i64 (cy:Nat)/\s11=.int .i64 (i:Nat)/\wr.ownsRow w.heap.size 3 1 v i (ks.map i64v)/\w.grownBy wr .none/\RowKit.Hid (i<=n/\cy<=1/\ks.length=i/\Wb ks/\bval ks+bval (Y.take i)=bval (X.take i)+B16^i*cy)) (λ_ _ s11 _=>(n-intOf s11).toNat)
 case atStart=>exact⟨0,0,[],rfl,rfl,World.ownsRow_nil _ _ _ _,World.grownBy.refl _ _,⟨Nat.zero_le _,Nat.zero_le _,rfl,Wb.nil,by simp[bval]⟩⟩
 case round=>
  obtain⟨i,cy,ks,rfl,rfl,hown,hg,HR⟩:=hrel
  have HO:=Lz hown
  have HG:=Lz hg
  have hsz:w.heap.size<=wr.heap.size:=hg.size
  obtain⟨p',c',hv,hrow⟩:=owned_row hown HR.out.2.2.1.symm
  have HROW:=Lz hrow
  by_cases he:i=n
  . obtain⟨r1,r2,r3,r4,r5⟩:=HR.out
    obtain⟨h,h2,hle,hA,vA,vB,hwX,hwY,hYX,hn,hm⟩:=H.out
    have hend:=minus_end (a:=X) (b:=Y) (o:=ks) (c:=cy) (by omega) r4 (by rw[List.take_of_length_le (by omega),List.take_of_length_le (by omega)] at r5;rw[r5,he,hn]) (by omega)
    have HT:=trimS p' c' ks wr hrow
    rw[bnorm_bd ks r4,hend.2,vA,vB] at HT
    have HTT:=Lz HT
    have HF:=Lz (show ∀ wx,wx=wr->BigP (A-B) w (.returned (.slice p' (bd (A-B)).length c')) wx from λwx hwx=>by
     subst hwx
     refine⟨p',c',rfl,?_,hg⟩
     have hb:=bnorm_bd ks r4
     rw[hend.2,vA,vB] at hb
     have:=bnorm_take ks
     rw[hb] at this
     rw[<-this]
     exact hrow.take _)
    subst hv
    have e2:¬(i:Int)<n:=by omega
    clear h h2 hle hA vA vB hwX hwY hYX hn hm r1 r2 r3 r4 r5 hend HT hrow hown hg he HR HO
    go_wp2_with fail
    refine HTT.out.mono ?_
    rintro e w1 ⟨rfl,hw⟩
    have HE:=Lz (HF.out _ hw)
    clear hw
    go_wp2_with fail
    go_ret
    exact HE.out
  . have him:i<n:=by have:=HR.out.1;omega
    obtain⟨bA,oA,rfl⟩:=H.out.1.2.2.1 (by have:=H.out;omega)
    have ca:=(H.out.1.kept hg).2.2.2 bA oA rfl i (by have:=H.out;omega)
    obtain⟨xi,hxi⟩:∃ x,x=X.getD i 0:=⟨_,rfl⟩
    rw[<-hxi] at ca
    have xB:xi<65536:=by rw[hxi];exact H.out.2.2.2.2.2.2.1.getD i
    have hc1:=HR.out.2.1
    have i1:(i:Int)<n:=by omega
    obtain⟨z1,hz1'⟩:∃ z:Int,z=(xi:Int)-cy:=⟨_,rfl⟩
    have W1:=Lz (show wrap64 ((xi:Int)-(cy:Int))=z1 from by unfold wrap64;omega)
    by_cases hm:i<m
    . have i2:(i:Int)<m:=by omega
      obtain⟨bB,oB,rfl⟩:=H.out.2.1.2.2.1 (by have:=H.out;omega)
      have cb:=(H.out.2.1.kept hg).2.2.2 bB oB rfl i (by have:=H.out;omega)
      obtain⟨yi,hyi⟩:∃ x,x=Y.getD i 0:=⟨_,rfl⟩
      rw[<-hyi] at cb
      have yB:yi<65536:=by rw[hyi];exact H.out.2.2.2.2.2.2.2.1.getD i
      have hy0:Y.getD i 0=yi:=hyi.symm
      obtain⟨z2,hz2'⟩:∃ z:Int,z=z1-yi:=⟨_,rfl⟩
      have W2:=Lz (show wrap64 (z1-(yi:Int))=z2 from by unfold wrap64;omega)
      by_cases hneg:z2<0
      . obtain⟨dd,hdd'⟩:∃ d:Nat,z2+65536=(d:Int):=⟨(z2+65536).toNat,by omega⟩
        have hdB:dd<65536:=by omega
        have hcB:(1:Nat)<=1:=Nat.le_refl _
        have hdd:dd+cy+Y.getD i 0=X.getD i 0+B16*1:=by rw[hy0,<-hxi];unfold B16;omega
        have W3:=Lz (show wrap64 (z2+65536)=(dd:Int) from by rw[<-hdd'];unfold wrap64;omega)
        have w1:=W1.out
        have w3:=W3.out
        have w2:=W2.out
        have HDD:=Lz (And.intro hdB (And.intro hcB hdd))
        have hga:w.grownBy (wr.alloc (.cells #[Value.int .i64 (dd:Nat)] 3)) .none:=zzx HG.out (zzy _ _ _)
        have hoa:=owns_alloc HO.out (.cells #[Value.int .i64 (dd:Nat)] 3)
        have hsrc:∀ j u,([Value.int .i64 (dd:Nat)]:List Value)[j]? = some u->(wr.alloc (.cells #[Value.int .i64 (dd:Nat)] 3)).cell? ((⟨wr.heap.size,0,.none⟩:Addr).add j)=some u:=λj u hu=>by
         match j,hu with
         | 0,hu=>rw[<-hu];exact zwx (k:=0) (heap_alloc_new wr (.cells #[Value.int .i64 (dd:Nat)] 3)) rfl
         | j+1,hu=>simp at hu
        have HIL:=Lz him
        have HRR:=Lz HR.out
        have hi6:i+1<=1000001:=by have:=HR.out.1;have:=H.out;omega
        have HS:=Lz hsz
        clear him hdB hcB hdd hown hg hrow hv HR
        clear hdd' hy0 hz1' hc1 xB hm W1 W3 hxi he yB hyi hz2' W2
        go_wp2_with (at_builtin;refine wpList_append_own _ rfl (.tmp 34) (.tmp 36) 36 rfl w.heap.size 3 i0 (.int .i64 0) 1 8 Tryz.underlying36 hi hz0 hz1 hz2 rfl (by decide) _ i (ks.map i64v) rfl hoa ⟨wr.heap.size,0,.none⟩ 1 1 [Value.int .i64 (dd:Nat)] rfl (by simp) hsrc (by intro u hu;rw[List.mem_singleton.1 hu];rfl) (by unfold maxLen;omega) (by omega) (Nat.le_trans hsz (by show _<=(Array.push _ _).size;rw[Array.size_push];omega)) ?_;intro v' w1 hown' hgrow hnn)
        have HO':=Lz (show w1.ownsRow w.heap.size 3 1 v' (i+1) ((ks ++ [dd]).map i64v) by rw[List.map_append];exact hown')
        have HGR:=Lz (And.intro hga hgrow)
        clear hown' hgrow hnn hga hoa hsrc
        go_wp2_with fail
        go_roundw
        case rel=>
         refine⟨i+1,1,ks ++ [dd],by first|rfl|trivial,by first|rfl|go_num|exact congrArg (Value.int .i64) (wrapN (by omega) (by omega)),HO'.out,own_grown HO.out HGR.out.1 HGR.out.2,⟨HIL.out,HDD.out.2.1,by rw[List.length_append,HRR.out.2.2.1];rfl,HRR.out.2.2.2.1.append (Wb.one HDD.out.1),minus_step HRR.out.2.2.1 HRR.out.2.2.2.2 HDD.out.2.2⟩⟩
        case measure=>
         have:=HIL.out
         simp only[intOf]
         first|omega|(rw[show wrap64 ((i:Int)+1)=((i+1:Nat):Int) from wrapN (by omega) (by omega)];omega)
      . obtain⟨dd,hdd'⟩:∃ d:Nat,z2=(d:Int):=⟨z2.toNat,by omega⟩
        have hdB:dd<65536:=by omega
        have hcB:(0:Nat)<=1:=Nat.zero_le _
        have hdd:dd+cy+Y.getD i 0=X.getD i 0+B16*0:=by rw[hy0,<-hxi];omega
        have n0:¬(dd:Int)<0:=by omega
        rw[hdd'] at W2
        have w1:=W1.out
        have w2:=W2.out
        have HDD:=Lz (And.intro hdB (And.intro hcB hdd))
        have hga:w.grownBy (wr.alloc (.cells #[Value.int .i64 (dd:Nat)] 3)) .none:=zzx HG.out (zzy _ _ _)
        have hoa:=owns_alloc HO.out (.cells #[Value.int .i64 (dd:Nat)] 3)
        have hsrc:∀ j u,([Value.int .i64 (dd:Nat)]:List Value)[j]? = some u->(wr.alloc (.cells #[Value.int .i64 (dd:Nat)] 3)).cell? ((⟨wr.heap.size,0,.none⟩:Addr).add j)=some u:=λj u hu=>by
         match j,hu with
         | 0,hu=>rw[<-hu];exact zwx (k:=0) (heap_alloc_new wr (.cells #[Value.int .i64 (dd:Nat)] 3)) rfl
         | j+1,hu=>simp at hu
        have HIL:=Lz him
        have HRR:=Lz HR.out
        have hi6:i+1<=1000001:=by have:=HR.out.1;have:=H.out;omega
        have HS:=Lz hsz
        clear him hdB hcB hdd hown hg hrow hv HR
        clear hneg hdd' hy0 hz1' hc1 xB hm W1 hxi he yB hyi hz2' W2
        go_wp2_with (at_builtin;refine wpList_append_own _ rfl (.tmp 34) (.tmp 36) 36 rfl w.heap.size 3 i0 (.int .i64 0) 1 8 Tryz.underlying36 hi hz0 hz1 hz2 rfl (by decide) _ i (ks.map i64v) rfl hoa ⟨wr.heap.size,0,.none⟩ 1 1 [Value.int .i64 (dd:Nat)] rfl (by simp) hsrc (by intro u hu;rw[List.mem_singleton.1 hu];rfl) (by unfold maxLen;omega) (by omega) (Nat.le_trans hsz (by show _<=(Array.push _ _).size;rw[Array.size_push];omega)) ?_;intro v' w1 hown' hgrow hnn)
        have HO':=Lz (show w1.ownsRow w.heap.size 3 1 v' (i+1) ((ks ++ [dd]).map i64v) by rw[List.map_append];exact hown')
        have HGR:=Lz (And.intro hga hgrow)
        clear hown' hgrow hnn hga hoa hsrc
        go_wp2_with fail
        go_roundw
        case rel=>
         refine⟨i+1,0,ks ++ [dd],by first|rfl|trivial,by first|rfl|go_num|exact congrArg (Value.int .i64) (wrapN (by omega) (by omega)),HO'.out,own_grown HO.out HGR.out.1 HGR.out.2,⟨HIL.out,HDD.out.2.1,by rw[List.length_append,HRR.out.2.2.1];rfl,HRR.out.2.2.2.1.append (Wb.one HDD.out.1),minus_step HRR.out.2.2.1 HRR.out.2.2.2.2 HDD.out.2.2⟩⟩
        case measure=>
         have:=HIL.out
         simp only[intOf]
         first|omega|(rw[show wrap64 ((i:Int)+1)=((i+1:Nat):Int) from wrapN (by omega) (by omega)];omega)
    . have i2:¬(i:Int)<m:=by omega
      have hy0:Y.getD i 0=0:=by rw[List.getD,List.getElem?_eq_none (by have:=H.out.2.2.2.2.2.2.2.2.2.2;omega)];rfl
      by_cases hneg:z1<0
      . obtain⟨dd,hdd'⟩:∃ d:Nat,z1+65536=(d:Int):=⟨(z1+65536).toNat,by omega⟩
        have hdB:dd<65536:=by omega
        have hcB:(1:Nat)<=1:=Nat.le_refl _
        have hdd:dd+cy+Y.getD i 0=X.getD i 0+B16*1:=by rw[hy0,<-hxi];unfold B16;omega
        have W3:=Lz (show wrap64 (z1+65536)=(dd:Int) from by rw[<-hdd'];unfold wrap64;omega)
        have w1:=W1.out
        have w3:=W3.out
        have HDD:=Lz (And.intro hdB (And.intro hcB hdd))
        have hga:w.grownBy (wr.alloc (.cells #[Value.int .i64 (dd:Nat)] 3)) .none:=zzx HG.out (zzy _ _ _)
        have hoa:=owns_alloc HO.out (.cells #[Value.int .i64 (dd:Nat)] 3)
        have hsrc:∀ j u,([Value.int .i64 (dd:Nat)]:List Value)[j]? = some u->(wr.alloc (.cells #[Value.int .i64 (dd:Nat)] 3)).cell? ((⟨wr.heap.size,0,.none⟩:Addr).add j)=some u:=λj u hu=>by
         match j,hu with
         | 0,hu=>rw[<-hu];exact zwx (k:=0) (heap_alloc_new wr (.cells #[Value.int .i64 (dd:Nat)] 3)) rfl
         | j+1,hu=>simp at hu
        have HIL:=Lz him
        have HRR:=Lz HR.out
        have hi6:i+1<=1000001:=by have:=HR.out.1;have:=H.out;omega
        have HS:=Lz hsz
        clear him hdB hcB hdd hown hg hrow hv HR
        clear hdd' hy0 hz1' hc1 xB hm W1 W3 hxi he 
        go_wp2_with (at_builtin;refine wpList_append_own _ rfl (.tmp 34) (.tmp 36) 36 rfl w.heap.size 3 i0 (.int .i64 0) 1 8 Tryz.underlying36 hi hz0 hz1 hz2 rfl (by decide) _ i (ks.map i64v) rfl hoa ⟨wr.heap.size,0,.none⟩ 1 1 [Value.int .i64 (dd:Nat)] rfl (by simp) hsrc (by intro u hu;rw[List.mem_singleton.1 hu];rfl) (by unfold maxLen;omega) (by omega) (Nat.le_trans hsz (by show _<=(Array.push _ _).size;rw[Array.size_push];omega)) ?_;intro v' w1 hown' hgrow hnn)
        have HO':=Lz (show w1.ownsRow w.heap.size 3 1 v' (i+1) ((ks ++ [dd]).map i64v) by rw[List.map_append];exact hown')
        have HGR:=Lz (And.intro hga hgrow)
        clear hown' hgrow hnn hga hoa hsrc
        go_wp2_with fail
        go_roundw
        case rel=>
         refine⟨i+1,1,ks ++ [dd],by first|rfl|trivial,by first|rfl|go_num|exact congrArg (Value.int .i64) (wrapN (by omega) (by omega)),HO'.out,own_grown HO.out HGR.out.1 HGR.out.2,⟨HIL.out,HDD.out.2.1,by rw[List.length_append,HRR.out.2.2.1];rfl,HRR.out.2.2.2.1.append (Wb.one HDD.out.1),minus_step HRR.out.2.2.1 HRR.out.2.2.2.2 HDD.out.2.2⟩⟩
        case measure=>
         have:=HIL.out
         simp only[intOf]
         first|omega|(rw[show wrap64 ((i:Int)+1)=((i+1:Nat):Int) from wrapN (by omega) (by omega)];omega)
      . obtain⟨dd,hdd'⟩:∃ d:Nat,z1=(d:Int):=⟨z1.toNat,by omega⟩
        have hdB:dd<65536:=by omega
        have hcB:(0:Nat)<=1:=Nat.zero_le _
        have hdd:dd+cy+Y.getD i 0=X.getD i 0+B16*0:=by rw[hy0,<-hxi];omega
        have n0:¬(dd:Int)<0:=by omega
        rw[hdd'] at W1
        have w1:=W1.out
        have HDD:=Lz (And.intro hdB (And.intro hcB hdd))
        have hga:w.grownBy (wr.alloc (.cells #[Value.int .i64 (dd:Nat)] 3)) .none:=zzx HG.out (zzy _ _ _)
        have hoa:=owns_alloc HO.out (.cells #[Value.int .i64 (dd:Nat)] 3)
        have hsrc:∀ j u,([Value.int .i64 (dd:Nat)]:List Value)[j]? = some u->(wr.alloc (.cells #[Value.int .i64 (dd:Nat)] 3)).cell? ((⟨wr.heap.size,0,.none⟩:Addr).add j)=some u:=λj u hu=>by
         match j,hu with
         | 0,hu=>rw[<-hu];exact zwx (k:=0) (heap_alloc_new wr (.cells #[Value.int .i64 (dd:Nat)] 3)) rfl
         | j+1,hu=>simp at hu
        have HIL:=Lz him
        have HRR:=Lz HR.out
        have hi6:i+1<=1000001:=by have:=HR.out.1;have:=H.out;omega
        have HS:=Lz hsz
        clear him hdB hcB hdd hown hg hrow hv HR
        clear hneg hdd' hy0 hz1' hc1 xB hm W1 hxi he 
        go_wp2_with (at_builtin;refine wpList_append_own _ rfl (.tmp 34) (.tmp 36) 36 rfl w.heap.size 3 i0 (.int .i64 0) 1 8 Tryz.underlying36 hi hz0 hz1 hz2 rfl (by decide) _ i (ks.map i64v) rfl hoa ⟨wr.heap.size,0,.none⟩ 1 1 [Value.int .i64 (dd:Nat)] rfl (by simp) hsrc (by intro u hu;rw[List.mem_singleton.1 hu];rfl) (by unfold maxLen;omega) (by omega) (Nat.le_trans hsz (by show _<=(Array.push _ _).size;rw[Array.size_push];omega)) ?_;intro v' w1 hown' hgrow hnn)
        have HO':=Lz (show w1.ownsRow w.heap.size 3 1 v' (i+1) ((ks ++ [dd]).map i64v) by rw[List.map_append];exact hown')
        have HGR:=Lz (And.intro hga hgrow)
        clear hown' hgrow hnn hga hoa hsrc
        go_wp2_with fail
        go_roundw
        case rel=>
         refine⟨i+1,0,ks ++ [dd],by first|rfl|trivial,by first|rfl|go_num|exact congrArg (Value.int .i64) (wrapN (by omega) (by omega)),HO'.out,own_grown HO.out HGR.out.1 HGR.out.2,⟨HIL.out,HDD.out.2.1,by rw[List.length_append,HRR.out.2.2.1];rfl,HRR.out.2.2.2.1.append (Wb.one HDD.out.1),minus_step HRR.out.2.2.1 HRR.out.2.2.2.2 HDD.out.2.2⟩⟩
        case measure=>
         have:=HIL.out
         simp only[intOf]
         first|omega|(rw[show wrap64 ((i:Int)+1)=((i+1:Nat):Int) from wrapN (by omega) (by omega)];omega)
end Go.Proofs.YtohhkjamddojmaaGreatDoor.Big

set_option maxRecDepth 100000
set_option maxHeartbeats 16000000
namespace Go.Proofs.YtohhkjamddojmaaGreatDoor.Big
open Go.RowKit
theorem and16 (x:Nat) (hx:x<9223372036854775808):bits BinOp.and IntKind.i64 (x:Int) 65535=((x%65536:Nat):Int):=by
 have e63:(2:Int)^63=9223372036854775808:=by decide
 have h:=bits_mask .i64 63 (by decide) (λn h0 h1=>by rw[e63] at h1;rw[IntKind.wrap_i64];omega) 16 (by decide) (x:Int) (by omega) (by rw[e63];omega)
 have e:((2:Int)^16-1)=65535:=by decide
 rw[e] at h
 rw[h]
 omega
theorem plusS (p p2:Option Addr) (c c2 A B:Nat) (w:World) (h:RowI w p c (bd A)) (h2:RowI w p2 c2 (bd B)) (hA:(bd A).length<=1000000) (hB:(bd B).length<=1000000):Calls Tryz.prog 110 #[.slice p (bd A).length c,.slice p2 (bd B).length c2] w (BigP (A+B) w):=by
 obtain⟨i0,hi,hz0,hz1,hz2⟩:=info_parts info3
 obtain⟨X,hX⟩:∃ X,X=bd A:=⟨_,rfl⟩
 obtain⟨Y,hY⟩:∃ Y,Y=bd B:=⟨_,rfl⟩
 have vA:bval X=A:=by rw[hX];exact bval_bd A
 have vB:bval Y=B:=by rw[hY];exact bval_bd B
 have hwX:Wb X:=by rw[hX];exact bd_words A
 have hwY:Wb Y:=by rw[hY];exact bd_words B
 rw[<-hX] at h hA ⊢
 rw[<-hY] at h2 hB ⊢
 obtain⟨n,hn⟩:∃ n,n=X.length:=⟨_,rfl⟩
 obtain⟨m,hm⟩:∃ m,m=Y.length:=⟨_,rfl⟩
 have H:=Lz (And.intro h (And.intro h2 (And.intro hB (And.intro hA (And.intro vA (And.intro vB (And.intro hwX (And.intro hwY (And.intro hn hm)))))))))
 rw[<-hn,<-hm]
 clear h h2 hA hB vA vB hwX hwY hn hm hX hY
 go_enter Tryz.func110,Tryz.ntmps110
 go_wp2_with fail
 go_loopw [5,6,7] (λv s6 s7 wr=>∃ (i cy:Nat) (ks:List Nat),s6=.int .i64 (cy:Nat)/\s7=.int .i64 (i:Nat)/\wr.ownsRow w.heap.size 3 1 v i (ks.map i64v)/\w.grownBy wr .none/\RowKit.Hid ((i<=n+m+1/\(cy=1->i<=n+m))/\cy<=1/\ks.length=i/\Wb ks/\bval ks+B16^i*cy=bval (X.take i)+bval (Y.take i))) (λ_ _ s7 _=>((n:Int)+m+2-intOf s7).toNat)
 case atStart=>exact⟨0,0,[],rfl,rfl,World.ownsRow_nil _ _ _ _,World.grownBy.refl _ _,⟨⟨Nat.zero_le _,λ_=>Nat.zero_le _⟩,Nat.zero_le _,rfl,Wb.nil,by simp[bval]⟩⟩
 case round=>
  obtain⟨i,cy,ks,rfl,rfl,hown,hg,HR⟩:=hrel
  have HO:=Lz hown
  have HG:=Lz hg
  have hsz:w.heap.size<=wr.heap.size:=hg.size
  obtain⟨p',c',hv,hrow⟩:=owned_row hown HR.out.2.2.1.symm
  have HROW:=Lz hrow
  have hc1:=HR.out.2.1
  by_cases hnI:i<n
  . have i1:(i:Int)<n:=by omega
    obtain⟨bk,ok,rfl⟩:=H.out.1.2.2.1 (by have:=H.out;omega)
    have ck:=(H.out.1.kept hg).2.2.2 bk ok rfl i (by have:=H.out;omega)
    obtain⟨ki,hki⟩:∃ x,x=X.getD i 0:=⟨_,rfl⟩
    rw[<-hki] at ck
    have kB:ki<65536:=by rw[hki];exact H.out.2.2.2.2.2.2.1.getD i
    obtain⟨t1,ht1⟩:∃ t,t=cy+ki:=⟨_,rfl⟩
    have W1:=Lz (show wrap64 ((cy:Int)+(ki:Int))=t1 from wrapN (by omega) (by omega))
    by_cases hmI:i<m
    . have i2:(i:Int)<m:=by omega
      obtain⟨bl,ol,rfl⟩:=H.out.2.1.2.2.1 (by have:=H.out;omega)
      have cl:=(H.out.2.1.kept hg).2.2.2 bl ol rfl i (by have:=H.out;omega)
      obtain⟨li,hli⟩:∃ x,x=Y.getD i 0:=⟨_,rfl⟩
      rw[<-hli] at cl
      have lB:li<65536:=by rw[hli];exact H.out.2.2.2.2.2.2.2.1.getD i
      obtain⟨t,ht⟩:∃ t,t=t1+li:=⟨_,rfl⟩
      have W2:=Lz (show wrap64 ((t1:Int)+(li:Int))=t from wrapN (by omega) (by omega))
      have htv:t=cy+X.getD i 0+Y.getD i 0:=by rw[<-hki,<-hli];omega
      have tB:t<131072:=by omega
      obtain⟨dd,hd'⟩:∃ d,d=t%65536:=⟨_,rfl⟩
      obtain⟨cq,hq'⟩:∃ q,q=t/65536:=⟨_,rfl⟩
      have AN:=Lz (and16 t (by omega))
      have SH:=Lz (show(t:Int)/65536=(cq:Int) from by rw[hq'];omega)
      rw[<-hd'] at AN
      have HDD:=Lz (show dd<B16/\cq<=1/\bval (ks ++ [dd])+B16^(i+1)*cq=bval (X.take (i+1))+bval (Y.take (i+1)) from⟨by rw[hd'];exact Nat.mod_lt _ B16_pos,by omega,by rw[hd',hq'];exact plus_step HR.out.2.2.1 HR.out.2.2.2.2 htv⟩)
      have HTB:=Lz tB
      have hga:w.grownBy (wr.alloc (.cells #[Value.int .i64 (dd:Nat)] 3)) .none:=zzx HG.out (zzy _ _ _)
      have hoa:=owns_alloc HO.out (.cells #[Value.int .i64 (dd:Nat)] 3)
      have hsrc:∀ j u,([Value.int .i64 (dd:Nat)]:List Value)[j]? = some u->(wr.alloc (.cells #[Value.int .i64 (dd:Nat)] 3)).cell? ((⟨wr.heap.size,0,.none⟩:Addr).add j)=some u:=λj u hu=>by
       match j,hu with
       | 0,hu=>rw[<-hu];exact zwx (k:=0) (heap_alloc_new wr (.cells #[Value.int .i64 (dd:Nat)] 3)) rfl
       | j+1,hu=>simp at hu
      have hi6:i+1<=2000002:=by have:=HR.out.1;have:=H.out;omega
      have HIL:=Lz (show i+1<=n+m+1/\(cq=1->i+1<=n+m) from⟨by have:=HR.out.1;omega,λh=>by have:=HR.out.1;omega⟩)
      have HRR:=Lz HR.out
      have q1:=W1.out
      have q2:=W2.out
      have an:=AN.out
      have sh:=SH.out
      clear tB hd' hq' hown hg hrow hv HR htv ht1 ht hki hli kB lB hc1 hnI hmI
      go_wp2_with (at_builtin;refine wpList_append_own _ rfl (.tmp 44) (.tmp 47) 36 rfl w.heap.size 3 i0 (.int .i64 0) 1 8 Tryz.underlying36 hi hz0 hz1 hz2 rfl (by decide) _ i (ks.map i64v) rfl hoa ⟨wr.heap.size,0,.none⟩ 1 1 [Value.int .i64 (dd:Nat)] rfl (by simp) hsrc (by intro u hu;rw[List.mem_singleton.1 hu];rfl) (by unfold maxLen;omega) (by omega) (Nat.le_trans hsz (by show _<=(Array.push _ _).size;rw[Array.size_push];omega)) ?_;intro v' w1 hown' hgrow hnn)
      have HO':=Lz (show w1.ownsRow w.heap.size 3 1 v' (i+1) ((ks ++ [dd]).map i64v) by rw[List.map_append];exact hown')
      have HGR:=Lz (And.intro hga hgrow)
      clear hown' hgrow hnn hga hoa hsrc an q1 q2
      go_wp2_with fail
      go_roundw
      case rel=>
       refine⟨i+1,cq,ks ++ [dd],by first|rfl|exact congrArg (Value.int .i64) SH.out,by first|rfl|go_num|exact congrArg (Value.int .i64) (wrapN (by omega) (by omega)),HO'.out,own_grown HO.out HGR.out.1 HGR.out.2,⟨HIL.out,HDD.out.2.1,by rw[List.length_append,HRR.out.2.2.1];rfl,HRR.out.2.2.2.1.append (Wb.one HDD.out.1),HDD.out.2.2⟩⟩
      case measure=>
       have:=HIL.out
       simp only[intOf]
       first|omega|(rw[show wrap64 ((i:Int)+1)=((i+1:Nat):Int) from wrapN (by omega) (by omega)];omega)
    . have i2:¬(i:Int)<m:=by omega
      have hli:0=Y.getD i 0:=by rw[List.getD,List.getElem?_eq_none (by have:=H.out.2.2.2.2.2.2.2.2.2;omega)];rfl
      obtain⟨t,ht⟩:∃ t,t=t1:=⟨_,rfl⟩
      have htv:t=cy+X.getD i 0+Y.getD i 0:=by rw[<-hki,<-hli];omega
      rw[<-ht] at W1
      have tB:t<131072:=by omega
      obtain⟨dd,hd'⟩:∃ d,d=t%65536:=⟨_,rfl⟩
      obtain⟨cq,hq'⟩:∃ q,q=t/65536:=⟨_,rfl⟩
      have AN:=Lz (and16 t (by omega))
      have SH:=Lz (show(t:Int)/65536=(cq:Int) from by rw[hq'];omega)
      rw[<-hd'] at AN
      have HDD:=Lz (show dd<B16/\cq<=1/\bval (ks ++ [dd])+B16^(i+1)*cq=bval (X.take (i+1))+bval (Y.take (i+1)) from⟨by rw[hd'];exact Nat.mod_lt _ B16_pos,by omega,by rw[hd',hq'];exact plus_step HR.out.2.2.1 HR.out.2.2.2.2 htv⟩)
      have HTB:=Lz tB
      have hga:w.grownBy (wr.alloc (.cells #[Value.int .i64 (dd:Nat)] 3)) .none:=zzx HG.out (zzy _ _ _)
      have hoa:=owns_alloc HO.out (.cells #[Value.int .i64 (dd:Nat)] 3)
      have hsrc:∀ j u,([Value.int .i64 (dd:Nat)]:List Value)[j]? = some u->(wr.alloc (.cells #[Value.int .i64 (dd:Nat)] 3)).cell? ((⟨wr.heap.size,0,.none⟩:Addr).add j)=some u:=λj u hu=>by
       match j,hu with
       | 0,hu=>rw[<-hu];exact zwx (k:=0) (heap_alloc_new wr (.cells #[Value.int .i64 (dd:Nat)] 3)) rfl
       | j+1,hu=>simp at hu
      have hi6:i+1<=2000002:=by have:=HR.out.1;have:=H.out;omega
      have HIL:=Lz (show i+1<=n+m+1/\(cq=1->i+1<=n+m) from⟨by have:=HR.out.1;omega,λh=>by have:=HR.out.1;omega⟩)
      have HRR:=Lz HR.out
      have q1:=W1.out
      have an:=AN.out
      have sh:=SH.out
      clear tB hd' hq' hown hg hrow hv HR htv ht1 ht hki hli kB hc1 hnI hmI
      go_wp2_with (at_builtin;refine wpList_append_own _ rfl (.tmp 44) (.tmp 47) 36 rfl w.heap.size 3 i0 (.int .i64 0) 1 8 Tryz.underlying36 hi hz0 hz1 hz2 rfl (by decide) _ i (ks.map i64v) rfl hoa ⟨wr.heap.size,0,.none⟩ 1 1 [Value.int .i64 (dd:Nat)] rfl (by simp) hsrc (by intro u hu;rw[List.mem_singleton.1 hu];rfl) (by unfold maxLen;omega) (by omega) (Nat.le_trans hsz (by show _<=(Array.push _ _).size;rw[Array.size_push];omega)) ?_;intro v' w1 hown' hgrow hnn)
      have HO':=Lz (show w1.ownsRow w.heap.size 3 1 v' (i+1) ((ks ++ [dd]).map i64v) by rw[List.map_append];exact hown')
      have HGR:=Lz (And.intro hga hgrow)
      clear hown' hgrow hnn hga hoa hsrc an q1
      go_wp2_with fail
      go_roundw
      case rel=>
       refine⟨i+1,cq,ks ++ [dd],by first|rfl|exact congrArg (Value.int .i64) SH.out,by first|rfl|go_num|exact congrArg (Value.int .i64) (wrapN (by omega) (by omega)),HO'.out,own_grown HO.out HGR.out.1 HGR.out.2,⟨HIL.out,HDD.out.2.1,by rw[List.length_append,HRR.out.2.2.1];rfl,HRR.out.2.2.2.1.append (Wb.one HDD.out.1),HDD.out.2.2⟩⟩
      case measure=>
       have:=HIL.out
       simp only[intOf]
       first|omega|(rw[show wrap64 ((i:Int)+1)=((i+1:Nat):Int) from wrapN (by omega) (by omega)];omega)
  . have i1:¬(i:Int)<n:=by omega
    have hki:0=X.getD i 0:=by rw[List.getD,List.getElem?_eq_none (by have:=H.out.2.2.2.2.2.2.2.2.1;omega)];rfl
    by_cases hmI:i<m
    . have i2:(i:Int)<m:=by omega
      obtain⟨bl,ol,rfl⟩:=H.out.2.1.2.2.1 (by have:=H.out;omega)
      have cl:=(H.out.2.1.kept hg).2.2.2 bl ol rfl i (by have:=H.out;omega)
      obtain⟨li,hli⟩:∃ x,x=Y.getD i 0:=⟨_,rfl⟩
      rw[<-hli] at cl
      have lB:li<65536:=by rw[hli];exact H.out.2.2.2.2.2.2.2.1.getD i
      obtain⟨t,ht⟩:∃ t,t=cy+li:=⟨_,rfl⟩
      have W2:=Lz (show wrap64 ((cy:Int)+(li:Int))=t from wrapN (by omega) (by omega))
      have htv:t=cy+X.getD i 0+Y.getD i 0:=by rw[<-hki,<-hli];omega
      have tB:t<131072:=by omega
      obtain⟨dd,hd'⟩:∃ d,d=t%65536:=⟨_,rfl⟩
      obtain⟨cq,hq'⟩:∃ q,q=t/65536:=⟨_,rfl⟩
      have AN:=Lz (and16 t (by omega))
      have SH:=Lz (show(t:Int)/65536=(cq:Int) from by rw[hq'];omega)
      rw[<-hd'] at AN
      have HDD:=Lz (show dd<B16/\cq<=1/\bval (ks ++ [dd])+B16^(i+1)*cq=bval (X.take (i+1))+bval (Y.take (i+1)) from⟨by rw[hd'];exact Nat.mod_lt _ B16_pos,by omega,by rw[hd',hq'];exact plus_step HR.out.2.2.1 HR.out.2.2.2.2 htv⟩)
      have HTB:=Lz tB
      have hga:w.grownBy (wr.alloc (.cells #[Value.int .i64 (dd:Nat)] 3)) .none:=zzx HG.out (zzy _ _ _)
      have hoa:=owns_alloc HO.out (.cells #[Value.int .i64 (dd:Nat)] 3)
      have hsrc:∀ j u,([Value.int .i64 (dd:Nat)]:List Value)[j]? = some u->(wr.alloc (.cells #[Value.int .i64 (dd:Nat)] 3)).cell? ((⟨wr.heap.size,0,.none⟩:Addr).add j)=some u:=λj u hu=>by
       match j,hu with
       | 0,hu=>rw[<-hu];exact zwx (k:=0) (heap_alloc_new wr (.cells #[Value.int .i64 (dd:Nat)] 3)) rfl
       | j+1,hu=>simp at hu
      have hi6:i+1<=2000002:=by have:=HR.out.1;have:=H.out;omega
      have HIL:=Lz (show i+1<=n+m+1/\(cq=1->i+1<=n+m) from⟨by have:=HR.out.1;omega,λh=>by have:=HR.out.1;omega⟩)
      have HRR:=Lz HR.out
      have q2:=W2.out
      have an:=AN.out
      have sh:=SH.out
      clear tB hd' hq' hown hg hrow hv HR htv ht hki hli lB hc1 hnI hmI
      go_wp2_with (at_builtin;refine wpList_append_own _ rfl (.tmp 44) (.tmp 47) 36 rfl w.heap.size 3 i0 (.int .i64 0) 1 8 Tryz.underlying36 hi hz0 hz1 hz2 rfl (by decide) _ i (ks.map i64v) rfl hoa ⟨wr.heap.size,0,.none⟩ 1 1 [Value.int .i64 (dd:Nat)] rfl (by simp) hsrc (by intro u hu;rw[List.mem_singleton.1 hu];rfl) (by unfold maxLen;omega) (by omega) (Nat.le_trans hsz (by show _<=(Array.push _ _).size;rw[Array.size_push];omega)) ?_;intro v' w1 hown' hgrow hnn)
      have HO':=Lz (show w1.ownsRow w.heap.size 3 1 v' (i+1) ((ks ++ [dd]).map i64v) by rw[List.map_append];exact hown')
      have HGR:=Lz (And.intro hga hgrow)
      clear hown' hgrow hnn hga hoa hsrc an q2
      go_wp2_with fail
      go_roundw
      case rel=>
       refine⟨i+1,cq,ks ++ [dd],by first|rfl|exact congrArg (Value.int .i64) SH.out,by first|rfl|go_num|exact congrArg (Value.int .i64) (wrapN (by omega) (by omega)),HO'.out,own_grown HO.out HGR.out.1 HGR.out.2,⟨HIL.out,HDD.out.2.1,by rw[List.length_append,HRR.out.2.2.1];rfl,HRR.out.2.2.2.1.append (Wb.one HDD.out.1),HDD.out.2.2⟩⟩
      case measure=>
       have:=HIL.out
       simp only[intOf]
       first|omega|(rw[show wrap64 ((i:Int)+1)=((i+1:Nat):Int) from wrapN (by omega) (by omega)];omega)
    . have i2:¬(i:Int)<m:=by omega
      have hli:0=Y.getD i 0:=by rw[List.getD,List.getElem?_eq_none (by have:=H.out.2.2.2.2.2.2.2.2.2;omega)];rfl
      by_cases hcy:cy=0
      . obtain⟨r1,r2,r3,r4,r5⟩:=HR.out
        obtain⟨h,h2,hB,hA,vA,vB,hwX,hwY,hn,hm⟩:=H.out
        have hsum:bval ks=A+B:=by
         rw[List.take_of_length_le (by omega),List.take_of_length_le (by omega),hcy,Nat.mul_zero,Nat.add_zero,vA,vB] at r5
         exact r5
        have HT:=trimS p' c' ks wr hrow
        rw[bnorm_bd ks r4,hsum] at HT
        have HTT:=Lz HT
        have HF:=Lz (show ∀ wx,wx=wr->BigP (A+B) w (.returned (.slice p' (bd (A+B)).length c')) wx from λwx hwx=>by
         subst hwx
         refine⟨p',c',rfl,?_,hg⟩
         have hb:=bnorm_bd ks r4
         rw[hsum] at hb
         have:=bnorm_take ks
         rw[hb] at this
         rw[<-this]
         exact hrow.take _)
        subst hv hcy
        clear h h2 hA hB vA vB hwX hwY hn hm r1 r2 r3 r4 r5 hsum HT hrow hown hg HR HO hki hli hc1 hnI hmI
        go_wp2_with fail
        refine HTT.out.mono ?_
        rintro e w1 ⟨rfl,hw⟩
        have HE:=Lz (HF.out _ hw)
        clear hw
        go_wp2_with fail
        go_ret
        exact HE.out
      . obtain⟨t,ht⟩:∃ t,t=cy:=⟨_,rfl⟩
        have htv:t=cy+X.getD i 0+Y.getD i 0:=by rw[<-hki,<-hli];omega
        have i3:(0:Int)<cy:=by omega
        have tB:t<131072:=by omega
        obtain⟨dd,hd'⟩:∃ d,d=t%65536:=⟨_,rfl⟩
        obtain⟨cq,hq'⟩:∃ q,q=t/65536:=⟨_,rfl⟩
        have AN:=Lz (and16 t (by omega))
        have SH:=Lz (show(t:Int)/65536=(cq:Int) from by rw[hq'];omega)
        rw[<-hd'] at AN
        have HDD:=Lz (show dd<B16/\cq<=1/\bval (ks ++ [dd])+B16^(i+1)*cq=bval (X.take (i+1))+bval (Y.take (i+1)) from⟨by rw[hd'];exact Nat.mod_lt _ B16_pos,by omega,by rw[hd',hq'];exact plus_step HR.out.2.2.1 HR.out.2.2.2.2 htv⟩)
        have HTB:=Lz tB
        have hga:w.grownBy (wr.alloc (.cells #[Value.int .i64 (dd:Nat)] 3)) .none:=zzx HG.out (zzy _ _ _)
        have hoa:=owns_alloc HO.out (.cells #[Value.int .i64 (dd:Nat)] 3)
        have hsrc:∀ j u,([Value.int .i64 (dd:Nat)]:List Value)[j]? = some u->(wr.alloc (.cells #[Value.int .i64 (dd:Nat)] 3)).cell? ((⟨wr.heap.size,0,.none⟩:Addr).add j)=some u:=λj u hu=>by
         match j,hu with
         | 0,hu=>rw[<-hu];exact zwx (k:=0) (heap_alloc_new wr (.cells #[Value.int .i64 (dd:Nat)] 3)) rfl
         | j+1,hu=>simp at hu
        have hi6:i+1<=2000002:=by have:=HR.out.1;have:=H.out;omega
        have HIL:=Lz (show i+1<=n+m+1/\(cq=1->i+1<=n+m) from⟨by have:=HR.out.1;omega,λh=>by have:=HR.out.1;omega⟩)
        have HRR:=Lz HR.out
        rw[ht] at AN
        have an:=AN.out
        have sh:(cy:Int)/65536=(cq:Int):=by have:=SH.out;rwa [ht] at this
        clear tB hd' hq' hown hg hrow hv HR htv hki hli hc1 hnI hmI
        go_wp2_with (at_builtin;refine wpList_append_own _ rfl (.tmp 44) (.tmp 47) 36 rfl w.heap.size 3 i0 (.int .i64 0) 1 8 Tryz.underlying36 hi hz0 hz1 hz2 rfl (by decide) _ i (ks.map i64v) rfl hoa ⟨wr.heap.size,0,.none⟩ 1 1 [Value.int .i64 (dd:Nat)] rfl (by simp) hsrc (by intro u hu;rw[List.mem_singleton.1 hu];rfl) (by unfold maxLen;omega) (by omega) (Nat.le_trans hsz (by show _<=(Array.push _ _).size;rw[Array.size_push];omega)) ?_;intro v' w1 hown' hgrow hnn)
        have HO':=Lz (show w1.ownsRow w.heap.size 3 1 v' (i+1) ((ks ++ [dd]).map i64v) by rw[List.map_append];exact hown')
        have HGR:=Lz (And.intro hga hgrow)
        clear hown' hgrow hnn hga hoa hsrc an
        go_wp2_with fail
        go_roundw
        case rel=>
         refine⟨i+1,cq,ks ++ [dd],by first|rfl|exact congrArg (Value.int .i64) SH.out,by first|rfl|go_num|exact congrArg (Value.int .i64) (wrapN (by omega) (by omega)),HO'.out,own_grown HO.out HGR.out.1 HGR.out.2,⟨HIL.out,HDD.out.2.1,by rw[List.length_append,HRR.out.2.2.1];rfl,HRR.out.2.2.2.1.append (Wb.one HDD.out.1),HDD.out.2.2⟩⟩
        case measure=>
         have:=HIL.out
         simp only[intOf]
         first|omega|(rw[show wrap64 ((i:Int)+1)=((i+1:Nat):Int) from wrapN (by omega) (by omega)];omega)
end Go.Proofs.YtohhkjamddojmaaGreatDoor.Big

set_option maxRecDepth 100000
set_option maxHeartbeats 16000000
namespace Go.Proofs.YtohhkjamddojmaaGreatDoor.Big
open Go.RowKit
theorem and16i (x:Int):bits BinOp.and IntKind.i64 x 65535=x%65536:=by
 have e:bits BinOp.and IntKind.i64 x 65535=IntKind.i64.wrap (((x%18446744073709551616).toNat &&& 65535:Nat):Int):=by
  simp only[bits,BitVec.toNat_and,BitVec.toNat_ofInt]
  rfl
 rw[e,show(65535:Nat)=2^16-1 from rfl,Nat.and_two_pow_sub_one_eq_mod,IntKind.wrap_i64]
 omega
def dgs (rs:List Nat):Array Value:=(rs.map i64v).toArray
def DigB (w:World) (b:Nat) (rs:List Nat):Prop:=w.heap[b]? = some (.cells (dgs rs) 3 (0,0))
theorem DigB.lt {w:World} {b:Nat} {cs:List Nat} (h:DigB w b cs):b<w.heap.size:=(Array.getElem?_eq_some_iff.1 h).1
theorem DigB.cell {w:World} {b:Nat} {cs:List Nat} (h:DigB w b cs) (i:Nat) (hi:i<cs.length):w.cell? ⟨b,i,none⟩=some (.int .i64 (cs.getD i 0:Nat)):=by
 unfold DigB at h
 simp only[World.cell?,h]
 simp[dgs,i64v,hi,List.getD]
theorem DigB.free {w:World} {b:Nat} {cs:List Nat} (h:DigB w b cs) (i:Nat):w.frozen? ⟨b,i,none⟩=false:=by
 unfold DigB at h
 simp[World.frozen?,h]
theorem DigB.set {w:World} {b:Nat} {cs:List Nat} (h:DigB w b cs) (i v:Nat):DigB (w.setCell ⟨b,i,none⟩ (.int .i64 (v:Nat))) b (cs.set i v):=by
 unfold DigB at *
 simp only[World.setCell,Array.getElem?_modify,if_true]
 rw[h]
 simp[dgs,i64v]
theorem DigB.kept {w w':World} {b:Nat} {cs:List Nat} {row:Option Nat} (h:DigB w b cs) (hg:w.grownBy w' row) (hne:some b≠row):DigB w' b cs:=by
 unfold DigB at *
 rw[hg.block b (Array.getElem?_eq_some_iff.1 h).1 hne,h]
theorem DigB.row {w:World} {b:Nat} {cs:List Nat} (h:DigB w b cs) {c:Nat} (hc:cs.length<=c) (hm:c<=maxLen):RowI w (some ⟨b,0,.none⟩) c cs:=
 ⟨hc,hm,λ_=>⟨b,0,rfl⟩,λb' o e i hi=>by
  injection e with e;injection e with e1 e2
  subst e1 e2
  rw[Nat.zero_add]
  exact h.cell i hi⟩
theorem RowI.keptB {w w':World} {p:Option Addr} {c:Nat} {xs:List Nat} {g:Nat} (h:RowI w p c xs) (hg:w.grownBy w' (some g)) (hne:∀ b o,p=some ⟨b,o,.none⟩->b≠g):RowI w' p c xs:=
 ⟨h.1,h.2.1,h.2.2.1,λb o e i hi=>hg.cell (h.2.2.2 b o e i hi) (λhh=>hne b o e (Option.some.inj hh))⟩
theorem set_part {os rs:List Nat} {i v:Nat} (ho:os.length=i) (hi:i<rs.length):(os++rs.drop i).set i v=(os ++ [v])++rs.drop (i+1):=by
 rw[List.set_append,if_neg (by omega),ho,Nat.sub_self,List.drop_eq_getElem_cons hi,List.append_assoc]
 rfl
theorem getD_part {os rs:List Nat} {i:Nat} (ho:os.length=i):(os++rs.drop i).getD i 0=rs.getD i 0:=by
 simp[List.getD,List.getElem?_append_right (show os.length<=i by omega),ho]
theorem part_length {os rs:List Nat} {i:Nat} (ho:os.length=i) (hi:i<=rs.length):(os++rs.drop i).length=rs.length:=by
 rw[List.length_append,List.length_drop];omega
def TakeP (b:Nat) (rs:List Nat) (N:Nat) (w:World) (e:Ending) (w':World):Prop:=
 e=.returned (.tuple #[])/\w.grownBy w' (some b)/\∃ os,DigB w' b os/\os.length=rs.length/\Wb os/\bval os+N=bval rs
theorem takeS (b:Nat) (rs:List Nat) (p2:Option Addr) (c2 M q:Nat) (w:World) (h:DigB w b rs) (h2:RowI w p2 c2 (bd M)) (hne:∀ b2 o,p2=some ⟨b2,o,.none⟩->b2≠b) (hl:rs.length<=1000000) (hw:Wb rs)
 (hm:(bd M).length<=rs.length) (hq:q<=131072) (hle:q*M<=bval rs):Calls Tryz.prog 147 #[.slice (some ⟨b,0,.none⟩) rs.length rs.length,.slice p2 (bd M).length c2,.int .i64 q] w (TakeP b rs (q*M) w):=by
 obtain⟨Y,hY⟩:∃ Y,Y=bd M:=⟨_,rfl⟩
 have vM:bval Y=M:=by rw[hY];exact bval_bd M
 have hwY:Wb Y:=by rw[hY];exact bd_words M
 rw[<-hY] at h2 hm ⊢
 obtain⟨n,hn⟩:∃ n,n=rs.length:=⟨_,rfl⟩
 obtain⟨m,hm'⟩:∃ m,m=Y.length:=⟨_,rfl⟩
 have H:=Lz (And.intro h2 (And.intro hne (And.intro vM (And.intro hwY (And.intro hn (And.intro hm' (And.intro hm hle)))))))
 have HW:=Lz (And.intro hw (And.intro hl hq))
 have hn0:n<=1000000:=by omega
 rw[<-hn,<-hm']
 have HB:=Lz h
 clear h h2 hne vM hwY hn hm' hm hle hw hl hq hY
 go_enter Tryz.func147,Tryz.ntmps147
 go_wp2_with fail
 go_loopw [6,11] (λs6 s11 wr=>∃ (i cy:Nat) (os:List Nat),s6=.int .i64 (cy:Nat)/\s11=.int .i64 (i:Nat)/\DigB wr b (os++rs.drop i)/\w.grownBy wr (some b)/\RowKit.Hid (i<=n/\cy<=q+1/\os.length=i/\Wb os/\bval os+q*bval (Y.take i)=bval (rs.take i)+B16^i*cy)) (λ_ s11 _=>((n:Int)-intOf s11).toNat)
 case atStart=>exact⟨0,0,[],rfl,rfl,HB.out,World.grownBy.refl _ _,⟨Nat.zero_le _,Nat.zero_le _,rfl,Wb.nil,by simp[bval]⟩⟩
 case round=>
  obtain⟨i,cy,os,rfl,rfl,hdb,hg,HR⟩:=hrel
  have HD:=Lz hdb
  have HG:=Lz hg
  by_cases hin:i<n
  . have i1:(i:Int)<n:=by omega
    have ck:=hdb.cell i (by rw[part_length HR.out.2.2.1 (by have:=H.out.2.2.2.2.1;omega)];have:=H.out.2.2.2.2.1;omega)
    rw[getD_part HR.out.2.2.1] at ck
    have fk:=hdb.free i
    obtain⟨ki,hki⟩:∃ x,x=rs.getD i 0:=⟨_,rfl⟩
    rw[<-hki] at ck
    have kB:ki<65536:=by rw[hki];exact HW.out.1.getD i
    have cB:cy<=131073:=by have:=HR.out.2.1;have:=HW.out.2.2;omega
    have W1:=Lz (show wrap64 ((ki:Int)-cy)=(ki:Int)-cy from by unfold wrap64;omega)
    by_cases him:i<m
    . have i2:(i:Int)<m:=by omega
      obtain⟨bl,ol,rfl⟩:=H.out.1.2.2.1 (by have:=H.out.2.2.2.2.2.1;omega)
      have cl:=(H.out.1.keptB hg H.out.2.1).2.2.2 bl ol rfl i (by have:=H.out.2.2.2.2.2.1;omega)
      obtain⟨li,hli⟩:∃ x,x=Y.getD i 0:=⟨_,rfl⟩
      rw[<-hli] at cl
      have lB:li<65536:=by rw[hli];exact H.out.2.2.2.1.getD i
      have qlB:q*li<=q*65535:=Nat.mul_le_mul_left _ (by omega)
      have qB:q*65535<=131072*65535:=Nat.mul_le_mul_right _ HW.out.2.2
      obtain⟨ql,hql⟩:∃ x,x=q*li:=⟨_,rfl⟩
      have WM:=Lz (show wrap64 ((q:Int)*li)=(ql:Int) from wrapN (by rw[hql,Int.natCast_mul]) (by omega))
      obtain⟨D,hD⟩:∃ D:Int,D=(ki:Int)-cy-ql:=⟨_,rfl⟩
      have W2:=Lz (show wrap64 ((ki:Int)-cy-ql)=D from by rw[hD];unfold wrap64;omega)
      obtain⟨dd,hdd⟩:∃ d:Nat,(d:Int)=D%65536:=⟨(D%65536).toNat,by omega⟩
      obtain⟨cq,hcq⟩:∃ c:Nat,(c:Int)=-(D/65536):=⟨(-(D/65536)).toNat,by omega⟩
      have AN:=Lz (show bits BinOp.and IntKind.i64 D 65535=(dd:Int) from by rw[and16i,hdd])
      have NG:=Lz (show wrap64 (-(D/65536))=(cq:Int) from wrapN hcq.symm (by omega))
      have HN:=Lz (show i+1<=n/\cq<=q+1/\(os ++ [dd]).length=i+1/\Wb (os ++ [dd])/\bval (os ++ [dd])+q*bval (Y.take (i+1))=bval (rs.take (i+1))+B16^(i+1)*cq from by
       obtain⟨r1,r2,r3,r4,r5⟩:=HR.out
       refine⟨by omega,by omega,by rw[List.length_append,r3];rfl,r4.append (Wb.one (by unfold B16;omega)),?_⟩
       exact take_step r3 r5 (by rw[<-hki,<-hli,<-hql];unfold B16;omega))
      have HDS:=Lz (show DigB (wr.setCell ⟨b,i,.none⟩ (.int .i64 (dd:Nat))) b ((os ++ [dd])++rs.drop (i+1)) from by
       have:=HD.out.set i dd
       rw[set_part HR.out.2.2.1 (by have:=H.out.2.2.2.2.1;omega)] at this
       exact this)
      have HGS:=Lz (show w.grownBy (wr.setCell ⟨b,i,.none⟩ (.int .i64 (dd:Nat))) (some b) from HG.out.trans (zzw wr b i _))
      have q1:=W1.out
      have q2:=WM.out
      have q5:=W2.out
      clear hli hql hD qlB qB lB him
      have q3:=AN.out
      have q4:=NG.out
      clear hki hdb hg HR hin kB cB hdd hcq
      go_wp2_with fail
      go_roundw
      case rel=>exact⟨i+1,cq,os ++ [dd],by first|rfl|exact congrArg (Value.int .i64) NG.out,by first|rfl|go_num|exact congrArg (Value.int .i64) (wrapN (by omega) (by omega)),HDS.out,HGS.out,HN.out⟩
      case measure=>
       have:=HN.out.1
       simp only[intOf]
       first|omega|(rw[show wrap64 ((i:Int)+1)=((i+1:Nat):Int) from wrapN (by omega) (by omega)];omega)
    . have i2:¬(i:Int)<m:=by omega
      obtain⟨D,hD⟩:∃ D:Int,D=(ki:Int)-cy:=⟨_,rfl⟩
      have W1:=Lz (show wrap64 ((ki:Int)-cy)=D from by rw[hD];exact W1.out)
      have hli:Y.getD i 0=0:=by rw[List.getD,List.getElem?_eq_none (by have:=H.out.2.2.2.2.2.1;omega)];rfl
      obtain⟨dd,hdd⟩:∃ d:Nat,(d:Int)=D%65536:=⟨(D%65536).toNat,by omega⟩
      obtain⟨cq,hcq⟩:∃ c:Nat,(c:Int)=-(D/65536):=⟨(-(D/65536)).toNat,by omega⟩
      have AN:=Lz (show bits BinOp.and IntKind.i64 D 65535=(dd:Int) from by rw[and16i,hdd])
      have NG:=Lz (show wrap64 (-(D/65536))=(cq:Int) from wrapN hcq.symm (by omega))
      have HN:=Lz (show i+1<=n/\cq<=q+1/\(os ++ [dd]).length=i+1/\Wb (os ++ [dd])/\bval (os ++ [dd])+q*bval (Y.take (i+1))=bval (rs.take (i+1))+B16^(i+1)*cq from by
       obtain⟨r1,r2,r3,r4,r5⟩:=HR.out
       refine⟨by omega,by omega,by rw[List.length_append,r3];rfl,r4.append (Wb.one (by unfold B16;omega)),?_⟩
       exact take_step r3 r5 (by rw[<-hki,hli,Nat.mul_zero];unfold B16;omega))
      have HDS:=Lz (show DigB (wr.setCell ⟨b,i,.none⟩ (.int .i64 (dd:Nat))) b ((os ++ [dd])++rs.drop (i+1)) from by
       have:=HD.out.set i dd
       rw[set_part HR.out.2.2.1 (by have:=H.out.2.2.2.2.1;omega)] at this
       exact this)
      have HGS:=Lz (show w.grownBy (wr.setCell ⟨b,i,.none⟩ (.int .i64 (dd:Nat))) (some b) from HG.out.trans (zzw wr b i _))
      have q1:=W1.out
      clear hli hD him
      have q3:=AN.out
      have q4:=NG.out
      clear hki hdb hg HR hin kB cB hdd hcq
      go_wp2_with fail
      go_roundw
      case rel=>exact⟨i+1,cq,os ++ [dd],by first|rfl|exact congrArg (Value.int .i64) NG.out,by first|rfl|go_num|exact congrArg (Value.int .i64) (wrapN (by omega) (by omega)),HDS.out,HGS.out,HN.out⟩
      case measure=>
       have:=HN.out.1
       simp only[intOf]
       first|omega|(rw[show wrap64 ((i:Int)+1)=((i+1:Nat):Int) from wrapN (by omega) (by omega)];omega)
  . have i1:¬(i:Int)<n:=by omega
    have HE:=Lz (show TakeP b rs (q*M) w (.returned (.tuple #[])) wr from by
     obtain⟨h2,hne,vM,hwY,hn,hm',hm,hle⟩:=H.out
     obtain⟨r1,r2,r3,r4,r5⟩:=HR.out
     obtain rfl:i=n:=by omega
     rw[List.take_of_length_le (by omega),List.take_of_length_le (by omega),vM] at r5
     have hlt:=bval_lt os r4
     rw[r3] at hlt
     have hc0:cy=0:=by
      rcases Nat.eq_zero_or_pos cy with h0|h0
      . exact h0
      . exfalso
        have:B16^i*1<=B16^i*cy:=Nat.mul_le_mul_left _ h0
        omega
     rw[hc0,Nat.mul_zero,Nat.add_zero] at r5
     refine⟨rfl,hg,os,?_,by omega,r4,r5⟩
     have:=hdb
     rw[List.drop_eq_nil_of_le (by omega),List.append_nil] at this
     exact this)
    clear hdb hg HR HD HG hin
    go_wp2_with fail
    first|go_end0|refine bodyPost_ret (results_none rfl _ _ _) rfl ?_
    exact HE.out
end Go.Proofs.YtohhkjamddojmaaGreatDoor.Big

set_option maxRecDepth 100000
set_option maxHeartbeats 16000000
namespace Go.Proofs.YtohhkjamddojmaaGreatDoor.Big
open Go.RowKit
theorem mkN (w:World) {N:Nat} (hN:N<=4000000):(Instr.makeSlice 36 (.int .i64 (N:Int)) (.int .i64 (N:Int))).run Tryz.prog w=.ok (.slice (some ⟨w.heap.size,0,.none⟩) N N) (w.alloc (.cells (dgs (List.replicate N 0)) 3)):=by
 obtain⟨i0,hi,hz0,hz1,hz2⟩:=info_parts info3
 have h:=run_make (P:=Tryz.prog) w 36 3 i0 (.int .i64 0) Tryz.underlying36 hi hz0 .i64 .i64 (N:Int) (N:Int) (by omega) (Int.le_refl _) (by rw[hz2];omega) (by omega)
 have e:madeCells (Value.int .i64 0).cells (Int.toNat (N:Int)*1)=dgs (List.replicate N 0):=by
  apply Array.toList_inj.1
  rw[Int.toNat_natCast,Nat.mul_one]
  rw[show(madeCells (Value.int IntKind.i64 0).cells N).toList=List.replicate N (i64v 0) from toList_madeCells_one _ _]
  unfold dgs
  rw[List.map_replicate]
 rw[h,hz1,e,Int.toNat_natCast]
theorem dig_new (w:World) (rs:List Nat):DigB (w.alloc (.cells (dgs rs) 3)) w.heap.size rs:=heap_alloc_new w _
theorem Wb.set {l:List Nat} (h:Wb l) {v:Nat} (hv:v<B16) (i:Nat):Wb (l.set i v):=λx hx=>by
 rcases List.mem_or_eq_of_mem_set hx with h1|h1
 . exact h x h1
 . rw[h1];exact hv
theorem getD_set_ne {l:List Nat} {i j v:Nat} (h:i≠j):(l.set i v).getD j 0=l.getD j 0:=by simp[List.getD,List.getElem?_set_ne h]
theorem bval_zeros:∀ n,bval (List.replicate n 0)=0
 | 0=>rfl
 | n+1=>by rw[List.replicate_succ];unfold bval;rw[bval_zeros n];rfl
theorem productS (p p2:Option Addr) (c c2 A B:Nat) (w:World) (h:RowI w p c (bd A)) (h2:RowI w p2 c2 (bd B)) (hA:(bd A).length<=1000000) (hB:(bd B).length<=1000000):Calls Tryz.prog 111 #[.slice p (bd A).length c,.slice p2 (bd B).length c2] w (BigP (A*B) w):=by
 obtain⟨i0,hi,hz0,hz1,hz2⟩:=info_parts info3
 obtain⟨X,hX⟩:∃ X,X=bd A:=⟨_,rfl⟩
 obtain⟨Y,hY⟩:∃ Y,Y=bd B:=⟨_,rfl⟩
 have vA:bval X=A:=by rw[hX];exact bval_bd A
 have vB:bval Y=B:=by rw[hY];exact bval_bd B
 have hwX:Wb X:=by rw[hX];exact bd_words A
 have hwY:Wb Y:=by rw[hY];exact bd_words B
 rw[<-hX] at h hA ⊢
 rw[<-hY] at h2 hB ⊢
 obtain⟨n,hn⟩:∃ n,n=X.length:=⟨_,rfl⟩
 obtain⟨m,hm⟩:∃ m,m=Y.length:=⟨_,rfl⟩
 obtain⟨N,hN⟩:∃ N,N=n+m:=⟨_,rfl⟩
 have H:=Lz (And.intro h (And.intro h2 (And.intro hwX (And.intro hwY (And.intro hn hm)))))
 have HV:=Lz (And.intro vA vB)
 have HL:=Lz (show n<=1000000/\m<=1000000/\N=n+m from⟨by omega,by omega,hN⟩)
 have W0:=Lz (show wrap64 ((n:Int)+m)=(N:Int) from wrapN (by omega) (by omega))
 rw[<-hn,<-hm]
 clear h h2 hA hB vA vB hwX hwY hn hm hX hY hN
 go_enter Tryz.func111,Tryz.ntmps111
 have q0:=W0.out
 have hmk:=mkN w (N:=N) (by have:=HL.out;omega)
 go_wp2_with fail
 clear hmk q0
 have HD:=Lz (dig_new w (List.replicate N 0))
 have HG:=Lz (zzy w (.cells (dgs (List.replicate N 0)) 3) .none)
 generalize w.alloc (.cells (dgs (List.replicate N 0)) 3)=w2 at *
 have HSZ:=Lz (Nat.le_refl w.heap.size)
 generalize hgs:w.heap.size=g at *
 try simp only[W0.out]
 go_loopw [19] (λs19 wr=>∃ (i:Nat) (os:List Nat),s19=.int .i64 (i:Nat)/\DigB wr g os/\w.grownBy wr .none/\RowKit.Hid (i<=n/\os.length=N/\Wb os/\bval os=bval (X.take i)*bval Y/\∀ j,i+m<=j->os.getD j 0=0)) (λs19 _=>((n:Int)-intOf s19).toNat)
 case atStart=>exact⟨0,_,rfl,HD.out,HG.out,⟨Nat.zero_le _,List.length_replicate,λx hx=>by rw[List.eq_of_mem_replicate hx];exact B16_pos,by rw[bval_zeros,List.take_zero,bval_nil,Nat.zero_mul],λj _=>by simp[List.getD,List.getElem?_replicate];split <;> rfl⟩⟩
 case round=>
  obtain⟨i,os,rfl,hdb,hg,HR⟩:=hrel
  have HDB:=Lz hdb
  have HGR:=Lz hg
  by_cases hin:i<n
  . have i1:(i:Int)<n:=by omega
    obtain⟨bk,ok,rfl⟩:=H.out.1.2.2.1 (by have:=H.out;omega)
    have ck:=(H.out.1.kept hg).2.2.2 bk ok rfl i (by have:=H.out;omega)
    obtain⟨x,hx⟩:∃ x,x=X.getD i 0:=⟨_,rfl⟩
    rw[<-hx] at ck
    have xB:x<65536:=by rw[hx];exact H.out.2.2.1.getD i
    have HX:=Lz (And.intro hx xB)
    have HR1:=Lz HR.out
    clear hdb hg HR hin hx
    go_wp2_with fail
    try simp only[W0.out]
    go_loopw [8,26] (λs8 s26 wq=>∃ (k cy:Nat) (os2:List Nat),s8=.int .i64 (cy:Nat)/\s26=.int .i64 (k:Nat)/\DigB wq g os2/\w.grownBy wq .none/\RowKit.Hid (k<=m/\cy<B16/\os2.length=N/\Wb os2/\bval os2+B16^(i+k)*cy=bval os+B16^i*(x*bval (Y.take k))/\∀ j,i+m<=j->os2.getD j 0=0)) (λ_ s26 _=>((m:Int)-intOf s26).toNat)
    case atStart=>
     obtain⟨r1,r2,r3,r4,r5⟩:=HR1.out
     exact⟨0,0,os,rfl,rfl,HDB.out,HGR.out,⟨Nat.zero_le _,B16_pos,r2,r3,by simp[bval_nil],r5⟩⟩
    case round=>
     obtain⟨k,cy,os2,rfl,rfl,hdb,hg,HR⟩:=hrel
     have HDQ:=Lz hdb
     have HGQ:=Lz hg
     have hiN:i+k<=2000000:=by have:=HR.out.1;have:=HL.out;have:=HR1.out.1;omega
     by_cases hkm:k<m
     . have i2:(k:Int)<m:=by omega
       obtain⟨bl,ol,rfl⟩:=H.out.2.1.2.2.1 (by have:=H.out;omega)
       have cl:=(H.out.2.1.kept hg).2.2.2 bl ol rfl k (by have:=H.out;omega)
       obtain⟨y,hy⟩:∃ y,y=Y.getD k 0:=⟨_,rfl⟩
       rw[<-hy] at cl
       have yB:y<65536:=by rw[hy];exact H.out.2.2.2.1.getD k
       have hikN:i+k<N:=by have:=HL.out;have:=H.out;have:=HX.out;omega
       have cg:=hdb.cell (i+k) (by rw[HR.out.2.2.1];exact hikN)
       have fg:=hdb.free (i+k)
       obtain⟨o,ho⟩:∃ o,o=os2.getD (i+k) 0:=⟨_,rfl⟩
       rw[<-ho] at cg
       have oB:o<65536:=by rw[ho];exact HR.out.2.2.2.1.getD (i+k)
       have cB:cy<65536:=HR.out.2.1
       have xyB:x*y<=65535*65535:=Nat.mul_le_mul (by omega) (by omega)
       obtain⟨xy,hxy⟩:∃ xy,xy=x*y:=⟨_,rfl⟩
       obtain⟨t1,ht1⟩:∃ t,t=o+xy:=⟨_,rfl⟩
       obtain⟨t,ht⟩:∃ t,t=cy+t1:=⟨_,rfl⟩
       have W1:=Lz (show wrap64 ((i:Int)+k)=(i:Int)+k from by unfold wrap64;omega)
       have W2:=Lz (show wrap64 ((x:Int)*y)=(xy:Int) from wrapN (by rw[hxy,Int.natCast_mul]) (by omega))
       have W3:=Lz (show wrap64 ((o:Int)+xy)=(t1:Int) from wrapN (by omega) (by omega))
       have W4:=Lz (show wrap64 ((cy:Int)+t1)=(t:Int) from wrapN (by omega) (by omega))
       have i3:(i:Int)+k<N:=by omega
       obtain⟨dd,hd'⟩:∃ d,d=t%65536:=⟨_,rfl⟩
       obtain⟨cq,hq'⟩:∃ q,q=t/65536:=⟨_,rfl⟩
       have AN:=Lz (and16 t (by omega))
       have SH:=Lz (show(t:Int)/65536=(cq:Int) from by rw[hq'];omega)
       rw[<-hd'] at AN
       have HN:=Lz (show k+1<=m/\cq<B16/\(os2.set (i+k) dd).length=N/\Wb (os2.set (i+k) dd)/\bval (os2.set (i+k) dd)+B16^(i+(k+1))*cq=bval os+B16^i*(x*bval (Y.take (k+1)))/\∀ j,i+m<=j->(os2.set (i+k) dd).getD j 0=0 from by
        obtain⟨r1,r2,r3,r4,r5,r6⟩:=HR.out
        refine⟨hkm,by rw[hq'];unfold B16;omega,by rw[List.length_set,r3],r4.set (by rw[hd'];exact Nat.mod_lt _ B16_pos) _,?_,λj hj=>?_⟩
        . rw[hd',hq']
          exact prod_step (by rw[r3];exact hikN) r5 (by rw[ht,ht1,hxy,ho,hy];omega)
        . rw[getD_set_ne (by omega),r6 j hj])
       have HDS:=Lz (hdb.set (i+k) dd)
       have HGS:=Lz (grown_new hg (zzw wr g (i+k) (.int .i64 (dd:Nat))) (show w.heap.size<=g by omega))
       have q2:=W2.out
       have q3:=W3.out
       have q4:=W4.out
       have q5:=AN.out
       have q6:=SH.out
       clear hdb hg HR hy hikN ho hxy ht1 ht hd' hq' xyB oB cB yB hkm
       go_wp2_with fail
       go_roundw
       case rel=>exact⟨k+1,cq,os2.set (i+k) dd,by first|rfl|exact congrArg (Value.int .i64) SH.out,by first|rfl|go_num|exact congrArg (Value.int .i64) (wrapN (by omega) (by omega)),HDS.out,HGS.out,HN.out⟩
       case measure=>
        have:=HN.out.1
        simp only[intOf]
        first|omega|(rw[show wrap64 ((k:Int)+1)=((k+1:Nat):Int) from wrapN (by omega) (by omega)];omega)
     . have i2:¬(k:Int)<m:=by omega
       have himN:i+m<N:=by have:=HL.out;have:=H.out;omega
       have cg:=hdb.cell (i+m) (by rw[HR.out.2.2.1];exact himN)
       have fg:=hdb.free (i+m)
       have z0:os2.getD (i+m) 0=0:=HR.out.2.2.2.2.2 (i+m) (by omega)
       rw[z0] at cg
       have cB:cy<65536:=HR.out.2.1
       have W1:=Lz (show wrap64 ((i:Int)+m)=(i:Int)+m from by have:=HL.out;unfold wrap64;omega)
       have W2:=Lz (show wrap64 ((0:Int)+cy)=(cy:Int) from wrapN (by omega) (by omega))
       have i3:(i:Int)+m<N:=by omega
       have HN:=Lz (show i+1<=n/\(os2.set (i+m) cy).length=N/\Wb (os2.set (i+m) cy)/\bval (os2.set (i+m) cy)=bval (X.take (i+1))*bval Y/\∀ j,i+1+m<=j->(os2.set (i+m) cy).getD j 0=0 from by
        obtain⟨r1,r2,r3,r4,r5,r6⟩:=HR.out
        obtain⟨s1,s2,s3,s4,s5⟩:=HR1.out
        refine⟨by omega,by rw[List.length_set,r3],r4.set r2 _,?_,λj hj=>by rw[getD_set_ne (by omega),r6 j (by omega)]⟩
        have hset:=bval_set (l:=os2) (p:=i+m) (v:=cy) (by omega)
        rw[z0,Nat.mul_zero,Nat.add_zero] at hset
        have hk:k=m:=by omega
        rw[hk,List.take_of_length_le (by have:=H.out;omega)] at r5
        rw[hset,r5,s4,zxk,<-HX.out.1,Nat.add_mul,Nat.mul_assoc])
       have HDS:=Lz (hdb.set (i+m) cy)
       have HGS:=Lz (grown_new hg (zzw wr g (i+m) (.int .i64 (cy:Nat))) (show w.heap.size<=g by omega))
       have WC:=Lz (show wrap64 (cy:Int)=(cy:Int) from wrapN rfl (by omega))
       clear hdb hg HR himN z0 cB hkm
       go_wp2_with fail
       simp only[WC.out]
       go_roundw
       case rel=>exact⟨i+1,os2.set (i+m) cy,by first|rfl|go_num|exact congrArg (Value.int .i64) (wrapN (by omega) (by omega)),HDS.out,HGS.out,HN.out⟩
       case measure=>
        have:=HN.out.1
        simp only[intOf]
        first|omega|(rw[show wrap64 ((i:Int)+1)=((i+1:Nat):Int) from wrapN (by omega) (by omega)];omega)
  . have i1:¬(i:Int)<n:=by omega
    obtain⟨r1,r2,r3,r4,r5⟩:=HR.out
    have hsum:bval os=A*B:=by
     rw[r4,List.take_of_length_le (by have:=H.out;omega),HV.out.1,HV.out.2]
    have hrow:=hdb.row (c:=N) (by omega) (by have:=HL.out;unfold maxLen;omega)
    have HT:=trimS (some ⟨g,0,.none⟩) N os wr hrow
    rw[bnorm_bd os r3,hsum,r2] at HT
    have HTT:=Lz HT
    have HF:=Lz (show ∀ wx,wx=wr->BigP (A*B) w (.returned (.slice (some ⟨g,0,.none⟩) (bd (A*B)).length N)) wx from λwx hwx=>by
     subst hwx
     refine⟨_,_,rfl,?_,hg⟩
     have hb:=bnorm_bd os r3
     rw[hsum] at hb
     have:=bnorm_take os
     rw[hb] at this
     rw[<-this]
     exact hrow.take _)
    clear r1 r2 r3 r4 r5 hsum HT hrow hdb hg HR HD HG hin HDB HGR
    go_wp2_with fail
    refine HTT.out.mono ?_
    rintro e w1 ⟨rfl,hw⟩
    have HE:=Lz (HF.out _ hw)
    clear hw
    go_wp2_with fail
    go_ret
    exact HE.out
end Go.Proofs.YtohhkjamddojmaaGreatDoor.Big
