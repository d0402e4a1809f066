/- A number's words out of its hexadecimal digits: the walk. SetString: an Int out of hexadecimal digits. SetString over a family of Ints. -/
import Derived.Test.YtohhkjamddojmaaGreatDoorSE
import Derived.Deep.Cut
set_option maxRecDepth 100000
set_option maxHeartbeats 16000000
namespace Go.Proofs.YtohhkjamddojmaaGreatDoor.Big
open Go.RowKit
attribute [local go_sem] ptr
def eofV (ae:Addr):Value:=.iface 216 (.pointer (some ae))
theorem under216:Tryz.prog.underlying 216=some (.pointer 218):=by kernel_rfl
def isIf:TypeDesc->Bool
 | .interface _=>true
 | _=>false
theorem under150:(Tryz.prog.underlying 150).map isIf=some true:=by kernel_rfl
theorem info218s:(Tryz.prog.info? 218).isSome=true:=by kernel_rfl
theorem c216:Tryz.t216.comparable=true:=by kernel_rfl
theorem eql_eof (ae:Addr) (w:World):(binOp .eql 150 (.iface 216 (.pointer (some ae))) (.iface 216 (.pointer (some ae)))).run Tryz.prog w=.ok (.bool true) w:=by
 obtain⟨ms,hd⟩:∃ ms,Tryz.prog.underlying 150=some (.interface ms):=by
  have h:=under150
  cases hu:Tryz.prog.underlying 150 with
  | none=>rw[hu] at h;cases h
  | some d=>
   rw[hu] at h
   cases d with
   | interface ms=>exact⟨ms,rfl⟩
   | _=>cases h
 have hp:∀ d:Nat,(Op.equalIn (d+1) 216 (.pointer (some ae)) (.pointer (some ae))).run Tryz.prog w=.ok true w:=λd=>by
  obtain⟨j,hj⟩:=Option.isSome_iff_exists.1 info218s
  by_cases h0:j.size=0
  . simp[Op.equalIn,run_underlying under216,sizeOf,typeInfo,hj,h0]
  . simp[Op.equalIn,run_underlying under216,sizeOf,typeInfo,hj,run_sameAddr_same]
 have h2:∀ d:Nat,(Op.equalIn (d+1+1) 150 (.iface 216 (.pointer (some ae))) (.iface 216 (.pointer (some ae)))).run Tryz.prog w=.ok true w:=λk=>by
  have hk:=hp k
  rw[Op.equalIn]
  simp[run_underlying hd]
  rw[if_neg (by rw[c216];simp)]
  exact hk
 simp only[binOp]
 simp[Op.equal,Op.maxDepth,h2 9998]
theorem RowW.at {w:World} {base:Nat} {v:Value} {ds:List Nat} (h:RowW w base v ds) (h0:0<ds.length):∃ b cs,v=.slice (some ⟨b,0,.none⟩) ds.length cs.length/\base<=b/\NatB w b cs/\Words cs/\cs.take ds.length=ds/\ds.length<=cs.length/\cs.length<=maxLen:=by
 rcases h with⟨-,rfl⟩|h
 . simp at h0
 . exact h
theorem turn_take {ds zs ys:List Nat} (ht:zs.take ds.length=ds) (hle:ds.length<=zs.length) (hl:ys.length=zs.length) (hy:∀ k,ys.getD k 0=if k<ds.length then zs.getD (ds.length-1-k) 0 else zs.getD k 0):ys.take ds.length=ds.reverse:=by
 apply List.ext_getElem
 . rw[List.length_take,List.length_reverse];omega
 . intro k h1 h2
   rw[List.length_take] at h1
   rw[List.getElem_take,List.getElem_reverse]
   have:=hy k
   rw[if_pos (by omega)] at this
   have e:ds.getD (ds.length-1-k) 0=zs.getD (ds.length-1-k) 0:=by
    conv=>lhs;rw[<-ht]
    rw[List.getD,List.getElem?_take,if_pos (by rw[ht];omega),List.getD]
    rw[ht]
   rw[<-e] at this
   simpa [List.getD,show k<ys.length by omega,show ds.length-1-k<ds.length by omega] using this
theorem turn_words {zs ys:List Nat} {n:Nat} (hw:Words zs) (hy:∀ k,ys.getD k 0=if k<n then zs.getD (n-1-k) 0 else zs.getD k 0):Words ys:=by
 intro x hx
 obtain⟨k,hk,rfl⟩:=List.getElem_of_mem hx
 have:=hy k
 have e:ys[k]=ys.getD k 0:=by simp[List.getD,hk]
 rw[e,this]
 split
 . exact hw.getD _
 . exact hw.getD _
def ScanP (V N rb:Nat) (w:World) (e:Ending) (w':World):Prop:=
 ∃ b ds,e=.returned (.tuple #[.slice (some ⟨b,0,.none⟩) (dg V).length ds.length,.int .i64 16,.int .i64 N,.nilIface])/\w.heap.size<=b/\Num w' (some ⟨b,0,.none⟩) (dg V) ds/\w.grownBy w' (some rb)
theorem scanN (cs:List Nat) (rb:Nat) (ae:Addr) (s:ByteArray) (pv:Int) (w:World) (h:Rd w rb s 0 pv) (hs:Str s cs) (hl:cs.length<=200) (h0:0<cs.length) (hx:∀ i,i<cs.length->HexC (cs.getD i 0)) (hV:0<hexN cs) (he:w.cell? ⟨2,0,.none⟩=some (eofV ae)) (hb:rb≠2) :
 Calls Tryz.prog 250 #[.slice .none 0 0,.iface 242 (ptr rb),.int .i64 16,.bool false] w (λe w'=>ScanP (hexN cs) cs.length rb w e w'/\Rd w' rb s cs.length (-1)):=by
 obtain⟨N,hN⟩:∃ N,N=cs.length:=⟨_,rfl⟩
 have H:=Lz (And.intro h (And.intro hs (And.intro hN (And.intro hl (And.intro h0 (And.intro hx (And.intro hV (And.intro he hb))))))))
 have hrb:rb<w.heap.size:=(Array.getElem?_eq_some_iff.1 h).1
 have C0:=Lz (readNext cs rb 0 s pv (eofV ae) w h hs (by omega) (by omega) he hb)
 have m1:=method_rb ⟨rb,0,.none⟩
 have m2:=ahead_rb ⟨rb,0,.none⟩
 rw[<-hN] at hl h0 ⊢
 clear h hs hN hx hV he hb
 unfold ptr at *
 go_enter Tryz.func250,Tryz.ntmps250
 go_wp2_with fail
 refine C0.out.mono ?_
 rintro e w1 ⟨err,ch,rfl,hg,hnx⟩
 have G1:=Lz hg
 have NX1:=Lz hnx
 clear hg hnx C0
 go_wp2_with fail
 go_loopw [0,3,10,11,13,14,15,20,21,22] (λs0 s3 s10 s11 s13 s14 s15 s20 s21 s22 wr=>∃ (k i di ch:Nat) (pq:Int) (ds:List Nat),s3=.bool false/\s14=.bool false/\s22=.int .i64 (-1)/\s10=.int .i64 (k:Nat)/\s13=.int .i32 pq/\s15=.int .u8 (ch:Nat)/\s20=.int .u64 (di:Nat)/\s21=.int .i64 (i:Nat)/\RowW wr w.heap.size s0 ds/\w.grownBy wr (some rb)/\RowKit.Hid (k<=N/\SCI cs k ds i di/\NX cs rb s (eofV ae) k wr s11 ch/\(pq=46\/pq=48))) (λ_ _ s10 _ _ _ _ _ _ _ _=>((N:Int)-intOf s10).toNat)
 case atStart=>exact⟨0,0,0,ch,46,[],rfl,rfl,rfl,rfl,rfl,rfl,rfl,rfl,RowW.nil _ _,G1.out,⟨Nat.zero_le _,SCI.start cs,NX1.out,.inl rfl⟩⟩
 case round=>
  obtain⟨k,i,di,ch,pq,ds,rfl,rfl,rfl,rfl,rfl,rfl,rfl,rfl,hrow,hg,HQ⟩:=hrel
  have HROW:=Lz hrow
  have HG:=Lz hg
  have i16:=HQ.out.2.1.hi
  have hdi:=HQ.out.2.1.hd
  have hkN:=HQ.out.1
  rcases HQ.out.2.2.1 with⟨hlt,rfl,hch,hrd⟩|⟨rfl,rfl,rfl,hrd⟩
  . have hx:HexC ch:=by rw[hch];exact H.out.2.2.2.2.2.1 k hlt
    have hxc:HexC (cs.getD k 0):=by rw[<-hch];exact hx
    have HR:=Lz hrd
    obtain⟨c,hcc⟩:∃ c,c=ch:=⟨_,rfl⟩
    rw[<-hcc] at hx hch ⊢
    have cB:c<71:=by unfold HexC at hx;omega
    have b46:((c:Int)==46)=false:=by rw[beq_eq_false_iff_ne];unfold HexC at hx;omega
    have b95:((c:Int)==95)=false:=by rw[beq_eq_false_iff_ne];unfold HexC at hx;omega
    obtain⟨d,hd⟩:∃ d,d=hexv c:=⟨_,rfl⟩
    have d16:d<16:=by rw[hd];exact hx.lt
    have hdB:di*16+d<B64:=by
     have h1:16^i<=16^15:=Nat.pow_le_pow_right (by decide) (by omega)
     have h2:(16:Nat)^15*16=B64:=by decide
     omega
    obtain⟨t1,ht1⟩:∃ t,t=di*16:=⟨_,rfl⟩
    obtain⟨t,ht⟩:∃ t,t=di*16+d:=⟨_,rfl⟩
    have T1:=Lz (show IntKind.u64.wrap ((di:Int)*16)=(t1:Int)/\((di:Int)*16)%18446744073709551616=(t1:Int) from⟨by rw[IntKind.wrap_u64];unfold B64 at hdB;omega,by unfold B64 at hdB;omega⟩)
    have T2:=Lz (show IntKind.u64.wrap ((t1:Int)+d)=(t:Int)/\((t1:Int)+d)%18446744073709551616=(t:Int) from⟨by rw[IntKind.wrap_u64];unfold B64 at hdB;omega,by unfold B64 at hdB;omega⟩)
    have d16':¬(16:Int)<=d:=by omega
    have hk9:k<=200:=by omega
    have HSTR:=Lz (λwq (h:Rd wq rb s (k+1) (-1)) (he:wq.cell? ⟨2,0,.none⟩=some (eofV ae))=>readNext cs rb (k+1) s (-1) (eofV ae) wq h H.out.2.1 (by have:=H.out.2.2.1;omega) (by have:=H.out;omega) he H.out.2.2.2.2.2.2.2.2)
    clear hcc hdi hdB ht1
    by_cases hdig:c<=57
    . have c48:(48:Int)<=c:=by unfold HexC at hx;omega
      have c57:(c:Int)<=57:=by omega
      have hdv:d=c-48:=by rw[hd];unfold hexv;rw[if_pos hdig]
      by_cases hw:i+1<16
      . skip
        have D1:=Lz (show IntKind.u8.wrap ((c:Int)-48)=(d:Int)/\((c:Int)-48)%256=(d:Int) from⟨by rw[IntKind.wrap_u8];omega,by omega⟩)
        have HS:=Lz (show SCI cs (k+1) ds (i+1) t from by
         have:=HQ.out.2.1.next (by have:=H.out.2.2.1;omega) hxc (by omega)
         rw[<-hch,<-hd,<-ht] at this
         exact this)
        have e16:(((i+1:Nat):Int)==16)=false:=by rw[beq_eq_false_iff_ne];omega
        have W3:=Lz (show wrap64 ((i:Int)+1)=((i+1:Nat):Int) from wrapN (by omega) (by omega))
        have W4:=Lz (show wrap64 ((k:Int)+1)=((k+1:Nat):Int) from wrapN (by omega) (by omega))
        have HKN:=Lz (show k+1<=N from by have:=H.out.2.2.1;omega)
        clear hxc hch hd ht hlt hx HQ hdv
        have q1:=D1.out.1
        have q2:=D1.out.2
        have q5:=T1.out.1
        have q7:=T2.out.1
        have HN:=Lz (HSTR.out _ HR.out (HG.out.cell H.out.2.2.2.2.2.2.2.1 (λhh=>H.out.2.2.2.2.2.2.2.2 (Option.some.inj hh).symm)))
        go_wp2_with fail
        refine HN.out.mono ?_
        rintro e wz ⟨err2,ch2,rfl,g2,hnx⟩
        have HZ:=Lz (show w.grownBy wz (some rb)/\RowW wz w.heap.size u0 ds/\NX cs rb s (eofV ae) (k+1) wz err2 ch2 from⟨HG.out.trans g2,HROW.out.kept g2 (.inr (HROW.out.ne hrb)),hnx⟩)
        clear g2 hnx HN
        go_wp2_with fail
        go_roundw
        case rel=>exact⟨k+1,i+1,t,ch2,48,ds,rfl,rfl,rfl,by first|rfl|go_num,rfl,rfl,rfl,by first|rfl|go_num,HZ.out.2.1,HZ.out.1,⟨HKN.out,HS.out,HZ.out.2.2,.inr rfl⟩⟩
        case measure=>have:=HKN.out;simp only[intOf];omega
      . skip
        have D1:=Lz (show IntKind.u8.wrap ((c:Int)-48)=(d:Int)/\((c:Int)-48)%256=(d:Int) from⟨by rw[IntKind.wrap_u8];omega,by omega⟩)
        obtain rfl:i=15:=by omega
        have HS:=Lz (show SCI cs (k+1) (ds ++ [t]) 0 0/\t<B64 from by
         have:=HQ.out.2.1.word (by have:=H.out.2.2.1;omega) hxc
         rw[<-hch,<-hd,<-ht] at this
         exact this)
        have hloc:=HQ.out.2.1.hw
        have hlen:=HQ.out.2.1.hk
        have W4:=Lz (show wrap64 ((k:Int)+1)=((k+1:Nat):Int) from wrapN (by omega) (by omega))
        have HKN:=Lz (show k+1<=N from by have:=H.out.2.2.1;omega)
        clear hxc hch hd ht hlt hx HQ hdv
        have q1:=D1.out.1
        have q2:=D1.out.2
        have q5:=T1.out.1
        have q7:=T2.out.1
        have hga:w.grownBy (wr.alloc (.cells #[Value.int .u64 (t:Nat)] 199)) (some rb):=HG.out.trans (zzy _ _ _)
        have hra:RowW (wr.alloc (.cells #[Value.int .u64 (t:Nat)] 199)) w.heap.size u0 ds:=HROW.out.kept (zzy wr _ .none) (Classical.em _)
        have hsrc:(wr.alloc (.cells #[Value.int .u64 (t:Nat)] 199)).cell? ⟨wr.heap.size,0,.none⟩=some (wd t):=zwx (k:=0) (heap_alloc_new wr (.cells #[Value.int .u64 (t:Nat)] 199)) rfl
        have hbase:w.heap.size<=(wr.alloc (.cells #[Value.int .u64 (t:Nat)] 199)).heap.size:=hga.size
        have hl1:ds.length<=1000:=by omega
        have HRA:=Lz (HR.out.kept (zzy wr (.cells #[Value.int .u64 (t:Nat)] 199) .none) (by simp))
        have HGA:=Lz hga
        have HRO:=Lz hra
        have htB:=HS.out.2
        go_wp2_with (at_builtin;refine wpList_append_word rfl (.tmp 193) (.tmp 195) rfl w.heap.size _ ds t rfl hra hloc htB ⟨wr.heap.size,0,.none⟩ rfl hsrc hbase hl1 ?_;intro v' w1' hrow' hgrow)
        have HO':=Lz (show RowW w1' w.heap.size v' (ds ++ [t])/\w.grownBy w1' (some rb)/\Rd w1' rb s (k+1) (-1) from⟨hrow',HRO.out.grown (Nat.le_refl _) HGA.out hgrow,HRA.out.kept hgrow (λhh=>HRO.out.ne hrb hh.symm)⟩)
        have HN:=Lz (HSTR.out _ HO'.out.2.2 (HO'.out.2.1.cell H.out.2.2.2.2.2.2.2.1 (λhh=>H.out.2.2.2.2.2.2.2.2 (Option.some.inj hh).symm)))
        clear hrow' hgrow hga hra hsrc hbase
        go_wp2_with fail
        refine HN.out.mono ?_
        rintro e wz ⟨err2,ch2,rfl,g2,hnx⟩
        have HZ:=Lz (show w.grownBy wz (some rb)/\RowW wz w.heap.size v' (ds ++ [t])/\NX cs rb s (eofV ae) (k+1) wz err2 ch2 from⟨HO'.out.2.1.trans g2,HO'.out.1.kept g2 (.inr (HO'.out.1.ne hrb)),hnx⟩)
        clear g2 hnx HN
        go_wp2_with fail
        go_roundw
        case rel=>exact⟨k+1,0,0,ch2,48,ds ++ [t],rfl,rfl,rfl,by first|rfl|go_num,rfl,rfl,rfl,rfl,HZ.out.2.1,HZ.out.1,⟨HKN.out,HS.out.1,HZ.out.2.2,.inr rfl⟩⟩
        case measure=>have:=HKN.out;simp only[intOf];omega
    . have b1:¬(c:Int)<=57:=by omega
      have b2:¬(97:Int)<=c:=by omega
      have b3:(65:Int)<=c:=by unfold HexC at hx;omega
      have b4:(c:Int)<=90:=by omega
      have b5:(48:Int)<=c:=by unfold HexC at hx;omega
      have hdv:d=c-55:=by rw[hd];unfold hexv;rw[if_neg hdig]
      by_cases hw:i+1<16
      . skip
        obtain⟨c1,hc1⟩:∃ x,x=c-65:=⟨_,rfl⟩
        have D1:=Lz (show IntKind.u8.wrap ((c:Int)-65)=(c1:Int)/\((c:Int)-65)%256=(c1:Int) from⟨by rw[IntKind.wrap_u8];omega,by omega⟩)
        have D2:=Lz (show IntKind.u8.wrap ((c1:Int)+10)=(d:Int)/\((c1:Int)+10)%256=(d:Int) from⟨by rw[IntKind.wrap_u8];omega,by omega⟩)
        have HS:=Lz (show SCI cs (k+1) ds (i+1) t from by
         have:=HQ.out.2.1.next (by have:=H.out.2.2.1;omega) hxc (by omega)
         rw[<-hch,<-hd,<-ht] at this
         exact this)
        have e16:(((i+1:Nat):Int)==16)=false:=by rw[beq_eq_false_iff_ne];omega
        have W3:=Lz (show wrap64 ((i:Int)+1)=((i+1:Nat):Int) from wrapN (by omega) (by omega))
        have W4:=Lz (show wrap64 ((k:Int)+1)=((k+1:Nat):Int) from wrapN (by omega) (by omega))
        have HKN:=Lz (show k+1<=N from by have:=H.out.2.2.1;omega)
        clear hxc hch hd ht hlt hx HQ hdv
        clear hc1
        have q1:=D1.out.1
        have q2:=D1.out.2
        have q3:=D2.out.1
        have q4:=D2.out.2
        have q5:=T1.out.1
        have q7:=T2.out.1
        have HN:=Lz (HSTR.out _ HR.out (HG.out.cell H.out.2.2.2.2.2.2.2.1 (λhh=>H.out.2.2.2.2.2.2.2.2 (Option.some.inj hh).symm)))
        go_wp2_with fail
        refine HN.out.mono ?_
        rintro e wz ⟨err2,ch2,rfl,g2,hnx⟩
        have HZ:=Lz (show w.grownBy wz (some rb)/\RowW wz w.heap.size u0 ds/\NX cs rb s (eofV ae) (k+1) wz err2 ch2 from⟨HG.out.trans g2,HROW.out.kept g2 (.inr (HROW.out.ne hrb)),hnx⟩)
        clear g2 hnx HN
        go_wp2_with fail
        go_roundw
        case rel=>exact⟨k+1,i+1,t,ch2,48,ds,rfl,rfl,rfl,by first|rfl|go_num,rfl,rfl,rfl,by first|rfl|go_num,HZ.out.2.1,HZ.out.1,⟨HKN.out,HS.out,HZ.out.2.2,.inr rfl⟩⟩
        case measure=>have:=HKN.out;simp only[intOf];omega
      . skip
        obtain⟨c1,hc1⟩:∃ x,x=c-65:=⟨_,rfl⟩
        have D1:=Lz (show IntKind.u8.wrap ((c:Int)-65)=(c1:Int)/\((c:Int)-65)%256=(c1:Int) from⟨by rw[IntKind.wrap_u8];omega,by omega⟩)
        have D2:=Lz (show IntKind.u8.wrap ((c1:Int)+10)=(d:Int)/\((c1:Int)+10)%256=(d:Int) from⟨by rw[IntKind.wrap_u8];omega,by omega⟩)
        obtain rfl:i=15:=by omega
        have HS:=Lz (show SCI cs (k+1) (ds ++ [t]) 0 0/\t<B64 from by
         have:=HQ.out.2.1.word (by have:=H.out.2.2.1;omega) hxc
         rw[<-hch,<-hd,<-ht] at this
         exact this)
        have hloc:=HQ.out.2.1.hw
        have hlen:=HQ.out.2.1.hk
        have W4:=Lz (show wrap64 ((k:Int)+1)=((k+1:Nat):Int) from wrapN (by omega) (by omega))
        have HKN:=Lz (show k+1<=N from by have:=H.out.2.2.1;omega)
        clear hxc hch hd ht hlt hx HQ hdv
        clear hc1
        have q1:=D1.out.1
        have q2:=D1.out.2
        have q3:=D2.out.1
        have q4:=D2.out.2
        have q5:=T1.out.1
        have q7:=T2.out.1
        have hga:w.grownBy (wr.alloc (.cells #[Value.int .u64 (t:Nat)] 199)) (some rb):=HG.out.trans (zzy _ _ _)
        have hra:RowW (wr.alloc (.cells #[Value.int .u64 (t:Nat)] 199)) w.heap.size u0 ds:=HROW.out.kept (zzy wr _ .none) (Classical.em _)
        have hsrc:(wr.alloc (.cells #[Value.int .u64 (t:Nat)] 199)).cell? ⟨wr.heap.size,0,.none⟩=some (wd t):=zwx (k:=0) (heap_alloc_new wr (.cells #[Value.int .u64 (t:Nat)] 199)) rfl
        have hbase:w.heap.size<=(wr.alloc (.cells #[Value.int .u64 (t:Nat)] 199)).heap.size:=hga.size
        have hl1:ds.length<=1000:=by omega
        have HRA:=Lz (HR.out.kept (zzy wr (.cells #[Value.int .u64 (t:Nat)] 199) .none) (by simp))
        have HGA:=Lz hga
        have HRO:=Lz hra
        have htB:=HS.out.2
        go_wp2_with (at_builtin;refine wpList_append_word rfl (.tmp 193) (.tmp 195) rfl w.heap.size _ ds t rfl hra hloc htB ⟨wr.heap.size,0,.none⟩ rfl hsrc hbase hl1 ?_;intro v' w1' hrow' hgrow)
        have HO':=Lz (show RowW w1' w.heap.size v' (ds ++ [t])/\w.grownBy w1' (some rb)/\Rd w1' rb s (k+1) (-1) from⟨hrow',HRO.out.grown (Nat.le_refl _) HGA.out hgrow,HRA.out.kept hgrow (λhh=>HRO.out.ne hrb hh.symm)⟩)
        have HN:=Lz (HSTR.out _ HO'.out.2.2 (HO'.out.2.1.cell H.out.2.2.2.2.2.2.2.1 (λhh=>H.out.2.2.2.2.2.2.2.2 (Option.some.inj hh).symm)))
        clear hrow' hgrow hga hra hsrc hbase
        go_wp2_with fail
        refine HN.out.mono ?_
        rintro e wz ⟨err2,ch2,rfl,g2,hnx⟩
        have HZ:=Lz (show w.grownBy wz (some rb)/\RowW wz w.heap.size v' (ds ++ [t])/\NX cs rb s (eofV ae) (k+1) wz err2 ch2 from⟨HO'.out.2.1.trans g2,HO'.out.1.kept g2 (.inr (HO'.out.1.ne hrb)),hnx⟩)
        clear g2 hnx HN
        go_wp2_with fail
        go_roundw
        case rel=>exact⟨k+1,0,0,ch2,48,ds ++ [t],rfl,rfl,rfl,by first|rfl|go_num,rfl,rfl,rfl,rfl,HZ.out.2.1,HZ.out.1,⟨HKN.out,HS.out.1,HZ.out.2.2,.inr rfl⟩⟩
        case measure=>have:=HKN.out;simp only[intOf];omega
  . have HR:=Lz hrd
    have HSC:=Lz HQ.out.2.1
    have hpq:((pq:Int)==95)=false:=by rcases HQ.out.2.2.2 with rfl|rfl <;> rfl
    have he2:wr.cell? ⟨2,0,.none⟩=some (.iface 216 (.pointer (some ae))):=hg.cell H.out.2.2.2.2.2.2.2.1 (λhh=>H.out.2.2.2.2.2.2.2.2 (Option.some.inj hh).symm)
    have eE:=eql_eof ae
    have hc0:=H.out.2.2.2.2.1
    have k0:((cs.length:Int)==0)=false:=by rw[beq_eq_false_iff_ne];omega
    have hne:0<ds.length\/0<i:=by have:=HQ.out.2.1.hk;omega
    have HNE:=Lz hne
    have HLN:=Lz (show ds.length<=20 from by have:=HQ.out.2.1.hk;have:=H.out;omega)
    clear hrd hdi hkN hne hrow hg HQ hc0
    unfold eofV
    by_cases hi0:i=0
    . subst hi0
      obtain⟨b,zs,rfl,hbb,hN1,hW1,htk,hle,hcm⟩:=HROW.out.at (by have:=HNE.out;omega)
      have HV:=Lz (show bw ds=hexN cs from by
       have h1:=HSC.out.hv
       have h2:=HSC.out.hd
       rw[List.take_length,Nat.pow_zero,Nat.mul_one] at h1
       omega)
      have HRV:=Lz (reverseW b ds.length zs.length zs wr hN1 hle (by have:=HLN.out;omega))
      have HB:=Lz (And.intro hbb (And.intro hW1 (And.intro htk (And.intro hle hcm))))
      clear hbb hN1 hW1 htk hle hcm
      go_wp2_with fail
      refine HRV.out.mono ?_
      rintro e w2 ⟨rfl,g2,ys,hN2,hl2,hy⟩
      have HY:=Lz (turn_take HB.out.2.2.1 HB.out.2.2.2.1 hl2 hy)
      have hB2:Buf w2 (some ⟨b,0,.none⟩) ys:=⟨.inr ⟨b,rfl,hN2⟩,turn_words HB.out.2.1 hy,by rw[hl2];have:=HB.out.2.2.2.2;unfold maxLen at this;exact this⟩
      have HNM:=Lz (norm_of hB2 HY.out (by rw[hl2];exact HB.out.2.2.2.1) hl2)
      have HNU:=Lz (num_of hB2 HY.out)
      have HG2:=Lz (grown_on HG.out g2 HB.out.1)
      have HR2:=Lz (HR.out.kept g2 (λhh=>by have:=Option.some.inj hh;have:=HB.out.1;omega))
      clear hN2 hy hB2 g2 HRV
      go_wp2_with fail
      refine HNM.out.mono ?_
      rintro e w3 ⟨rfl,rfl⟩
      clear HNM
      have HE:=Lz (show ScanP (hexN cs) N rb w (.returned (.tuple #[.slice (some ⟨b,0,.none⟩) (dg (val ds.reverse)).length zs.length,.int .i64 16,.int .i64 cs.length,.nilIface])) w2/\Rd w2 rb s N (-1) from by
       have hv:val ds.reverse=hexN cs:=by rw[val_reverse,HV.out]
       have hnu:=HNU.out
       rw[hv] at hnu ⊢
       have hN:=H.out.2.2.1
       refine⟨⟨b,ys,by rw[hl2,hN],HB.out.1,hnu,HG2.out⟩,by rw[hN];exact HR2.out⟩)
      go_wp2_with fail
      simp[bodyPost,results,Tryz.results250,go_sem]
      exact HE.out
    . have i1:(0:Int)<i:=by omega
      obtain⟨m,hm⟩:∃ m,m=16-i:=⟨_,rfl⟩
      obtain⟨Pw,hPw⟩:∃ P,P=16^m:=⟨_,rfl⟩
      obtain⟨dv,hdv⟩:∃ d,d=di*Pw:=⟨_,rfl⟩
      obtain⟨sh,hsh⟩:∃ s,s=m*4:=⟨_,rfl⟩
      have HP:=Lz (pow16W m wr (by omega))
      rw[<-hPw] at HP
      have HDB:=Lz (show dv<B64 from by
       have h2:=HSC.out.hd
       have h3:(16:Nat)^i*16^m=B64:=by rw[<-Nat.pow_add,show i+m=16 by omega];decide
       have h4:di*16^m<16^i*16^m:=Nat.mul_lt_mul_of_pos_right h2 (Nat.pow_pos (by decide))
       rw[hdv,hPw]
       omega)
      have HV:=Lz (show bw (ds ++ [dv])=hexN cs*2^sh from by
       have h1:=HSC.out.hv
       rw[List.take_length] at h1
       have h3:(16:Nat)^i*16^m=B64:=by rw[<-Nat.pow_add,show i+m=16 by omega];decide
       have h4:(2:Nat)^sh=16^m:=by rw[hsh,Nat.mul_comm,Nat.pow_mul]
       rw[bw_snoc,h1,h4,hdv,hPw,Nat.add_mul,Nat.mul_assoc,h3])
      have W5:=Lz (show wrap64 ((16:Int)-i)=(m:Int) from wrapN (by omega) (by omega))
      have T5:=Lz (show IntKind.u64.wrap ((di:Int)*(Pw:Int))=(dv:Int) from by
       rw[<-Int.natCast_mul,<-hdv,IntKind.wrap_u64];have:=HDB.out;unfold B64 at this;omega)
      have T6:=Lz (show IntKind.u64.wrap (IntKind.u64.wrap (m:Int)*4)=(sh:Int) from by rw[IntKind.wrap_u64,IntKind.wrap_u64];omega)
      have HMS:=Lz (show m<=15/\1<=sh/\sh<=63 from by omega)
      have hloc:=HSC.out.hw
      clear hm hPw hdv hsh hi0 i16
      have hga:w.grownBy (wr.alloc (.cells #[Value.int .u64 (dv:Nat)] 199)) (some rb):=HG.out.trans (zzy _ _ _)
      have hra:RowW (wr.alloc (.cells #[Value.int .u64 (dv:Nat)] 199)) w.heap.size u0 ds:=HROW.out.kept (zzy wr _ .none) (Classical.em _)
      have hsrc:(wr.alloc (.cells #[Value.int .u64 (dv:Nat)] 199)).cell? ⟨wr.heap.size,0,.none⟩=some (wd dv):=zwx (k:=0) (heap_alloc_new wr (.cells #[Value.int .u64 (dv:Nat)] 199)) rfl
      have hbase:w.heap.size<=(wr.alloc (.cells #[Value.int .u64 (dv:Nat)] 199)).heap.size:=hga.size
      have hl1:ds.length<=1000:=by have:=HLN.out;omega
      have HRA:=Lz (HR.out.kept (zzy wr (.cells #[Value.int .u64 (dv:Nat)] 199) .none) (by simp))
      have HGA:=Lz hga
      have HRO:=Lz hra
      have htB:=HDB.out
      have q1:=W5.out
      go_wp2_with fail
      refine HP.out.mono ?_
      rintro e w2 ⟨rfl,rfl⟩
      clear q1 HP
      have q2:=T5.out
      go_wp2_with (at_builtin;refine wpList_append_word rfl (.tmp 232) (.tmp 240) rfl w.heap.size _ ds dv rfl hra hloc htB ⟨w2.heap.size,0,.none⟩ rfl hsrc hbase hl1 ?_;intro v' w1' hrow' hgrow)
      clear q2
      have HO':=Lz (show w.grownBy w1' (some rb)/\Rd w1' rb s cs.length (-1) from⟨HRO.out.grown (Nat.le_refl _) HGA.out hgrow,HRA.out.kept hgrow (λhh=>HRO.out.ne hrb hh.symm)⟩)
      obtain⟨b,zs,rfl,hbb,hN1,hW1,htk,hle,hcm⟩:=hrow'.at (by simp)
      have hdl:(ds ++ [dv]).length=ds.length+1:=by simp
      have HRV:=Lz (reverseW b (ds ++ [dv]).length zs.length zs w1' hN1 hle (by rw[hdl];have:=HLN.out;omega))
      have HB:=Lz (And.intro hbb (And.intro hW1 (And.intro htk (And.intro hle hcm))))
      clear hbb hN1 hW1 htk hle hcm hgrow hga hra hsrc hbase hdl
      go_wp2_with fail
      refine HRV.out.mono ?_
      rintro e w2 ⟨rfl,g2,ys,hN2,hl2,hy⟩
      have HY:=Lz (turn_take HB.out.2.2.1 HB.out.2.2.2.1 hl2 hy)
      have hB2:Buf w2 (some ⟨b,0,.none⟩) ys:=⟨.inr ⟨b,rfl,hN2⟩,turn_words HB.out.2.1 hy,by rw[hl2];have:=HB.out.2.2.2.2;unfold maxLen at this;exact this⟩
      have HNM:=norm_of hB2 HY.out (by rw[hl2];exact HB.out.2.2.2.1) hl2
      have HNU:=num_of hB2 HY.out
      have hv:val (ds ++ [dv]).reverse=hexN cs*2^sh:=by rw[val_reverse,HV.out]
      rw[hv] at HNM HNU
      have hdl2:(ds ++ [dv]).length=ds.length+1:=by simp
      rw[hdl2] at HNM
      clear hdl2
      have HNMM:=Lz HNM
      have hVp:hexN cs*2^sh≠0:=Nat.mul_ne_zero (by have:=H.out.2.2.2.2.2.2.1;omega) (Nat.pos_iff_ne_zero.1 (Nat.pow_pos (by decide)))
      have hml:(dg (hexN cs*2^sh)).length<=ys.length:=HNU.le
      have hm80:(dg (hexN cs*2^sh)).length<=80000:=by
       rw[<-hv,<-norm_dg _ (λx hx=>by rcases List.mem_append.1 (List.mem_reverse.1 hx) with h|h;exact hloc x h;rw[List.mem_singleton.1 h];exact htB)]
       have:=norm_length (ds ++ [dv]).reverse
       have h2:(ds ++ [dv]).reverse.length=ds.length+1:=by simp
       rw[h2] at this
       have:=HLN.out
       omega
      have HSH:=rshW b (dg (hexN cs*2^sh)).length sh ys w2 hB2 hml (zyw hVp) HMS.out.2.1 HMS.out.2.2 hm80
      rw[HNU.take,val_dg,Nat.mul_div_cancel _ (Nat.pow_pos (by decide))] at HSH
      have HSHH:=Lz HSH
      have HG2:=Lz (grown_on HO'.out.1 g2 HB.out.1)
      have HR2:=Lz (HO'.out.2.kept g2 (λhh=>by have:=Option.some.inj hh;have:=HB.out.1;omega))
      have HL2:=Lz hl2
      rw[hl2] at HSHH
      clear hN2 hy hB2 g2 HRV HNM HNU hVp hml hm80 HSH hl2 hv hloc htB
      obtain⟨lm,hlm⟩:∃ lm,lm=(dg (hexN cs*2^sh)).length:=⟨_,rfl⟩
      rw[<-hlm] at HNMM HSHH
      clear hlm
      go_wp2_with fail
      refine HNMM.out.mono ?_
      rintro e w3 ⟨rfl,rfl⟩
      clear HNMM
      have q1:=W5.out
      go_wp2_with fail
      clear q1
      rw[T6.out]
      refine HSHH.out.mono ?_
      rintro e w4 ⟨rfl,g4,us,hnu,hus⟩
      have HE:=Lz (show ScanP (hexN cs) N rb w (.returned (.tuple #[.slice (some ⟨b,0,.none⟩) (dg (hexN cs)).length zs.length,.int .i64 16,.int .i64 cs.length,.nilIface])) w4/\Rd w4 rb s N (-1) from by
       have hN:=H.out.2.2.1
       refine⟨⟨b,us,by rw[hus,hN],HB.out.1,hnu,grown_on HG2.out g4 HB.out.1⟩,by rw[hN];exact HR2.out.kept g4 (λhh=>by have:=Option.some.inj hh;have:=HB.out.1;omega)⟩)
      clear g4 hnu hus HSHH
      go_wp2_with fail
      simp[bodyPost,results,Tryz.results250,go_sem]
      exact HE.out
end Go.Proofs.YtohhkjamddojmaaGreatDoor.Big

set_option maxRecDepth 100000
set_option maxHeartbeats 16000000
namespace Go.Proofs.YtohhkjamddojmaaGreatDoor.Big
open Go.RowKit
attribute [local go_sem] ptr
theorem neq_eof (ae:Addr) (w:World):(binOp .neq 150 (.iface 216 (.pointer (some ae))) (.iface 216 (.pointer (some ae)))).run Tryz.prog w=.ok (.bool false) w:=by
 obtain⟨ms,hd⟩:∃ ms,Tryz.prog.underlying 150=some (.interface ms):=by
  have h:=under150
  cases hu:Tryz.prog.underlying 150 with
  | none=>rw[hu] at h;cases h
  | some d=>
   rw[hu] at h
   cases d with
   | interface ms=>exact⟨ms,rfl⟩
   | _=>cases h
 have hp:∀ d:Nat,(Op.equalIn (d+1) 216 (.pointer (some ae)) (.pointer (some ae))).run Tryz.prog w=.ok true w:=λd=>by
  obtain⟨j,hj⟩:=Option.isSome_iff_exists.1 info218s
  by_cases h0:j.size=0
  . simp[Op.equalIn,run_underlying under216,sizeOf,typeInfo,hj,h0]
  . simp[Op.equalIn,run_underlying under216,sizeOf,typeInfo,hj,run_sameAddr_same]
 have h2:∀ d:Nat,(Op.equalIn (d+1+1) 150 (.iface 216 (.pointer (some ae))) (.iface 216 (.pointer (some ae)))).run Tryz.prog w=.ok true w:=λk=>by
  have hk:=hp k
  rw[Op.equalIn]
  simp[run_underlying hd]
  rw[if_neg (by rw[c216];simp)]
  exact hk
 simp only[binOp]
 simp[Op.equal,Op.maxDepth,h2 9998]
def IScan (V N rb z:Nat) (s:ByteArray) (w:World) (e:Ending) (w':World):Prop:=
 e=.returned (.tuple #[ptr z,.int .i64 16,.nilIface])/\∃ b ds w4,w.grownBy w4 (some rb)/\w.heap.size<=b/\Num w4 (some ⟨b,0,.none⟩) (dg V) ds/\Rd w4 rb s N (-1)/\w'=(w4.setCell ⟨z,1,.none⟩ (.slice (some ⟨b,0,.none⟩) (dg V).length ds.length)).setCell ⟨z,0,.none⟩ (.bool false)
theorem scanI (cs:List Nat) (rb:Nat) (ae:Addr) (z:Nat) (s:ByteArray) (pv:Int) (w:World) (hz:StrB w z false .none 0 0) (hzr:z≠rb) (h:Rd w rb s 0 pv) (hs:Str s cs) (hl:cs.length<=200) (h0:0<cs.length) (hx:∀ i,i<cs.length->HexC (cs.getD i 0)) (hV:0<hexN cs) (he:w.cell? ⟨2,0,.none⟩=some (eofV ae)) (hb:rb≠2) :
 Calls Tryz.prog 223 #[ptr z,.iface 242 (ptr rb),.int .i64 16] w (IScan (hexN cs) cs.length rb z s w):=by
 have hx0:=hx 0 h0
 have C1:=Lz (scanSignB rb s pv w h (by rw[hs.1];exact h0) (by rw[hs.1];omega) (by rw[hs.2 0];unfold HexC at hx0;omega) (by rw[hs.2 0];unfold HexC at hx0;omega))
 have C2:=Lz (λw1 (h1:Rd w1 rb s 0 (-1)) (he1:w1.cell? ⟨2,0,.none⟩=some (eofV ae))=>scanN cs rb ae s (-1) w1 h1 hs hl h0 hx hV he1 hb)
 have HE:=Lz (And.intro he hb)
 have HZ:=Lz hz
 have HZR:=Lz hzr
 have HV:=Lz hV
 have hl1:=Lz hl
 clear hz hzr h hs hl h0 hx hV he hb hx0
 obtain⟨V,hVV⟩:∃ V,V=hexN cs:=⟨_,rfl⟩
 obtain⟨N,hNN⟩:∃ N,N=cs.length:=⟨_,rfl⟩
 rw[<-hVV] at C2 HV ⊢
 rw[<-hNN] at C2 ⊢
 clear hVV hNN
 unfold ptr at *
 go_enter Tryz.func223,Tryz.ntmps223
 go_wp2_with fail
 refine C1.out.mono ?_
 rintro e w1 ⟨rfl,g1,r1⟩
 have hz1:=HZ.out.grow (Grow.of g1) (λe=>HZR.out (Option.some.inj e).symm)
 have c1:=hz1.cell1
 have K2:=Lz (C2.out w1 r1 (g1.cell HE.out.1 (λhh=>HE.out.2 (Option.some.inj hh).symm)))
 have HZ1:=Lz hz1
 have G1:=Lz g1
 clear g1 r1 hz1 C1
 go_wp2_with fail
 refine K2.out.mono ?_
 rintro e w2 ⟨⟨b,ds,rfl,hb,hnu,g2⟩,r2⟩
 have hz2:=HZ1.out.grow (Grow.of g2) (λe=>HZR.out (Option.some.inj e).symm)
 have c2:=hz2.cell1
 have c20:=hz2.cell0
 have f21:=hz2.free 1
 have f20:=hz2.free 0
 have HF:=Lz (show IScan V N rb z s w (.returned (.tuple #[ptr z,.int .i64 16,.nilIface])) ((w2.setCell ⟨z,1,.none⟩ (.slice (some ⟨b,0,.none⟩) (dg V).length ds.length)).setCell ⟨z,0,.none⟩ (.bool false)) from⟨rfl,b,ds,w2,G1.out.trans g2,Nat.le_trans G1.out.size hb,hnu,r2,rfl⟩)
 unfold ptr at HF
 have hlp:0<(dg V).length:=zyw (by have:=HV.out;omega)
 obtain⟨l,hl⟩:∃ l,l=(dg V).length:=⟨_,rfl⟩
 rw[<-hl] at HF hlp ⊢
 clear hb hnu g2 r2 hz2 K2 c1 hl
 go_wp2_with fail
 simp[bodyPost,results,Tryz.results223,go_sem]
 exact HF.out
theorem fromScanner (cs:List Nat) (rb:Nat) (ae:Addr) (z:Nat) (s:ByteArray) (pv:Int) (w:World) (hz:StrB w z false .none 0 0) (hzr:z≠rb) (h:Rd w rb s 0 pv) (hs:Str s cs) (hl:cs.length<=200) (h0:0<cs.length) (hx:∀ i,i<cs.length->HexC (cs.getD i 0)) (hV:0<hexN cs) (he:w.cell? ⟨2,0,.none⟩=some (eofV ae)) (hb:rb≠2) (hz2:z≠2) :
 Calls Tryz.prog 185 #[ptr z,.iface 242 (ptr rb),.int .i64 16] w (λe w'=>e=.returned (.tuple #[ptr z,.bool true])/\∃ w1,IScan (hexN cs) cs.length rb z s w (.returned (.tuple #[ptr z,.int .i64 16,.nilIface])) w1/\Rd w1 rb s cs.length (-1)/\w1.grownBy w' (some rb)):=by
 have C1:=Lz (scanI cs rb ae z s pv w hz hzr h hs hl h0 hx hV he hb)
 have HX:=Lz (And.intro hs (And.intro hl (And.intro he (And.intro hb (And.intro hzr hz2)))))
 have m1:=method_rb ⟨rb,0,.none⟩
 have m2:=ahead_rb ⟨rb,0,.none⟩
 have hne:=neq_eof ae
 clear hz hzr h hs hl h0 hx hV he hb hz2
 unfold ptr at *
 go_enter Tryz.func185,Tryz.ntmps185
 go_wp2_with fail
 refine C1.out.mono ?_
 rintro e w1 hi
 obtain⟨rfl,b,ds,w4,g4,hb4,hnu,r4,hw1⟩:=id hi
 have hr1:Rd w1 rb s cs.length (-1):=by
  rw[hw1]
  exact(r4.kept (zzw w4 z 1 _) (λhh=>HX.out.2.2.2.2.1 (Option.some.inj hh).symm)).kept (zzw _ z 0 _) (λhh=>HX.out.2.2.2.2.1 (Option.some.inj hh).symm)
 have he1:w1.cell? ⟨2,0,.none⟩=some (eofV ae):=by
  rw[hw1]
  exact(zzw _ z 0 _).cell ((zzw w4 z 1 _).cell (g4.cell HX.out.2.2.1 (λhh=>HX.out.2.2.2.1 (Option.some.inj hh).symm)) (λhh=>HX.out.2.2.2.2.2 (Option.some.inj hh).symm)) (λhh=>HX.out.2.2.2.2.2 (Option.some.inj hh).symm)
 have hr2:Rd w1 rb s s.size (-1):=by rw[HX.out.1.1];exact hr1
 have K2:=Lz (readEOF rb s (-1) w1 (eofV ae) hr2 he1 HX.out.2.2.2.1)
 have HI:=Lz (And.intro hi hr1)
 have HE1:=Lz he1
 clear hi g4 hb4 hnu r4 hw1 hr1 hr2 he1 C1
 go_wp2_with fail
 refine K2.out.mono ?_
 rintro e w2 ⟨rfl,g2,-⟩
 have he2:w2.cell? ⟨2,0,.none⟩=some (.iface 216 (.pointer (some ae))):=g2.cell HE1.out (λhh=>HX.out.2.2.2.1 (Option.some.inj hh).symm)
 have HG:=Lz g2
 clear g2 K2
 unfold eofV
 go_wp2_with fail
 have HF:=Lz (And.intro HI.out.1 (And.intro HI.out.2 HG.out))
 simp[bodyPost,results,Tryz.results185,go_sem]
 exact⟨w1,HF.out⟩
end Go.Proofs.YtohhkjamddojmaaGreatDoor.Big

set_option maxRecDepth 100000
set_option maxHeartbeats 16000000
namespace Go.Proofs.YtohhkjamddojmaaGreatDoor.Big
open Go.RowKit
attribute [local go_sem] ptr
theorem newReaderB (s:ByteArray) (w:World):Calls Tryz.prog 186 #[.string s] w (λe w'=>e=.returned (ptr w.heap.size)/\w'=w.alloc (.cells #[.string s,.int .i64 0,.int .i64 (-1)] 280)):=by
 unfold ptr
 go_enter Tryz.func186,Tryz.ntmps186
 go_wp2_with fail
 go_ret
 exact⟨rfl,rfl⟩
section
variable {R : Nat → Prop} {w0 w : World} {L : List (Nat × Int)}
theorem setStringO (h:Own R w0 w L) (cs:List Nat) (s:ByteArray) (ae:Addr) (hs:Str s cs) (hl:cs.length<=200) (h0:0<cs.length) (hx:∀ i,i<cs.length->HexC (cs.getD i 0)) (hV:0<hexN cs) (he:w.cell? ⟨2,0,.none⟩=some (eofV ae)) :
 Calls Tryz.prog 165 #[ptr w.heap.size,.string s,.int .i64 16] (w.alloc (.cells #[.bool false,.slice .none 0 0] 172)) (λe w'=>e=.returned (.tuple #[ptr w.heap.size,.bool true])/\Own R w0 w' ((w.heap.size,((hexN cs:Nat):Int)) :: L)/\¬R w.heap.size):=by
 obtain⟨hN,hR⟩:=h.new
 have hz:StrB (w.alloc (.cells #[.bool false,.slice .none 0 0] 172)) w.heap.size false .none 0 0:=heap_alloc_new w _
 have hsz:(w.alloc (.cells #[.bool false,.slice .none 0 0] 172)).heap.size=w.heap.size+1:=Array.size_push _
 have he1:=(zzy w (.cells #[.bool false,.slice .none 0 0] 172) .none).cell he (by simp)
 have h8:∀ k,¬R k->k≠2:=λk hk e=>hk (by rw[e];exact h.low 2 (by omega))
 have hRr:¬R (w.heap.size+1):=λe=>by have:=hN.old e;omega
 generalize hwz:w.alloc (.cells #[.bool false,.slice .none 0 0] 172)=wz at *
 generalize hzz:w.heap.size=z at *
 have HRB:=Lz (show Rd (wz.alloc (.cells #[.string s,.int .i64 0,.int .i64 (-1)] 280)) wz.heap.size s 0 (-1) from heap_alloc_new wz _)
 have hga:=zzy wz (.cells #[.string s,.int .i64 0,.int .i64 (-1)] 280) .none
 have C0:=Lz (newReaderB s wz)
 have C1:=Lz (fromScanner cs wz.heap.size ae z s (-1) (wz.alloc (.cells #[.string s,.int .i64 0,.int .i64 (-1)] 280)) (hz.grow (Grow.of hga) (λe=>by cases e)) (by omega) HRB.out hs hl h0 hx hV (hga.cell he1 (by simp)) (by rw[hsz];exact h8 _ hRr) (h8 _ hR))
 have HFIN:=Lz (show ∀ w1 w',IScan (hexN cs) cs.length wz.heap.size z s (wz.alloc (.cells #[.string s,.int .i64 0,.int .i64 (-1)] 280)) (.returned (.tuple #[ptr z,.int .i64 16,.nilIface])) w1->Rd w1 wz.heap.size s cs.length (-1)->w1.grownBy w' (some wz.heap.size)->Own R w0 w' ((z,((hexN cs:Nat):Int)) :: L) from λw1 w' hi hr hg=>by
  obtain⟨-,b,ds,w4,g4,hb4,hnu,-,hw1⟩:=hi
  obtain⟨ps,qs,hf⟩:=hN.ints
  obtain⟨v,p,q,hv,hp,hq,oz⟩:=hf.at (i:=0) (z:=z) rfl
  obtain rfl:(0:Int)=v:=Option.some.inj hv
  have hst:=oz.str
  unfold StrB at hst hz
  rw[hz] at hst
  have hst:=Option.some.inj hst
  injection hst with e1 e2 e3
  have e1:=congrArg Array.toList e1
  simp at e1
  obtain⟨rfl,-,-⟩:=e1
  have hgz:wz.grownBy w4 .none:=grown_on hga g4 (Nat.le_refl _)
  have ha:zxy wz z .none false (hexN cs) (w4.setCell ⟨z,1,.none⟩ (.slice (some ⟨b,0,.none⟩) (dg (hexN cs)).length ds.length)):=zxy.of (l:=0) (c:=0) hz (by simp[blk]) (zyz _ _) hnu hgz (.inr (λc hc=>by have e:b=c:=Option.some.inj hc;have h1:=hga.size;omega))
  obtain⟨hI,hK⟩:=ha.finish hf (i:=0) (b:=false) (v:=((hexN cs:Nat):Int)) rfl hp hR (by simp) (by simp)
  have hO:Own R w0 w1 ((z,((hexN cs:Nat):Int)) :: L):=by
   rw[hw1]
   exact hN.step hI hK rfl rfl
  refine hO.pokeNB (c:=wz.heap.size) hr (by decide) (by decide) (by rw[hsz];exact hRr) hg)
 have HR:=Lz hR
 clear h hN hz hsz he1 h8 hRr hga hs hl h0 hx hV he HRB
 unfold ptr at *
 go_enter Tryz.func165,Tryz.ntmps165
 go_wp2_with fail
 refine C0.out.mono ?_
 rintro e w1 ⟨rfl,rfl⟩
 go_wp2_with fail
 refine C1.out.mono ?_
 rintro e w2 ⟨rfl,w3,x1,x2,x3⟩
 have HO:=Lz (HFIN.out _ _ x1 x2 x3)
 clear x1 x2 x3 C1
 go_wp2_with fail
 simp[bodyPost,results,Tryz.results165,go_sem]
 exact⟨HO.out,HR.out⟩
end
end Go.Proofs.YtohhkjamddojmaaGreatDoor.Big
