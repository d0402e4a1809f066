/- 'set', 'alias', 'cmp' of natural numbers. -/
import Derived.Test.YtohhkjamddojmaaGreatDoorWD
import Derived.IntWalk
import Derived.LaidEql
set_option maxHeartbeats 16000000
namespace Go.Proofs.YtohhkjamddojmaaGreatDoor.Big
open Go.RowKit
theorem nat_set (p q:Option Addr) (l:Nat) (cs X ds:List Nat) (w:World) (h:Buf w p cs) (hx:Num w q X ds) (hX:X.length<=80000) :
 Calls Tryz.prog 169 #[.slice p l cs.length,.slice q X.length ds.length] w (NumP p X w):=by
 have hle:=hx.le
 have H:=Lz h
 clear h
 go_enter Tryz.func169,Tryz.ntmps169
 go_wp2_with fail
 refine(nat_make p l X.length cs w H.out (by omega)).mono ?_
 rintro e w1 ⟨p',cs',rfl,hb,hn,hg,hor⟩
 have hx1:Num w1 q X ds:=hx.kept hg (λ_ _=>by simp)
 rcases Nat.eq_zero_or_pos X.length with h0|h0
 . obtain rfl:X = []:=List.eq_nil_of_length_eq_zero h0
   have hcp:=λty=>run_copy_none (P:=Tryz.prog) w1 170 170 ty 199 p' q 0 cs'.length 0 ds.length Tryz.underlying170 (by kernel_rfl) rfl
   have HB:=Lz hb
   have HG:=Lz hg
   have HO:=Lz hor
   clear hb hg hor hx1 h0
   go_wp2_with fail
   go_ret
   exact⟨p',cs',rfl,⟨HB.out,rfl,Nat.zero_le _⟩,zwz HG.out _,MakeP.or HO.out⟩
 . obtain⟨bx,rfl,hNx,hcx⟩:=hx1.cell h0
   obtain⟨bz,rfl,hNz⟩:=hb.at (by omega)
   obtain⟨w2,hrun,hN2,hG2⟩:=copy_words w1 bz 0 X.length cs'.length bx 0 X.length ds.length X.length cs' X hNz (λi hi=>by rw[Nat.zero_add];exact hcx i hi) (by simp) rfl (by omega) 170 Tryz.underlying170
   have HB:=Lz hb
   have HG:=Lz hg
   have HO:=Lz hor
   have HC:=Lz hcx
   have HN2:=Lz hN2
   have HG2:=Lz hG2
   have HX1:=Lz hx1
   clear hb hg hor hx1 hcx hN2 hG2 hNx hNz
   go_wp2_with fail
   go_ret
   have hsz:(spl cs' 0 X).length=cs'.length:=zzk (by omega)
   refine⟨some ⟨bz,0,.none⟩,spl cs' 0 X,by rw[hsz];rfl,⟨⟨.inr ⟨bz,rfl,HN2.out⟩,HB.out.2.1.spl HX1.out.words,by rw[hsz];exact HB.out.2.2⟩,spl_zero (by omega),by rw[hsz];exact hn⟩,?_,MakeP.or HO.out⟩
   exact grown_or (zwz HG.out _) (p':=some ⟨bz,0,.none⟩) HG2.out (MakeP.or HO.out)
/-! ### '==' of pointers -/
theorem eql_ptr_same {P:Program} {t e:TypeId} {j:TypeInfo} (w:World) (a:Addr) (ht:P.underlying t=some (.pointer e)) (hj:P.info? e=some j) :
 (binOp .eql t (.pointer (some a)) (.pointer (some a))).run P w=.ok (.bool true) w:=by
 have h:∀ d:Nat,(Op.equalIn (d+1) t (.pointer (some a)) (.pointer (some a))).run P w=.ok true w:=λd=>by
  by_cases h0:j.size=0
  . simp[Op.equalIn,run_underlying ht,sizeOf,typeInfo,hj,h0]
  . simp[Op.equalIn,run_underlying ht,sizeOf,typeInfo,hj,run_sameAddr_same]
 simp only[binOp]
 simp[Op.equal,Op.maxDepth,h 9999]
theorem eql_ptr_other {P:Program} {t e:TypeId} {j:TypeInfo} {w:World} {a b:Addr} {ca cb:Array Value} {ta tb:TypeId} (ht:P.underlying t=some (.pointer e)) (hj:P.info? e=some j) (hs:j.size≠0)
 (hne:a≠b) (ha:w.heap[a.block]? = some (.cells ca ta (0,0))) (hb:w.heap[b.block]? = some (.cells cb tb (0,0))) :
 (binOp .eql t (.pointer (some a)) (.pointer (some b))).run P w=.ok (.bool false) w:=by
 have h:∀ d:Nat,(Op.equalIn (d+1) t (.pointer (some a)) (.pointer (some b))).run P w=.ok false w:=λd=>by
  simp[Op.equalIn,run_underlying ht,sizeOf,typeInfo,hj,run_sameAddr_other w hne ha hb,hs]
 simp only[binOp]
 simp[Op.equal,Op.maxDepth,h 9999]
theorem under233:Tryz.prog.underlying 233=some (.pointer 199):=by kernel_rfl
/-! ### 'alias' -/
theorem alias_x0 (p q:Option Addr) (lx ly c:Nat) (w:World):Calls Tryz.prog 156 #[.slice p lx 0,.slice q ly c] w λe w'=>e=.returned (.bool false)/\∃ n,w'=w.drewN n:=by
 go_enter Tryz.func156,Tryz.ntmps156
 go_wp2_with fail
 go_quiet (fail)
 go_wp2_with fail
 go_ret
 exact⟨rfl,_,rfl⟩
theorem alias_y0 (p q:Option Addr) (lx ly c:Nat) (hc:0<c) (w:World):Calls Tryz.prog 156 #[.slice p lx c,.slice q ly 0] w λe w'=>e=.returned (.bool false)/\∃ n,w'=w.drewN n:=by
 go_enter Tryz.func156,Tryz.ntmps156
 go_wp2_with fail
 go_quiet (fail)
 go_wp2_with fail
 go_ret
 exact⟨rfl,_,rfl⟩
theorem alias_yes (b lx ly c:Nat) (hc:0<c) (hm:c<=9223372036854775807) (w:World):Calls Tryz.prog 156 #[.slice (some ⟨b,0,.none⟩) lx c,.slice (some ⟨b,0,.none⟩) ly c] w λe w'=>e=.returned (.bool true)/\∃ n,w'=w.drewN n:=by
 have wc:IntKind.i64.wrap ((c:Int)-1)=(c:Int)-1:=IntWalk.i64_in _ (by omega)
 have nc:0<=(c:Int)-1:=by omega
 have oc:1<=(c:Int):=by omega
 have lc:(c:Int)-1<(c:Int):=by omega
 have tc:((c:Int)-1).toNat=c-1:=by omega
 obtain⟨j,hj,_⟩:=info_parts info199
 have he:∀ w:World,(binOp .eql 233 (.pointer (some ⟨b,c-1,.none⟩)) (.pointer (some ⟨b,c-1,.none⟩))).run Tryz.prog w=.ok (.bool true) w:=λw=>eql_ptr_same w _ under233 hj
 go_enter Tryz.func156,Tryz.ntmps156
 go_wp2_with fail
 go_quiet (fail)
 go_wp2_with fail
 go_ret
 exact⟨rfl,_,rfl⟩
theorem alias_no (b b2 lx ly c c2:Nat) (hc:0<c) (hm:c<=9223372036854775807) (hc2:0<c2) (hm2:c2<=9223372036854775807) (hne:b≠b2) (w:World) (cs ds:List Nat) (hN:NatB w b cs) (hN2:NatB w b2 ds):Calls Tryz.prog 156 #[.slice (some ⟨b,0,.none⟩) lx c,.slice (some ⟨b2,0,.none⟩) ly c2] w λe w'=>e=.returned (.bool false)/\∃ n,w'=w.drewN n:=by
 have wc:IntKind.i64.wrap ((c:Int)-1)=(c:Int)-1:=IntWalk.i64_in _ (by omega)
 have nc:0<=(c:Int)-1:=by omega
 have oc:1<=(c:Int):=by omega
 have lc:(c:Int)-1<(c:Int):=by omega
 have tc:((c:Int)-1).toNat=c-1:=by omega
 have wc2:IntKind.i64.wrap ((c2:Int)-1)=(c2:Int)-1:=IntWalk.i64_in _ (by omega)
 have nc2:0<=(c2:Int)-1:=by omega
 have oc2:1<=(c2:Int):=by omega
 have lc2:(c2:Int)-1<(c2:Int):=by omega
 have tc2:((c2:Int)-1).toNat=c2-1:=by omega
 obtain⟨j,hj,_,hj2,_⟩:=info_parts info199
 have he:∀ n:Nat,(binOp .eql 233 (.pointer (some ⟨b,c-1,.none⟩)) (.pointer (some ⟨b2,c2-1,.none⟩))).run Tryz.prog (w.drewN n)=.ok (.bool false) (w.drewN n):=λn=>eql_ptr_other (w:=w.drewN n) under233 hj (by rw[hj2];decide) (by intro e;simp only[Addr.mk.injEq] at e;exact hne e.1) (hN.drewN n) (hN2.drewN n)
 clear hN hN2
 go_enter Tryz.func156,Tryz.ntmps156
 go_wp2_with fail
 go_quiet (fail)
 go_wp2_with fail
 go_ret
 exact⟨rfl,_,rfl⟩
end Go.Proofs.YtohhkjamddojmaaGreatDoor.Big
