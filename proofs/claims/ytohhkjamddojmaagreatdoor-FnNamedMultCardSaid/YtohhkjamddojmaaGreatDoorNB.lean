/- Memory from the stack. Memory from the inner stack. The stack: saved, taken from, restored. Long division: two digits compared; rows laid over rows. Rows shifted to the right, in place: rshVU. -/
import Derived.Test.YtohhkjamddojmaaGreatDoorKC
import Derived.Test.YtohhkjamddojmaaGreatDoorNA
import Derived.Lib.AppendZerosOnto
import Derived.Test.YtohhkjamddojmaaGreatDoorLA
set_option maxRecDepth 100000
set_option maxHeartbeats 16000000
namespace Go.Proofs.YtohhkjamddojmaaGreatDoor.Big
open Go.RowKit
attribute [local go_sem] ptr
theorem zerosW (k n:Nat):Builtin.zeroCells (Value.int .u64 0).cells k++Builtin.zeroCells (Value.int .u64 0).cells n=wds (List.replicate (k+n) 0):=by
 apply Array.ext'
 simp[Builtin.zeroCells,wds,wd,Value.cells]
 have h:∀ m,List.map (λi=>[Value.int IntKind.u64 0][i%1]?.getD default) (List.range m)=List.replicate m (Value.int .u64 0):=λm=>by
  rw[List.eq_replicate_iff]
  refine⟨by simp,λx hx=>?_⟩
  obtain⟨i,-,rfl⟩:=List.mem_map.1 hx
  rw[Nat.mod_one]
  rfl
 rw[h,h,List.replicate_append_replicate]
theorem Words.set {zs:List Nat} (h:Words zs) {i v:Nat} (hv:v<B64):Words (zs.set i v):=λx hx=>by
 rcases List.mem_or_eq_of_mem_set hx with hx|rfl
 . exact h x hx
 . exact hv
theorem words_zeros (n:Nat):Words (List.replicate n 0):=λx hx=>by rw[List.eq_of_mem_replicate hx];exact zxw
def GrowP (n:Nat) (w:World) (e:Ending) (w':World):Prop:=
 ∃ (b:Nat) (zs:List Nat),n<=zs.length/\zs.length<=maxLen/\e=.returned (.slice (some ⟨b,0,.none⟩) 0 zs.length)/\NatB w' b zs/\w.heap.size<=b/\w.grownBy w' .none/\Words zs
def StkP (n:Nat) (w:World) (e:Ending) (w':World):Prop:=
 ∃ (b:Nat) (zs:List Nat),e=.returned (.slice (some ⟨b,0,.none⟩) n zs.length)/\NatB w' b zs/\n<=zs.length/\zs.length<=maxLen/\w.heap.size<=b/\w.grownBy w' .none/\Words zs
theorem grow2 (w:World):Calls Tryz.prog 231 #[.slice .none 0 0,.int .i64 2] w (GrowP 2 w):=by
 obtain⟨i0,hi,hz0,hz1,hz2⟩:=info_parts info199
 obtain⟨c,hc⟩:∃ c,c=grownCap w 2 0 199:=⟨_,rfl⟩
 have h1:2<=c:=by rw[hc];exact grownCap_ge w 2 0 199
 have h2:c<=maxLen:=by rw[hc];exact grownCap_le_maxLen w 2 0 199 (by decide)
 have HC:=Lz hc
 clear hc
 go_enter Tryz.func231,Tryz.ntmps231
 go_wp2_with fail
 go_ret
 have hz:Builtin.zeroCells (Value.int .u64 0).cells 2++Builtin.zeroCells (Value.int .u64 0).cells (c-2)=wds (List.replicate c 0):=by rw[zerosW];congr 2;omega
 have hN:NatB (w.drew.alloc (.cells (wds (List.replicate c 0)) 199)) w.heap.size (List.replicate c 0):=heap_alloc_new _ _
 have hG:w.grownBy (w.drew.alloc (.cells (wds (List.replicate c 0)) 199)) .none:=zzx (zzz w 1 _) (zzy _ _ _)
 rw[<-hz,HC.out] at hN hG
 have hl:(List.replicate c 0).length=c:=List.length_replicate
 refine⟨w.heap.size,List.replicate c 0,by rw[hl];exact h1,by rw[hl];exact h2,?_,?_,Nat.le_refl _,?_,words_zeros _⟩
 . rw[hl,HC.out];rfl
 . rw[HC.out];exact hN
 . exact hG
theorem stk2 (s:Nat) (w:World) (hs:w.cell? ⟨s,0,.none⟩=some (.pointer .none)):Calls Tryz.prog 209 #[.pointer (some ⟨s,0,.none⟩),.int .i64 2] w (StkP 2 w):=by
 have HG:=Lz (grow2 w)
 go_enter Tryz.func209,Tryz.ntmps209
 go_wp2_with fail
 refine HG.out.mono ?_
 rintro e w1 ⟨b,zs,h1,h2,rfl,hb,hbs,hg,hw⟩
 have hcm:zs.length<=9223372036854775807:=h2
 have hc0:=hb.cell 0 (by omega)
 have hf0:=hb.free 0
 have HS:=Lz (hb.set 0 11259375)
 have HSZ:=Lz (grown_new hg (zzw w1 b 0 (wd 11259375)) hbs)
 have HBS:=Lz hbs
 have HWS:=Lz (hw.set (i:=0) (v:=11259375) (by decide))
 have HMX:=Lz h2
 clear hb HG hg hbs h2 hw
 go_wp2_with fail
 go_ret
 refine⟨b,zs.set 0 11259375,?_,HS.out,by rw[List.length_set];exact h1,by rw[List.length_set];exact HMX.out,HBS.out,HSZ.out,HWS.out⟩
 rw[List.length_set]
 rfl
theorem grow3 (w:World):Calls Tryz.prog 231 #[.slice .none 0 0,.int .i64 3] w (GrowP 3 w):=by
 obtain⟨i0,hi,hz0,hz1,hz2⟩:=info_parts info199
 obtain⟨c,hc⟩:∃ c,c=grownCap w 3 0 199:=⟨_,rfl⟩
 have h1:3<=c:=by rw[hc];exact grownCap_ge w 3 0 199
 have h2:c<=maxLen:=by rw[hc];exact grownCap_le_maxLen w 3 0 199 (by decide)
 have HC:=Lz hc
 clear hc
 go_enter Tryz.func231,Tryz.ntmps231
 go_wp2_with fail
 go_ret
 have hz:Builtin.zeroCells (Value.int .u64 0).cells 3++Builtin.zeroCells (Value.int .u64 0).cells (c-3)=wds (List.replicate c 0):=by rw[zerosW];congr 2;omega
 have hN:NatB (w.drew.alloc (.cells (wds (List.replicate c 0)) 199)) w.heap.size (List.replicate c 0):=heap_alloc_new _ _
 have hG:w.grownBy (w.drew.alloc (.cells (wds (List.replicate c 0)) 199)) .none:=zzx (zzz w 1 _) (zzy _ _ _)
 rw[<-hz,HC.out] at hN hG
 have hl:(List.replicate c 0).length=c:=List.length_replicate
 refine⟨w.heap.size,List.replicate c 0,by rw[hl];exact h1,by rw[hl];exact h2,?_,?_,Nat.le_refl _,?_,words_zeros _⟩
 . rw[hl,HC.out];rfl
 . rw[HC.out];exact hN
 . exact hG
theorem stk3 (s:Nat) (w:World) (hs:w.cell? ⟨s,0,.none⟩=some (.pointer .none)):Calls Tryz.prog 209 #[.pointer (some ⟨s,0,.none⟩),.int .i64 3] w (StkP 3 w):=by
 have HG:=Lz (grow3 w)
 go_enter Tryz.func209,Tryz.ntmps209
 go_wp2_with fail
 refine HG.out.mono ?_
 rintro e w1 ⟨b,zs,h1,h2,rfl,hb,hbs,hg,hw⟩
 have hcm:zs.length<=9223372036854775807:=h2
 have hc0:=hb.cell 0 (by omega)
 have hf0:=hb.free 0
 have HS:=Lz (hb.set 0 11259375)
 have HSZ:=Lz (grown_new hg (zzw w1 b 0 (wd 11259375)) hbs)
 have HBS:=Lz hbs
 have HWS:=Lz (hw.set (i:=0) (v:=11259375) (by decide))
 have HMX:=Lz h2
 clear hb HG hg hbs h2 hw
 go_wp2_with fail
 go_ret
 refine⟨b,zs.set 0 11259375,?_,HS.out,by rw[List.length_set];exact h1,by rw[List.length_set];exact HMX.out,HBS.out,HSZ.out,HWS.out⟩
 rw[List.length_set]
 rfl
theorem grow4 (w:World):Calls Tryz.prog 231 #[.slice .none 0 0,.int .i64 4] w (GrowP 4 w):=by
 obtain⟨i0,hi,hz0,hz1,hz2⟩:=info_parts info199
 obtain⟨c,hc⟩:∃ c,c=grownCap w 4 0 199:=⟨_,rfl⟩
 have h1:4<=c:=by rw[hc];exact grownCap_ge w 4 0 199
 have h2:c<=maxLen:=by rw[hc];exact grownCap_le_maxLen w 4 0 199 (by decide)
 have HC:=Lz hc
 clear hc
 go_enter Tryz.func231,Tryz.ntmps231
 go_wp2_with fail
 go_ret
 have hz:Builtin.zeroCells (Value.int .u64 0).cells 4++Builtin.zeroCells (Value.int .u64 0).cells (c-4)=wds (List.replicate c 0):=by rw[zerosW];congr 2;omega
 have hN:NatB (w.drew.alloc (.cells (wds (List.replicate c 0)) 199)) w.heap.size (List.replicate c 0):=heap_alloc_new _ _
 have hG:w.grownBy (w.drew.alloc (.cells (wds (List.replicate c 0)) 199)) .none:=zzx (zzz w 1 _) (zzy _ _ _)
 rw[<-hz,HC.out] at hN hG
 have hl:(List.replicate c 0).length=c:=List.length_replicate
 refine⟨w.heap.size,List.replicate c 0,by rw[hl];exact h1,by rw[hl];exact h2,?_,?_,Nat.le_refl _,?_,words_zeros _⟩
 . rw[hl,HC.out];rfl
 . rw[HC.out];exact hN
 . exact hG
theorem stk4 (s:Nat) (w:World) (hs:w.cell? ⟨s,0,.none⟩=some (.pointer .none)):Calls Tryz.prog 209 #[.pointer (some ⟨s,0,.none⟩),.int .i64 4] w (StkP 4 w):=by
 have HG:=Lz (grow4 w)
 go_enter Tryz.func209,Tryz.ntmps209
 go_wp2_with fail
 refine HG.out.mono ?_
 rintro e w1 ⟨b,zs,h1,h2,rfl,hb,hbs,hg,hw⟩
 have hcm:zs.length<=9223372036854775807:=h2
 have hc0:=hb.cell 0 (by omega)
 have hf0:=hb.free 0
 have HS:=Lz (hb.set 0 11259375)
 have HSZ:=Lz (grown_new hg (zzw w1 b 0 (wd 11259375)) hbs)
 have HBS:=Lz hbs
 have HWS:=Lz (hw.set (i:=0) (v:=11259375) (by decide))
 have HMX:=Lz h2
 clear hb HG hg hbs h2 hw
 go_wp2_with fail
 go_ret
 refine⟨b,zs.set 0 11259375,?_,HS.out,by rw[List.length_set];exact h1,by rw[List.length_set];exact HMX.out,HBS.out,HSZ.out,HWS.out⟩
 rw[List.length_set]
 rfl
theorem growS8 (w:World):Calls Tryz.prog 255 #[.slice .none 0 0,.int .i64 8] w (GrowP 8 w):=by
 obtain⟨i0,hi,hz0,hz1,hz2⟩:=info_parts info199
 obtain⟨c,hc⟩:∃ c,c=grownCap w 8 0 199:=⟨_,rfl⟩
 have h1:8<=c:=by rw[hc];exact grownCap_ge w 8 0 199
 have h2:c<=maxLen:=by rw[hc];exact grownCap_le_maxLen w 8 0 199 (by decide)
 have HC:=Lz hc
 clear hc
 go_enter Tryz.func255,Tryz.ntmps255
 go_wp2_with fail
 go_ret
 have hz:Builtin.zeroCells (Value.int .u64 0).cells 8++Builtin.zeroCells (Value.int .u64 0).cells (c-8)=wds (List.replicate c 0):=by rw[zerosW];congr 2;omega
 have hN:NatB (w.drew.alloc (.cells (wds (List.replicate c 0)) 199)) w.heap.size (List.replicate c 0):=heap_alloc_new _ _
 have hG:w.grownBy (w.drew.alloc (.cells (wds (List.replicate c 0)) 199)) .none:=zzx (zzz w 1 _) (zzy _ _ _)
 rw[<-hz,HC.out] at hN hG
 have hl:(List.replicate c 0).length=c:=List.length_replicate
 refine⟨w.heap.size,List.replicate c 0,by rw[hl];exact h1,by rw[hl];exact h2,?_,?_,Nat.le_refl _,?_,words_zeros _⟩
 . rw[hl,HC.out];rfl
 . rw[HC.out];exact hN
 . exact hG
end Go.Proofs.YtohhkjamddojmaaGreatDoor.Big

set_option maxRecDepth 100000
set_option maxHeartbeats 16000000
namespace Go.Proofs.YtohhkjamddojmaaGreatDoor.Big
open Go.RowKit
attribute [local go_sem] ptr
theorem zwx {w:World} {b k:Nat} {cs:Array Value} {T:TypeId} {v:Value} (h:w.heap[b]? = some (.cells cs T)) (hk:cs[k]? = some v):w.cell? ⟨b,k,.none⟩=some v:=by
 unfold World.cell?
 rw[h]
 exact hk
theorem one_cell_set {w:World} {b:Nat} {v v':Value} {T:TypeId} (h:w.heap[b]? = some (.cells #[v] T)):(w.setCell ⟨b,0,.none⟩ v').heap[b]? = some (.cells #[v'] T):=by
 simp only[World.setCell,Array.getElem?_modify,if_true];rw[h];simp
theorem grown_on {w w1 w2:World} {b:Nat} {row:Option Nat} (h1:w.grownBy w1 row) (h2:w1.grownBy w2 (some b)) (hb:w.heap.size<=b):w.grownBy w2 row:=
 ⟨h2.os.trans h1.os,h2.tape.trans h1.tape,h2.output.trans h1.output,Nat.le_trans h1.size h2.size,λk hk hr=>(h2.block k (Nat.lt_of_lt_of_le hk h1.size) (by intro e;cases e;omega)).trans (h1.block k hk hr)⟩
theorem inner5 (si:Nat) (w:World) (hs:w.heap[si]? = some (.cells #[.slice .none 0 0] 289)) :
 Calls Tryz.prog 232 #[.pointer (some ⟨si,0,.none⟩),.int .i64 5] w (λe w'=>∃ (b:Nat) (zs:List Nat),e=.returned (.slice (some ⟨b,0,.none⟩) 5 5)/\NatB w' b zs/\8<=zs.length/\zs.length<=maxLen/\w.heap.size<=b/\w.grownBy w' (some si)/\w'.heap[si]? = some (.cells #[.slice (some ⟨b,0,.none⟩) 8 zs.length] 289)/\Words zs):=by
 have c0:=(zwx (k:=0) hs rfl:w.cell? ⟨si,0,.none⟩=some (.slice .none 0 0))
 have hlt:=(Array.getElem?_eq_some_iff.1 hs).1
 have HS:=Lz hs
 have HG:=Lz (growS8 w)
 have e8:bits .andNot .i64 8 3=8:=by decide
 clear hs
 go_enter Tryz.func232,Tryz.ntmps232
 go_wp2_with fail
 refine HG.out.mono ?_
 rintro e w1 ⟨b,zs,h1,h2,rfl,hb,hbs,hg,hw⟩
 have hcm:zs.length<=9223372036854775807:=h2
 have hcI:(8:Int)<=zs.length:=by omega
 have hsi:w1.heap[si]? = some (.cells #[.slice .none 0 0] 289):=(hg.block si hlt (by simp)).trans HS.out
 have f0:w1.frozen? ⟨si,0,.none⟩=false:=by simp[World.frozen?,hsi]
 have c1:w1.cell? ⟨si,0,.none⟩=some (.slice .none 0 0):=zwx (k:=0) hsi rfl
 have hne:b≠si:=by omega
 have hne2:si≠b:=by omega
 have HB:=Lz (And.intro hb (And.intro hbs hg))
 have HSI:=Lz hsi
 have H12:=Lz (And.intro h1 h2)
 have HWS:=Lz (hw.set (i:=0) (v:=1043915) (by decide))
 have hc0:=hb.cell 0 (by omega)
 have hf0:=hb.free 0
 clear hb HG hg hbs h2 hsi h1 hw
 go_wp2_with fail
 go_ret
 obtain⟨hb,hbs,hg⟩:=HB.out
 have k1:=hb.kept (zzw w1 si 0 (.slice (some ⟨b,0,.none⟩) 0 zs.length)) (λe=>hne (Option.some.inj e))
 have k2:=(k1.kept (zzw _ si 0 (.slice (some ⟨b,0,.none⟩) 8 zs.length)) (λe=>hne (Option.some.inj e))).set 0 1043915
 have s2:=one_cell_set (v':=.slice (some ⟨b,0,.none⟩) 8 zs.length) (one_cell_set (v':=.slice (some ⟨b,0,.none⟩) 0 zs.length) HSI.out)
 have hsz:si<((w1.setCell ⟨si,0,.none⟩ (.slice (some ⟨b,0,.none⟩) 0 zs.length)).setCell ⟨si,0,.none⟩ (.slice (some ⟨b,0,.none⟩) 8 zs.length)).heap.size:=(Array.getElem?_eq_some_iff.1 s2).1
 refine⟨b,zs.set 0 1043915,rfl,k2,by rw[List.length_set];exact H12.out.1,by rw[List.length_set];exact H12.out.2,hbs,?_,?_,HWS.out⟩
 . exact grown_on (zzx (zzx (zwz hg _) (zzw _ _ _ _)) (zzw _ _ _ _)) (zzw _ _ _ _) hbs
 . rw[List.length_set]
   exact((zzw _ b 0 _).block si hsz (by intro e;exact hne (Option.some.inj e).symm)).trans s2
def StkQ (s:Nat) (w:World) (e:Ending) (w':World):Prop:=
 ∃ (b si:Nat) (zs:List Nat),e=.returned (.slice (some ⟨b,0,.none⟩) 5 5)/\NatB w' b zs/\8<=zs.length/\zs.length<=maxLen/\w.heap.size<=b/\w.heap.size<=si/\si≠b/\w.grownBy w' (some s) ∧
  w'.heap[s]? = some (.cells #[.pointer (some ⟨si,0,.none⟩)] 285)/\w'.heap[si]? = some (.cells #[.slice (some ⟨b,0,.none⟩) 8 zs.length] 289)/\Words zs
theorem stk5 (s:Nat) (w:World) (hs:w.heap[s]? = some (.cells #[.pointer .none] 285)):Calls Tryz.prog 209 #[.pointer (some ⟨s,0,.none⟩),.int .i64 5] w (StkQ s w):=by
 have c0:=(zwx (k:=0) hs rfl:w.cell? ⟨s,0,.none⟩=some (.pointer .none))
 have hlt:=(Array.getElem?_eq_some_iff.1 hs).1
 have hne:s≠w.heap.size:=by omega
 have hsz:(w.setCell ⟨s,0,.none⟩ (.pointer (some ⟨w.heap.size,0,.none⟩))).heap.size=w.heap.size:=by simp[World.setCell]
 have n0:=heap_alloc_new (w.setCell ⟨s,0,.none⟩ (.pointer (some ⟨w.heap.size,0,.none⟩))) (.cells #[.slice .none 0 0] 289)
 rw[hsz] at n0
 have f0:w.frozen? ⟨s,0,.none⟩=false:=by simp[World.frozen?,hs]
 have sP:=((zzy (w.setCell ⟨s,0,.none⟩ (.pointer (some ⟨w.heap.size,0,.none⟩))) (.cells #[.slice .none 0 0] 289) .none).block s (by omega) (by simp)).trans (one_cell_set (v':=.pointer (some ⟨w.heap.size,0,.none⟩)) hs)
 have HI:=Lz (inner5 w.heap.size _ n0)
 have HS:=Lz (And.intro sP (And.intro n0 (And.intro hlt (show w.grownBy ((w.setCell ⟨s,0,.none⟩ (.pointer (some ⟨w.heap.size,0,.none⟩))).alloc (.cells #[.slice .none 0 0] 289)) (some s) from zzx (zzw _ _ _ _) (zzy _ _ _)))))
 have hszA:((w.setCell ⟨s,0,.none⟩ (.pointer (some ⟨w.heap.size,0,.none⟩))).alloc (.cells #[.slice .none 0 0] 289)).heap.size=w.heap.size+1:=(show _=(w.setCell ⟨s,0,.none⟩ (.pointer (some ⟨w.heap.size,0,.none⟩))).heap.size+1 from Array.size_push _).trans (congrArg (· + 1) hsz)
 have HSZ:=Lz hszA
 clear hs n0 sP hsz hszA
 go_enter Tryz.func209,Tryz.ntmps209
 go_wp2_with fail
 refine HI.out.mono ?_
 rintro e w1 ⟨b,zs,rfl,h1,h2,h3,h4,h5,h6,h7⟩
 have HF:=Lz (And.intro h1 (And.intro h2 (And.intro h3 (And.intro h4 (And.intro h5 (And.intro h6 h7))))))
 clear h1 h2 h3 h4 h5 h6 h7 HI
 go_wp2_with fail
 go_ret
 obtain⟨h1,h2,h3,h4,h5,h6,h7⟩:=HF.out
 obtain⟨k1,k2,k3,k4⟩:=HS.out
 have hz:=HSZ.out
 rw[hz] at h4
 refine⟨b,w.heap.size,zs,rfl,h1,h2,h3,by omega,Nat.le_refl _,by omega,grown_on k4 h5 (Nat.le_refl _),?_,h6,h7⟩
 exact(h5.block s (by omega) (by intro e;have:=Option.some.inj e;omega)).trans k1
end Go.Proofs.YtohhkjamddojmaaGreatDoor.Big

set_option maxHeartbeats 16000000
namespace Go.Proofs.YtohhkjamddojmaaGreatDoor.Big
open Go.RowKit
attribute [local go_sem] ptr
def TS (N:Nat) (w:World) (k:Nat):Prop:=N<=k/\∃ v T,w.heap[k]? = some (.cells #[v] T)/\(T=285\/T=289)
def StkZ (N s:Nat) (w:World):Prop:=N<=s/\w.heap[s]? = some (.cells #[.pointer .none] 285)
def Stk (N s:Nat) (w:World):Prop:=StkZ N s w\/∃ si b l c:Nat,N<=s/\N<=si/\w.heap[s]? = some (.cells #[.pointer (some ⟨si,0,.none⟩)] 285)/\w.heap[si]? = some (.cells #[.slice (some ⟨b,0,.none⟩) l c] 289)/\l<=c/\c<=maxLen
theorem TS.trans {N:Nat} {a b c:World} (h:Grow a b (TS N a)) (k:Grow b c (TS N b)):Grow a c (TS N a):=
 ⟨k.os.trans h.os,k.tape.trans h.tape,k.output.trans h.output,Nat.le_trans h.size k.size,λi hi hr=>by
  have e:=h.block i hi hr
  refine(k.block i (Nat.lt_of_lt_of_le hi h.size) (λ⟨h1,v,T,h2,h3⟩=>hr ⟨h1,v,T,?_,h3⟩)).trans e
  rw[<-e];exact h2⟩
theorem TS.row {N b:Nat} {w:World} {zs:List Nat} (h:NatB w b zs):¬TS N w b:=by
 rintro⟨-,v,T,h1,h2⟩
 unfold NatB at h
 rw[h] at h1
 have:=Option.some.inj h1
 rw[Obj.cells.injEq] at this
 obtain⟨-,rfl,-⟩:=this
 rcases h2 with h2|h2 <;> exact absurd h2 (by decide)
theorem NatB.stk {N b:Nat} {w w':World} {zs:List Nat} (h:NatB w b zs) (hg:Grow w w' (TS N w)):NatB w' b zs:=h.grow hg (TS.row h)
theorem StkZ.kept {N s:Nat} {w w':World} {S:Nat->Prop} (h:StkZ N s w) (hg:Grow w w' S) (hS:∀ k,S k->¬TS N w k):StkZ N s w':=by
 refine⟨h.1,(hg.block s (Array.getElem?_eq_some_iff.1 h.2).1 (λe=>hS s e ⟨h.1,_,_,h.2,.inl rfl⟩)).trans h.2⟩
theorem Stk.kept {N s:Nat} {w w':World} {S:Nat->Prop} (h:Stk N s w) (hg:Grow w w' S) (hS:∀ k,S k->¬TS N w k):Stk N s w':=by
 rcases h with h|⟨si,b,l,c,h1,h2,h3,h4,h5,h6⟩
 . exact .inl (h.kept hg hS)
 . refine .inr ⟨si,b,l,c,h1,h2,?_,?_,h5,h6⟩
   . exact(hg.block s (Array.getElem?_eq_some_iff.1 h3).1 (λe=>hS s e ⟨h1,_,_,h3,.inl rfl⟩)).trans h3
   . exact(hg.block si (Array.getElem?_eq_some_iff.1 h4).1 (λe=>hS si e ⟨h2,_,_,h4,.inr rfl⟩)).trans h4
theorem saveZ {N s:Nat} {w:World} (h:StkZ N s w):Calls Tryz.prog 208 #[.pointer (some ⟨s,0,.none⟩)] w (λe w'=>e=.returned (.int .i64 0)/\w=w'):=by
 have hs:=(zwx (k:=0) h.2 rfl:w.cell? ⟨s,0,.none⟩=some (.pointer .none))
 clear h
 go_enter Tryz.func208,Tryz.ntmps208
 go_wp2_with fail
 go_ret
 exact⟨rfl,rfl⟩
def RestP (N s:Nat) (u:FrameMode) (w:World) (e:Ending) (u':FrameMode) (w':World):Prop:=u'=u/\e=.returned (.tuple #[])/\Stk N s w'/\Grow w w' (TS N w)
theorem restoreS {N s:Nat} {w:World} (h:Stk N s w) (u:FrameMode):CallsD Tryz.prog 207 #[.pointer (some ⟨s,0,.none⟩),.int .i64 0] u w (RestP N s u w):=by
 have H:=Lz h
 rcases h with h|⟨si,b,l,c,h1,h2,h3,h4,h5,h6⟩
 . have hs:=(zwx (k:=0) h.2 rfl:w.cell? ⟨s,0,.none⟩=some (.pointer .none))
   clear h
   go_enter_d Tryz.func207,Tryz.ntmps207
   go_wp2
   first|go_end0|refine bodyPost_ret (results_none rfl _ _ _) rfl ?_
   exact⟨rfl,H.out,Grow.refl _ _⟩
 . have hs:=(zwx (k:=0) h3 rfl:w.cell? ⟨s,0,.none⟩=some (.pointer (some ⟨si,0,.none⟩)))
   have hi:=(zwx (k:=0) h4 rfl:w.cell? ⟨si,0,.none⟩=some (.slice (some ⟨b,0,.none⟩) l c))
   have f0:w.frozen? ⟨si,0,.none⟩=false:=by simp[World.frozen?,h4]
   have hc:c<=9223372036854775807:=h6
   have HG:=Lz (show Stk N s (w.setCell ⟨si,0,.none⟩ (.slice (some ⟨b,0,.none⟩) 0 c))/\Grow w (w.setCell ⟨si,0,.none⟩ (.slice (some ⟨b,0,.none⟩) 0 c)) (TS N w) from by
    have e:=one_cell_set (v':=.slice (some ⟨b,0,.none⟩) 0 c) h4
    have hne:s≠si:=by
     rintro rfl
     rw[h3] at h4
     have:=Option.some.inj h4
     rw[Obj.cells.injEq] at this
     exact absurd this.2.1 (by decide)
    refine⟨.inr ⟨si,b,0,c,h1,h2,((zzw w si 0 _).block s (Array.getElem?_eq_some_iff.1 h3).1 (by intro e;have:=Option.some.inj e;omega)).trans h3,e,Nat.zero_le _,h6⟩,(Grow.of (zzw w si 0 _)).weaken (λk _ e=>?_)⟩
    obtain rfl:=Option.some.inj e
    exact⟨h2,_,_,h4,.inr rfl⟩)
   clear h1 h2 h3 h4 h6 H
   have HI:Calls Tryz.prog 229 #[.pointer (some ⟨si,0,.none⟩),.int .i64 0] w (λe w'=>e=.returned (.tuple #[])/\w'=w.setCell ⟨si,0,.none⟩ (.slice (some ⟨b,0,.none⟩) 0 c)):=by
    go_enter Tryz.func229,Tryz.ntmps229
    go_wp2_with fail
    first|go_end0|refine bodyPost_ret (results_none rfl _ _ _) rfl ?_
    exact⟨rfl,rfl⟩
   have HII:=Lz HI
   clear HI
   go_enter_d Tryz.func207,Tryz.ntmps207
   go_wp2_with fail
   refine HII.out.mono ?_
   rintro e w1 ⟨rfl,rfl⟩
   go_wp2_with fail
   first|go_end0|refine bodyPost_ret (results_none rfl _ _ _) rfl ?_
   exact⟨rfl,HG.out⟩
def StkN (N n:Nat) (w:World) (e:Ending) (w':World):Prop:=
 ∃ (b c:Nat) (zs:List Nat),e=.returned (.slice (some ⟨b,0,.none⟩) n c)/\n<=c/\c<=maxLen/\NatB w' b zs/\n<=zs.length/\zs.length<=maxLen/\w.heap.size<=b/\Grow w w' (TS N w)/\Words zs
theorem StkP.to {N s n:Nat} {w w':World} {e:Ending} (hs:StkZ N s w) (h:StkP n w e w'):StkN N n w e w'/\StkZ N s w':=by
 obtain⟨b,zs,h1,h2,h3,h4,h5,h6,h7⟩:=h
 have hg:Grow w w' (TS N w):=Grow.none h6 _
 refine⟨⟨b,zs.length,zs,h1,h3,h4,h2,h3,h4,h5,hg,h7⟩,hs.1,(h6.block s (Array.getElem?_eq_some_iff.1 hs.2).1 (by simp)).trans hs.2⟩
theorem StkQ.to {N s:Nat} {w w':World} {e:Ending} (hs:StkZ N s w) (hN:N<=w.heap.size) (h:StkQ s w e w'):StkN N 5 w e w'/\Stk N s w':=by
 obtain⟨b,si,zs,h1,h2,h3,h4,h5,h6,h7,h8,h9,h10,h11⟩:=h
 have hg:Grow w w' (TS N w):=(Grow.of h8).weaken (λk _ e=>by obtain rfl:=Option.some.inj e;exact⟨hs.1,_,_,hs.2,.inl rfl⟩)
 exact⟨⟨b,5,zs,h1,Nat.le_refl _,by decide,h2,by omega,h4,h5,hg,h11⟩,.inr ⟨si,b,8,zs.length,hs.1,by omega,h9,h10,h3,h4⟩⟩
theorem natZ {N s n:Nat} {w:World} (h:StkZ N s w) (h2:2<=n) (h4:n<=4):Calls Tryz.prog 209 #[.pointer (some ⟨s,0,.none⟩),.int .i64 n] w (λe w'=>StkN N n w e w'/\StkZ N s w'):=by
 have hs:=(zwx (k:=0) h.2 rfl:w.cell? ⟨s,0,.none⟩=some (.pointer .none))
 obtain rfl|rfl|rfl:n=2\/n=3\/n=4:=by omega
 . exact(stk2 s w hs).mono (λ_ _ hp=>hp.to h)
 . exact(stk3 s w hs).mono (λ_ _ hp=>hp.to h)
 . exact(stk4 s w hs).mono (λ_ _ hp=>hp.to h)
theorem natS {N s n:Nat} {w:World} (h:StkZ N s w) (hN:N<=w.heap.size) (h2:2<=n) (h5:n<=5):Calls Tryz.prog 209 #[.pointer (some ⟨s,0,.none⟩),.int .i64 n] w (λe w'=>StkN N n w e w'/\Stk N s w'):=by
 rcases Nat.lt_or_ge n 5 with h4|h4
 . exact(natZ h h2 (by omega)).mono (λ_ _ hp=>⟨hp.1,.inl hp.2⟩)
 . obtain rfl:n=5:=by omega
   exact(stk5 s w h.2).mono (λ_ _ hp=>hp.to h hN)
end Go.Proofs.YtohhkjamddojmaaGreatDoor.Big

set_option maxHeartbeats 16000000
namespace Go.Proofs.YtohhkjamddojmaaGreatDoor.Big
open Go.RowKit
attribute [local go_sem] ptr
theorem greaterThan (x1 x2 y1 y2:Nat) (hx:x2<B64) (hy:y2<B64) (w:World) :
 Calls Tryz.prog 259 #[wd x1,wd x2,wd y1,wd y2] w (λe w'=>e=.returned (.bool (decide (y1*B64+y2<x1*B64+x2)))/\w'=w):=by
 obtain⟨t,ht⟩:∃ t,t=decide (y1*B64+y2<x1*B64+x2):=⟨_,rfl⟩
 rw[<-ht]
 unfold B64 at hx hy ht
 rcases Nat.lt_trichotomy x1 y1 with h|h|h
 . have e:t=false:=by rw[ht,decide_eq_false_iff_not];omega
   have i1:¬(y1:Int)<x1:=by omega
   have i2:((x1:Int)==y1)=false:=by rw[beq_eq_false_iff_ne];omega
   subst e
   clear ht h hx hy
   go_enter Tryz.func259,Tryz.ntmps259
   go_wp2_with fail
   go_ret
   exact⟨rfl,rfl⟩
 . subst h
   by_cases h2:y2<x2
   . have e:t=true:=by rw[ht,decide_eq_true_iff];omega
     have i1:¬(x1:Int)<x1:=by omega
     have i3:(y2:Int)<x2:=by omega
     subst e
     clear ht h2 hx hy
     go_enter Tryz.func259,Tryz.ntmps259
     go_wp2_with fail
     go_ret
     exact⟨rfl,rfl⟩
   . have e:t=false:=by rw[ht,decide_eq_false_iff_not];omega
     have i1:¬(x1:Int)<x1:=by omega
     have i3:¬(y2:Int)<x2:=by omega
     subst e
     clear ht h2 hx hy
     go_enter Tryz.func259,Tryz.ntmps259
     go_wp2_with fail
     go_ret
     exact⟨rfl,rfl⟩
 . have e:t=true:=by rw[ht,decide_eq_true_iff];omega
   have i1:(y1:Int)<x1:=by omega
   subst e
   clear ht h hx hy
   go_enter Tryz.func259,Tryz.ntmps259
   go_wp2_with fail
   go_ret
   exact⟨rfl,rfl⟩
theorem wrapN {x:Int} {k:Nat} (h:x=k) (hk:k<9223372036854775808):wrap64 x=k:=by subst h;unfold wrap64;omega
theorem wrapI {x:Int} {k:Nat} (h:x=k) (hk:k<9223372036854775808):IntKind.i64.wrap x=k:=by
 subst h
 rw[IntKind.wrap_i64]
 omega
/-! ### rows laid over rows -/
theorem spl0 {us rs:List Nat}:spl us 0 rs=rs++us.drop rs.length:=by unfold spl;simp
theorem spl_over {us rs ss:List Nat} {j:Nat} (h:j+ss.length<=rs.length):spl (spl us 0 rs) j ss=spl us 0 (spl rs j ss):=by
 have hl:=zzk h
 rw[spl0,spl0,hl]
 unfold spl
 rw[List.take_append_of_le_length (by omega),List.drop_append_of_le_length h]
 simp only[List.append_assoc]
theorem spl0_sec {us rs:List Nat} {j n:Nat} (h:j+n<=rs.length):((spl us 0 rs).drop j).take n=(rs.drop j).take n:=by
 rw[spl0,List.drop_append_of_le_length (by omega),List.take_append_of_le_length (by rw[List.length_drop];omega)]
theorem spl0_len {us rs:List Nat} {k:Nat} (h:rs.length=k) (hk:k<=us.length):(spl us 0 rs).length=us.length:=by
 rw[spl0,List.length_append,List.length_drop,h]
 omega
theorem spl0_getD {us rs:List Nat} {j:Nat} (h:j<rs.length):(spl us 0 rs).getD j 0=rs.getD j 0:=by
 rw[spl0,List.getD,List.getElem?_append_left h,List.getD]
theorem getD_take {vs:List Nat} {n j:Nat} (h:j<n):(vs.take n).getD j 0=vs.getD j 0:=by
 rw[List.getD,List.getElem?_take,if_pos h,List.getD]
theorem Words.val_inj:∀ {a b:List Nat},Words a->Words b->a.length=b.length->val a=val b->a=b
 | [],[],_,_,_,_=>rfl
 | x :: a,y :: b,ha,hb,hl,hv=>by
  have hx:=ha x (List.mem_cons_self ..)
  have hy:=hb y (List.mem_cons_self ..)
  have e:x+B64*val a=y+B64*val b:=hv
  have e1:x=y:=by
   have h1:(x+B64*val a)%B64=x:=by rw[Nat.add_mul_mod_self_left,Nat.mod_eq_of_lt hx]
   have h2:(y+B64*val b)%B64=y:=by rw[Nat.add_mul_mod_self_left,Nat.mod_eq_of_lt hy]
   rw[<-h1,<-h2,e]
  subst e1
  have e2:val a=val b:=Nat.eq_of_mul_eq_mul_left zxw (by omega)
  rw[Words.val_inj (λz hz=>ha z (List.mem_cons_of_mem _ hz)) (λz hz=>hb z (List.mem_cons_of_mem _ hz)) (by simpa using hl) e2]
theorem spl_self {rs:List Nat} {j n:Nat} (h:j+n<=rs.length):spl rs j ((rs.drop j).take n)=rs:=by
 unfold spl
 have hl:((rs.drop j).take n).length=n:=by rw[List.length_take,List.length_drop];omega
 rw[hl,List.append_assoc,<-List.drop_drop,List.take_append_drop,List.take_append_drop]
theorem Grow.on_new {a b c:World} {S:Nat->Prop} {x:Nat} (h:Grow a b S) (k:b.grownBy c (some x)) (hx:a.heap.size<=x):Grow a c S:=
 ⟨k.os.trans h.os,k.tape.trans h.tape,k.output.trans h.output,Nat.le_trans h.size k.size,λi hi hr=>(k.block i (Nat.lt_of_lt_of_le hi h.size) (by intro e;have:=Option.some.inj e;omega)).trans (h.block i hi hr)⟩
theorem Grow.on_in {a b c:World} {S:Nat->Prop} {x:Nat} (h:Grow a b S) (k:b.grownBy c (some x)) (hx:S x):Grow a c S:=
 ⟨k.os.trans h.os,k.tape.trans h.tape,k.output.trans h.output,Nat.le_trans h.size k.size,λi hi hr=>(k.block i (Nat.lt_of_lt_of_le hi h.size) (by intro e;have:=Option.some.inj e;subst this;exact hr hx)).trans (h.block i hi hr)⟩
structure DBW (N s bq bu bv bh:Nat) (qs us vs:List Nat) (n i:Nat) (rs ks hs:List Nat) (w wr:World):Prop where
 q:NatB wr bq (spl qs i ks)
 u:NatB wr bu (spl us 0 rs)
 v:NatB wr bv vs
 h:NatB wr bh hs
 hl:n+1<=hs.length
 hw:Words hs
 st:Stk N s wr
 g:Grow w wr (λk=>(k=bq\/k=bu)\/TS N w k)
section
variable {N s bq bu bv bh : Nat} {qs us vs : List Nat} {n i : Nat} {rs ks hs : List Nat} {w wr w' : World}
theorem DBW.drew (h:DBW N s bq bu bv bh qs us vs n i rs ks hs w wr) (k:Nat):DBW N s bq bu bv bh qs us vs n i rs ks hs w (wr.drewN k):=
 ⟨h.q.drewN k,h.u.drewN k,h.v.drewN k,h.h.drewN k,h.hl,h.hw,h.st.kept (Grow.none (zzz wr k .none) (λ_=>False)) (λ_ e=>e.elim),h.g.trans (Grow.none (zzz wr k .none) _)⟩
theorem DBW.putH (h:DBW N s bq bu bv bh qs us vs n i rs ks hs w wr) {hs':List Nat} (hn:NatB w' bh hs') (hg:wr.grownBy w' (some bh)) (hl:hs'.length=hs.length) (hw:Words hs') (hb:w.heap.size<=bh) (d:bh≠bq/\bh≠bu/\bh≠bv):DBW N s bq bu bv bh qs us vs n i rs ks hs' w w':=
 ⟨h.q.kept hg (λe=>d.1 (Option.some.inj e).symm),h.u.kept hg (λe=>d.2.1 (Option.some.inj e).symm),h.v.kept hg (λe=>d.2.2 (Option.some.inj e).symm),hn,by rw[hl];exact h.hl,hw,
  h.st.kept (Grow.of hg) (λk e=>by obtain rfl:=Option.some.inj e;exact TS.row h.h),h.g.on_new hg hb⟩
theorem DBW.putU (h:DBW N s bq bu bv bh qs us vs n i rs ks hs w wr) {rs':List Nat} (hn:NatB w' bu (spl us 0 rs')) (hg:wr.grownBy w' (some bu)) (d:bu≠bq/\bu≠bv/\bu≠bh):DBW N s bq bu bv bh qs us vs n i rs' ks hs w w':=
 ⟨h.q.kept hg (λe=>d.1 (Option.some.inj e).symm),hn,h.v.kept hg (λe=>d.2.1 (Option.some.inj e).symm),h.h.kept hg (λe=>d.2.2 (Option.some.inj e).symm),h.hl,h.hw,
  h.st.kept (Grow.of hg) (λk e=>by obtain rfl:=Option.some.inj e;exact TS.row h.u),h.g.on_in hg (.inl (.inr rfl))⟩
theorem DBW.putQ (h:DBW N s bq bu bv bh qs us vs n (i+1) rs ks hs w wr) {q:Nat} (hi:i+1+ks.length<=qs.length) (d:bq≠bu/\bq≠bv/\bq≠bh):DBW N s bq bu bv bh qs us vs n i rs (q :: ks) hs w (wr.setCell ⟨bq,i,.none⟩ (wd q)):=by
 have hn:=h.q.set i q
 rw[spl_set_ahead hi] at hn
 have hg:=zzw wr bq i (wd q)
 exact⟨hn,h.u.kept hg (λe=>d.1 (Option.some.inj e).symm),h.v.kept hg (λe=>d.2.1 (Option.some.inj e).symm),h.h.kept hg (λe=>d.2.2 (Option.some.inj e).symm),h.hl,h.hw,
  h.st.kept (Grow.of hg) (λk e=>by obtain rfl:=Option.some.inj e;exact TS.row h.q),h.g.on_in hg (.inl (.inl rfl))⟩
end
/-! ### plain laws of a round -/
theorem u64_over {a b:Nat} (h:B64<=a+b) (ha:a<B64) (hb:b<B64):IntKind.u64.wrap ((a:Int)+(b:Int))=((a+b-B64:Nat):Int):=by
 unfold B64 at *
 unfold IntKind.wrap
 simp[IntKind.bits,IntKind.signed]
 omega
theorem u64_plus {a b:Nat} (h:a+b<B64):IntKind.u64.wrap ((a:Int)+(b:Int))=((a+b:Nat):Int):=by
 unfold B64 at *
 unfold IntKind.wrap
 simp[IntKind.bits,IntKind.signed]
 omega
theorem u64_minus {a b:Nat} (h:b<=a) (ha:a<B64):IntKind.u64.wrap ((a:Int)-(b:Int))=((a-b:Nat):Int):=by
 unfold B64 at *
 unfold IntKind.wrap
 simp[IntKind.bits,IntKind.signed]
 omega
theorem u64_pred {a k:Nat} (h:a=k+1) (ha:a<B64):IntKind.u64.wrap ((a:Int)-1)=(k:Int):=by
 unfold B64 at *
 unfold IntKind.wrap
 simp[IntKind.bits,IntKind.signed]
 omega
theorem u64_under {a b:Nat} (h:a<b) (hb:b<B64):IntKind.u64.wrap ((a:Int)-(b:Int))=((a+B64-b:Nat):Int):=by
 unfold B64 at *
 unfold IntKind.wrap
 simp[IntKind.bits,IntKind.signed]
 omega
theorem mul_down {x1 x2 q v:Nat} (h:x2+x1*B64=(q+1)*v) (hx:x2<B64) (hv:v<B64) :
 (x2<v->0<x1/\(x2+B64-v)+(x1-1)*B64=q*v/\x2+B64-v<B64)/\(¬x2<v->(x2-v)+x1*B64=q*v/\x2-v<B64):=by
 rw[Nat.add_mul,Nat.one_mul] at h
 generalize q*v=p at *
 unfold B64 at *
 omega
theorem spl_set_at {rs ks:List Nat} {j n y z:Nat} (hk:ks.length=n) (h:j+n<rs.length):(spl rs j (ks ++ [y])).set (j+n) z=spl rs j (ks ++ [z]):=by
 subst hk
 unfold spl
 have e:(rs.take j++ks).length=j+ks.length:=by simp;omega
 have e1:∀ y,rs.take j++(ks ++ [y])++rs.drop (j+(ks ++ [y]).length)=(rs.take j++ks)++(y :: rs.drop (j+(ks.length+1))):=λy=>by simp
 rw[e1,e1,List.set_append_right _ _ (by omega),e,Nat.sub_self,List.set_cons_zero]
theorem spl_part {rs ka ks:List Nat} {j n y:Nat} (ha:ka.length=n) (hk:ks.length=n) (h:j+n<rs.length):spl (spl rs j (ka ++ [y])) j ks=spl rs j (ks ++ [y]):=by
 have hl:(rs.take j).length=j:=by rw[List.length_take];omega
 have e1:spl rs j (ka ++ [y])=rs.take j++(ka++y :: rs.drop (j+(n+1))):=by unfold spl;simp[ha]
 have e2:(spl rs j (ka ++ [y])).take j=rs.take j:=by rw[e1];exact List.take_left' hl
 have e3:(spl rs j (ka ++ [y])).drop (j+n)=y :: rs.drop (j+(n+1)):=by
  rw[e1,<-List.append_assoc]
  exact List.drop_left' (by simp[hl,ha])
 show(spl rs j (ka ++ [y])).take j++ks++(spl rs j (ka ++ [y])).drop (j+ks.length)=_
 rw[hk,e2,e3]
 unfold spl
 simp[hk]
theorem val_lt_top {X Y:List Nat} {n:Nat} (hw:Words X) (hX:X.length=n+1) (hY:Y.length=n+1) (h:X.getD n 0<Y.getD n 0):val X<val Y:=
 val_lt_at hw (by omega) (by omega) (by rw[List.drop_of_length_le (by omega),List.drop_of_length_le (by omega)]) h
theorem sub_none {n x y u c:Nat} (hx:x<B64^n) (hle:y<=u) (e:x+y=u+B64^n*c):c=0/\x=u-y:=by
 have hc:c=0:=by
  rcases Nat.eq_zero_or_pos c with h|h
  . exact h
  . have:=Nat.le_mul_of_pos_right (B64^n) h
    omega
 subst hc
 exact⟨rfl,by omega⟩
theorem sub_one {n x y u c:Nat} (hlt:u<y) (hc:c<=1) (e:x+y=u+B64^n*c):c=1/\x+y=u+B64^n:=by
 have hc:c=1:=by
  rcases Nat.eq_zero_or_pos c with h|h
  . subst h;omega
  . omega
 subst hc
 exact⟨rfl,by omega⟩
end Go.Proofs.YtohhkjamddojmaaGreatDoor.Big

set_option maxRecDepth 100000
set_option maxHeartbeats 16000000
namespace Go.Proofs.YtohhkjamddojmaaGreatDoor.Big
open Go.RowKit
attribute [local go_sem] ptr
theorem val_dropW (a:List Nat) (i:Nat):val (a.drop i)=a.getD i 0+B64*val (a.drop (i+1)):=by
 rcases Nat.lt_or_ge i a.length with h|h
 . rw[List.drop_eq_getElem_cons h]
   simp[List.getD,h,val]
 . rw[List.drop_of_length_le h,List.drop_of_length_le (by omega),List.getD,List.getElem?_eq_none h]
   rfl
theorem shr_step {X ks:List Nat} {i s V:Nat} (hs:s<=63) (ho:ks.length=i) (h:val ks+B64^i*(val (X.drop i)/2^s)=V) :
 val (ks ++ [X.getD i 0/2^s+X.getD (i+1) 0*2^(64-s)%B64])+B64^(i+1)*(val (X.drop (i+1))/2^s)=V:=by
 have hp:0<2^s:=Nat.pow_pos (by decide)
 have hB:B64=2^s*2^(64-s):=by rw[Nat.mul_comm,sh_pow hs]
 have e1:val (X.drop i)/2^s=X.getD i 0/2^s+2^(64-s)*val (X.drop (i+1)):=by
  rw[val_dropW X i]
  conv=>lhs;rw[hB,Nat.mul_assoc]
  rw[Nat.add_mul_div_left _ _ hp]
 have e2:val (X.drop (i+1))%2^s=X.getD (i+1) 0%2^s:=by
  rw[val_dropW X (i+1)]
  conv=>lhs;rw[hB,Nat.mul_assoc]
  rw[Nat.add_mul_mod_self_left]
 have e3:X.getD (i+1) 0*2^(64-s)%B64=2^(64-s)*(X.getD (i+1) 0%2^s):=by
  rw[hB,Nat.mul_comm (X.getD (i+1) 0),Nat.mul_comm (2^s),Nat.mul_mod_mul_left]
 have e4:2^(64-s)*val (X.drop (i+1))=B64*(val (X.drop (i+1))/2^s)+2^(64-s)*(X.getD (i+1) 0%2^s):=by
  rw[<-e2]
  conv=>lhs;rw[<-Nat.mod_add_div (val (X.drop (i+1))) (2^s)]
  rw[Nat.mul_add,<-Nat.mul_assoc,<-sh_pow hs]
  omega
 rw[zyk,ho,Nat.pow_succ,Nat.mul_assoc,<-h,e1,e4,e3]
 simp only[Nat.mul_add]
 omega
theorem shr_lt {a b s:Nat} (hs:1<=s) (hs2:s<=63) (ha:a<B64):a/2^s+b*2^(64-s)%B64<B64:=by
 have h1:a/2^s<2^(64-s):=by have:=sh_carry (s:=64-s) (x:=a) (by omega) ha;rwa [show 64-(64-s)=s by omega] at this
 have:=sh_room (s:=64-s) (c:=a/2^s) b (by omega) h1
 omega
theorem shr_word {s a b:Nat} (hs:1<=s) (hs2:s<=63) (ha:a<B64) :
 IntKind.u64.wrap ((b:Int)*2^(64-s))=((b*2^(64-s)%B64:Nat):Int)/\bits .or .u64 ((a:Int)/2^s) ((b*2^(64-s)%B64:Nat):Int)=((a/2^s+b*2^(64-s)%B64:Nat):Int):=by
 obtain⟨h1,h2⟩:=shl_word (s:=64-s) (a:=b) (b:=a) (by omega) ha
 rw[show 64-(64-s)=s by omega] at h2
 refine⟨h1,?_⟩
 have e:(a:Int)/2^s=((a/2^s:Nat):Int):=by push_cast;rfl
 rw[e] at h2 ⊢
 have b1:a/2^s<B64:=Nat.lt_of_le_of_lt (Nat.div_le_self _ _) ha
 have b2:b*2^(64-s)%B64<B64:=Nat.mod_lt _ zxw
 rw[u64_or_nat _ _ b1 b2,Nat.or_comm,<-u64_or_nat _ _ b2 b1,h2,Nat.add_comm]
def ShrP (bz n s:Nat) (zs:List Nat) (w:World) (e:Ending) (w':World):Prop:=
 ∃ v ks,e=.returned v/\NatB w' bz (spl zs 0 ks)/\ks.length=n/\Words ks/\val ks=val (zs.take n)/2^s/\w.grownBy w' (some bz)
theorem rshVU_g (bz n cz s:Nat) (zs:List Nat) (w:World) (hz:NatB w bz zs) (hzn:n<=zs.length) (hwz:Words zs) (hs:1<=s) (hs2:s<=63) (h1:1<=n) (hn:n<=1000000) :
 Calls Tryz.prog 261 #[.slice (some ⟨bz,0,none⟩) n cz,.slice (some ⟨bz,0,none⟩) n cz,.int .u64 s] w (ShrP bz n s zs w):=by
 obtain⟨t,ht⟩:∃ t,t=64-s:=⟨_,rfl⟩
 obtain⟨X,hX⟩:∃ X,X=zs.take n:=⟨_,rfl⟩
 have hXl:X.length=n:=by rw[hX,List.length_take,Nat.min_eq_left hzn]
 have hXg:∀ k,k<n->X.getD k 0=zs.getD k 0:=λk hk=>by rw[hX];exact getD_take hk
 have hXw:∀ k,X.getD k 0<B64:=λk=>by rw[hX];exact(hwz.take _).getD k
 have HX:=Lz (And.intro hX (And.intro hXl (And.intro hXg (And.intro hXw hzn))))
 have HS:=Lz (And.intro hs (And.intro hs2 (And.intro h1 (And.intro hn ht))))
 have a1:=and63 s hs2
 have a2:=and63 t (by omega)
 have e64:IntKind.u64.wrap (64-(s:Int))=(t:Int):=by rw[show 64-(s:Int)=(t:Int) by omega,zxx,Nat.mod_eq_of_lt (by unfold B64;omega)]
 have e64':64-(s:Int)=(t:Int):=by omega
 have hc0:=hz.cell 0 (by omega)
 have n1:((n:Int)==0)=false:=by rw[beq_eq_false_iff_ne];omega
 have n0:¬(n:Int)=0:=by omega
 have n2:(0:Int)<n:=by omega
 have s1:((s:Int)==0)=false:=by rw[beq_eq_false_iff_ne];omega
 obtain⟨x0,hx0⟩:∃ x0,x0=zs.getD 0 0:=⟨_,rfl⟩
 rw[<-hx0] at hc0
 have HZ:=Lz hz
 clear hX hXl hXg hXw hs hs2 h1 hn ht hz hwz hzn hx0
 unfold wd at *
 go_enter Tryz.func261,Tryz.ntmps261
 go_wp2_with fail
 go_loopw [8] (λi wr=>∃ (k:Nat) (ks:List Nat),i=.int .i64 ((k:Nat):Int)/\RowKit.Hid (1<=k/\k<=n/\ks.length=k-1/\Words ks/\val ks+B64^(k-1)*(val (X.drop (k-1))/2^s)=val X/2^s/\NatB wr bz (spl zs 0 ks)/\w.grownBy wr (some bz))) (λi _=>(n-intOf i).toNat)
 case atStart=>exact⟨1,[],rfl,⟨Nat.le_refl _,HS.out.2.2.1,rfl,Words.nil,by simp[val],by rw[spl_nil];exact HZ.out,zyz _ _⟩⟩
 case round=>
  obtain⟨k,ks,rfl,HR⟩:=hrel
  obtain⟨k1,k2,hkl,hkw,hkv,hN,hG⟩:=HR.out
  obtain⟨km,hkm⟩:∃ km,k=km+1:=⟨k-1,by clear a1 a2 e64 e64';omega⟩
  rw[hkm,Nat.add_sub_cancel] at hkl hkv
  have hkz:km<n:=by clear a1 a2 e64 e64';omega
  have hzl:(spl zs 0 ks).length=zs.length:=zzk (by have:=HX.out.2.2.2.2;clear a1 a2 e64 e64';omega)
  have ca:=hN.cell km (by rw[hzl];have:=HX.out.2.2.2.2;clear a1 a2 e64 e64';omega)
  have cf:=hN.free km
  rw[spl_getD (by rw[hkl,Nat.zero_add];exact Nat.le_refl _) (Nat.zero_le _),<-HX.out.2.2.1 km hkz] at ca
  have hset:∀ v,NatB (wr.setCell ⟨bz,km,.none⟩ (wd v)) bz (spl zs 0 (ks ++ [v])):=λv=>by
   have e:=hN.set km v
   have e2:=spl_set (zs:=zs) (ks:=ks) (o:=0) (v:=v) (by have:=HX.out.2.2.2.2;clear a1 a2 e64 e64';omega)
   rw[Nat.zero_add,hkl] at e2
   rwa [e2] at e
  have hstep:=shr_step HS.out.2.1 hkl hkv
  have W1:=Lz (show wrap64 ((k:Int)-1)=km from wrapN (by clear a1 a2 e64 e64';omega) (by have:=HS.out;clear a1 a2 e64 e64';omega))
  have W2:=Lz (show IntKind.i64.wrap ((k:Int)-1)=km from wrapI (by clear a1 a2 e64 e64';omega) (by have:=HS.out;clear a1 a2 e64 e64';omega))
  by_cases he:k=n
  . have hx1:X.getD (km+1) 0=0:=by rw[List.getD,List.getElem?_eq_none (by rw[HX.out.2.1];clear a1 a2 e64 e64';omega)];rfl
    rw[hx1,Nat.zero_mul,Nat.zero_mod,Nat.add_zero,List.drop_of_length_le (by rw[HX.out.2.1];clear a1 a2 e64 e64';omega)] at hstep
    obtain⟨xa,hxa⟩:∃ xa,xa=X.getD km 0:=⟨_,rfl⟩
    rw[<-hxa] at ca hstep
    obtain⟨va,hva⟩:∃ va,va=xa/2^s:=⟨_,rfl⟩
    have hvaI:(xa:Int)/2^s=(va:Int):=by rw[hva];push_cast;rfl
    rw[<-hva] at hstep
    have hvB:va<B64:=by rw[hva];exact Nat.lt_of_le_of_lt (Nat.div_le_self _ _) (by rw[hxa];exact HX.out.2.2.2.1 _)
    have HF:=Lz (show ShrP bz n s zs w (.returned (.int .u64 0)) (wr.setCell ⟨bz,km,.none⟩ (wd va)) from
     ⟨_,ks ++ [va],rfl,hset va,by rw[List.length_append,hkl];show km+1=n;clear a1 a2 e64 e64';omega,hkw.append (Words.one hvB),by rw[<-HX.out.1,<-hstep];simp[val],zzx hG (zzw _ _ _ _)⟩)
    have e2:¬(k:Int)<n:=by clear a1 a2 e64 e64';omega
    have W3:=Lz (show wrap64 ((n:Int)-1)=km from wrapN (by clear a1 a2 e64 e64';omega) (by have:=HS.out;clear a1 a2 e64 e64';omega))
    have i1:(km:Int)<n:=by clear a1 a2 e64 e64';omega
    have w3:=W3.out
    clear hkl hkw hkv hN hG hkm hkz hzl hset hstep he hxa hva hvB HR k1 k2 hx1
    unfold wd at *
    go_wp2_with fail
    go_ret
    obtain⟨v,kk,h1,h2⟩:=HF.out
    exact⟨_,kk,rfl,h2⟩
  . have hlt:k<n:=by clear a1 a2 e64 e64';omega
    have cb:=hN.cell k (by rw[hzl];have:=HX.out.2.2.2.2;clear a1 a2 e64 e64';omega)
    rw[spl_getD (by rw[hkl,Nat.zero_add];clear a1 a2 e64 e64';omega) (Nat.zero_le _),<-HX.out.2.2.1 k hlt] at cb
    rw[<-hkm] at hstep
    obtain⟨xa,hxa⟩:∃ xa,xa=X.getD km 0:=⟨_,rfl⟩
    obtain⟨xb,hxb⟩:∃ xb,xb=X.getD k 0:=⟨_,rfl⟩
    rw[<-hxa] at ca hstep
    rw[<-hxb] at cb hstep
    obtain⟨hs1,hs2⟩:=shr_word (a:=xa) (b:=xb) HS.out.1 HS.out.2.1 (by rw[hxa];exact HX.out.2.2.2.1 _)
    have hvB:=shr_lt (a:=xa) (b:=xb) HS.out.1 HS.out.2.1 (by rw[hxa];exact HX.out.2.2.2.1 _)
    rw[<-HS.out.2.2.2.2] at hs1 hs2 hvB hstep
    obtain⟨vb,hvb⟩:∃ vb,vb=xb*2^t%B64:=⟨_,rfl⟩
    obtain⟨vc,hvc⟩:∃ vc,vc=xa/2^s+xb*2^t%B64:=⟨_,rfl⟩
    rw[<-hvc] at hs2 hvB hstep
    rw[<-hvb] at hs1 hs2
    have HF:=Lz (And.intro (hset vc) (And.intro (zzx hG (zzw wr bz km (wd vc))) (And.intro (hkw.append (Words.one hvB)) (And.intro hstep (And.intro (show(ks ++ [vc]).length=k by rw[List.length_append,hkl,hkm];rfl) hlt)))))
    have e2:(k:Int)<n:=by clear a1 a2 e64 e64' hs1 hs2;omega
    have i1:(km:Int)<n:=by clear a1 a2 e64 e64' hs1 hs2;omega
    have W4:=Lz (show wrap64 ((k:Int)+1)=((k+1:Nat):Int) from wrapN (by clear a1 a2 e64 e64' hs1 hs2;omega) (by have:=HS.out;clear a1 a2 e64 e64' hs1 hs2;omega))
    have w1:=W1.out
    have w2:=W2.out
    obtain⟨kp,hkp⟩:∃ kp,kp=k+1:=⟨_,rfl⟩
    have w4:=W4.out
    rw[<-hkp] at w4
    have HK:=Lz (And.intro k1 (And.intro k2 (And.intro hkm hkp)))
    clear hkl hkw hkv hN hG hkm hkz hzl hset hstep he hxa hxb hvB HR k1 k2 hlt hvb hvc hkp W4 W1 W2
    unfold wd at *
    go_wp2_with fail
    go_region
    go_wp2_with fail
    simp only[w4]
    go_roundw
    case rel=>
     obtain⟨f1,f2,f3,f4,f5,f6⟩:=HF.out
     exact⟨kp,ks ++ [vc],rfl,⟨by rw[HK.out.2.2.2];exact Nat.le_add_left 1 k,by rw[HK.out.2.2.2];exact f6,by rw[HK.out.2.2.2,Nat.add_sub_cancel];exact f5,f3,by rw[HK.out.2.2.2,Nat.add_sub_cancel];exact f4,f1,zzx f2 (zzz _ 1 _)⟩⟩
    case measure=>
     have h:=HF.out.2.2.2.2.2
     have e:=HK.out.2.2.2
     clear a1 a2 e64 e64' w1 w2 w4 hs1 hs2
     simp only[intOf]
     omega
theorem rshVU (bz n cz s:Nat) (zs:List Nat) (w:World) (hz:NatB w bz zs) (hzn:n<=zs.length) (hwz:Words zs) (hs:1<=s) (hs2:s<=63) (h1:1<=n) (hn:n<=1000000) :
 Calls Tryz.prog 236 #[.slice (some ⟨bz,0,none⟩) n cz,.slice (some ⟨bz,0,none⟩) n cz,.int .u64 s] w (ShrP bz n s zs w):=by
 have HC:=Lz (rshVU_g bz n cz s zs w hz hzn hwz hs hs2 h1 hn)
 clear hz hzn hwz hs hs2 h1 hn
 go_enter Tryz.func236,Tryz.ntmps236
 go_wp2_with fail
 refine HC.out.mono ?_
 rintro e w1 ⟨v,ks,rfl,h⟩
 have H:=Lz h
 clear h HC
 go_wp2_with fail
 go_ret
 exact⟨_,ks,rfl,H.out⟩
end Go.Proofs.YtohhkjamddojmaaGreatDoor.Big
