/- The four curves' numbers are laid. -/
import Derived.Test.YtohhkjamddojmaaGreatDoorSI
import Derived.Test.YtohhkjamddojmaaGreatDoorQA
set_option maxRecDepth 100000
set_option maxHeartbeats 16000000
namespace Go.Proofs.YtohhkjamddojmaaGreatDoor.Bit
open Go.RowKit
open Big EcLaw
attribute [local go_sem] ptr
theorem str_of (a:Array UInt8) (cs:List Nat) (h:a.toList.map UInt8.toNat=cs):Str ⟨a⟩ cs:=by
 subst h
 refine⟨?_,λk hk=>?_⟩
 . show a.size=_
   simp
 . have hk':k<a.size:=hk
   show(a[k]'hk').toNat=_
   simp[List.getD,hk']
def hexB (c:Nat):Bool:=(decide (48<=c)&&decide (c<=57)) || (decide (65<=c)&&decide (c<=70))
theorem hex_all {cs:List Nat} (h:cs.all hexB=true) (i:Nat) (hi:i<cs.length):HexC (cs.getD i 0):=by
 have:=List.all_eq_true.1 h cs[i] (List.getElem_mem hi)
 have e:cs.getD i 0=cs[i]:=by simp[List.getD,hi]
 rw[e]
 unfold hexB at this
 unfold HexC
 simp only[Bool.or_eq_true,Bool.and_eq_true,decide_eq_true_eq] at this
 exact this
section
variable {R : Nat → Prop} {w0 w : World} {L : List (Nat × Int)}
def LaidC (R:Nat->Prop) (w:World) (L:List (Nat×Int)) (c:Nat) (cs:Array Value) (wx:World):Prop:=
 Own (RO R c) wx wx L/\Kept R w wx/\wx.heap[c]? = some (.cells cs 110)/\¬R c/\8<=c
theorem LaidC.start (h:Own R w0 w L) (cs:Array Value):LaidC R w L w.heap.size cs (w.alloc (.cells cs 110)):=by
 have hR:¬R w.heap.size:=λe=>by have:=h.old e;omega
 exact⟨h.guard _,(h.since.box _).kept,heap_alloc_new w _,hR,Nat.le_of_not_lt (λe=>hR (h.low _ e))⟩
theorem LaidC.own {c:Nat} {cs:Array Value} {wx wy:World} {L':List (Nat×Int)} (h:LaidC R w L c cs wx) (h':Own (RO R c) wx wy L'):LaidC R w L' c cs wy:=
 ⟨h'.since,h.2.1.trans (h'.kept.weaken (λ_ _ hn hk=>hn (.inl hk))),h'.block h.2.2.1 (RO.self _ _),h.2.2.2⟩
theorem LaidC.poke {c:Nat} {cs:Array Value} {wx:World} {L':List (Nat×Int)} (h:LaidC R w L' c cs wx) (i:Nat) (v:Value):LaidC R w L' c (cs.setIfInBounds i v) (wx.setCell ⟨c,i,.none⟩ v):=by
 obtain⟨h1,h2,h3,h4,h8⟩:=h
 have hg:=zzw wx c i v
 refine⟨h1.pokeGB h3 (by decide) (by decide) h8 hg,h2.trans ((Grow.of hg).weaken (λk _ e hk=>h4 (by have:=Option.some.inj e;exact this ▸ hk))),?_,h4,h8⟩
 simp only[World.setCell,Array.getElem?_modify,if_true]
 rw[h3]
 simp
theorem LaidC.eof {c:Nat} {ae:Addr} {cs:Array Value} {wx:World} {L':List (Nat×Int)} (h:LaidC R w L' c cs wx) (hl:∀ k,k<8->R k) (he:w.cell? ⟨2,0,.none⟩=some (eofV ae)):wx.cell? ⟨2,0,.none⟩=some (eofV ae):=h.2.1.cell (hl 2 (by omega)) he
theorem LaidC.str {c:Nat} {ae:Addr} {cs:Array Value} {wx:World} {L':List (Nat×Int)} (h:LaidC R w L' c cs wx) (hl:∀ k,k<8->R k) (he:w.cell? ⟨2,0,.none⟩=some (eofV ae)) (a:Array UInt8) (ds:List Nat) (hd:a.toList.map UInt8.toNat=ds) (h2:ds.all hexB=true) (hn:0<ds.length/\ds.length<=200) (V:Nat) (hV:hexN ds=V) (hV0:0<V) :
 Calls Tryz.prog 165 #[ptr wx.heap.size,.string ⟨a⟩,.int .i64 16] (wx.alloc (.cells #[.bool false,.slice .none 0 0] 172)) (λe w'=>e=.returned (.tuple #[ptr wx.heap.size,.bool true])/\LaidC R w ((wx.heap.size,(V:Int)) :: L') c cs w'):=by
 refine(setStringO h.1 ds ⟨a⟩ ae (str_of a ds hd) hn.2 hn.1 (hex_all h2) (by omega) (h.eof hl he)).mono ?_
 rintro e w' ⟨rfl,ho,-⟩
 rw[hV] at ho
 exact⟨rfl,h.own ho⟩
theorem LaidC.cellsAt {c:Nat} {cs:Array Value} {wx:World} {L':List (Nat×Int)} (h:LaidC R w L' c cs wx) {i:Nat} {v:Value} (hv:cs[i]? = some v):wx.cell? ⟨c,i,.none⟩=some v/\wx.frozen? ⟨c,i,.none⟩=false:=⟨zwx (k:=i) h.2.2.1 hv,block_free (o:=i) h.2.2.1⟩
def CurveC (R:Nat->Prop) (w0:World) (L:List (Nat×Int)) (cu:Nums) (bits:Nat) (e:Ending) (w':World):Prop:=
 ∃ c zP zN zB zX zY nm,e=.returned (ptr c)/\Own (RO R c) w' w' ((zY,(cu.y:Int)) :: (zX,(cu.x:Int)) :: (zB,(cu.b:Int)) :: (zN,(cu.n:Int)) :: (zP,(cu.p:Int)) :: L)/\Kept R w0 w'/\w'.heap[c]? = some (.cells #[nm,ptr zP,ptr zN,ptr zB,ptr zX,ptr zY,.int .i64 (bits:Nat)] 110)/\¬R c
theorem init160 (h:Own R w0 w L) (ae:Addr) (he:w.cell? ⟨2,0,.none⟩=some (eofV ae)):Calls Tryz.prog 137 #[] w (CurveC R w L nums160 160):=by
 have D1:(#[70,70,70,70,70,70,70,70,70,70,70,70,70,70,70,70,70,70,70,70,70,70,70,70,70,70,70,70,70,70,70,69,70,70,70,70,65,67,55,51]:Array UInt8).toList.map UInt8.toNat = [70,70,70,70,70,70,70,70,70,70,70,70,70,70,70,70,70,70,70,70,70,70,70,70,70,70,70,70,70,70,70,69,70,70,70,70,65,67,55,51]:=by decide +kernel
 have A1:([70,70,70,70,70,70,70,70,70,70,70,70,70,70,70,70,70,70,70,70,70,70,70,70,70,70,70,70,70,70,70,69,70,70,70,70,65,67,55,51]:List Nat).all hexB=true:=by decide +kernel
 have V1:hexN [70,70,70,70,70,70,70,70,70,70,70,70,70,70,70,70,70,70,70,70,70,70,70,70,70,70,70,70,70,70,70,69,70,70,70,70,65,67,55,51]=nums160.p:=by decide +kernel
 have HS1:=Lz (λ(cs:Array Value) (wx:World) (L':List (Nat×Int)) (hl:LaidC R w L' w.heap.size cs wx)=>hl.str h.low he #[70,70,70,70,70,70,70,70,70,70,70,70,70,70,70,70,70,70,70,70,70,70,70,70,70,70,70,70,70,70,70,69,70,70,70,70,65,67,55,51] [70,70,70,70,70,70,70,70,70,70,70,70,70,70,70,70,70,70,70,70,70,70,70,70,70,70,70,70,70,70,70,69,70,70,70,70,65,67,55,51] D1 A1 (by decide) nums160.p V1 (by decide))
 clear D1 A1 V1
 have D2:(#[48,49,48,48,48,48,48,48,48,48,48,48,48,48,48,48,48,48,48,48,48,49,66,56,70,65,49,54,68,70,65,66,57,65,67,65,49,54,66,54,66,51]:Array UInt8).toList.map UInt8.toNat = [48,49,48,48,48,48,48,48,48,48,48,48,48,48,48,48,48,48,48,48,48,49,66,56,70,65,49,54,68,70,65,66,57,65,67,65,49,54,66,54,66,51]:=by decide +kernel
 have A2:([48,49,48,48,48,48,48,48,48,48,48,48,48,48,48,48,48,48,48,48,48,49,66,56,70,65,49,54,68,70,65,66,57,65,67,65,49,54,66,54,66,51]:List Nat).all hexB=true:=by decide +kernel
 have V2:hexN [48,49,48,48,48,48,48,48,48,48,48,48,48,48,48,48,48,48,48,48,48,49,66,56,70,65,49,54,68,70,65,66,57,65,67,65,49,54,66,54,66,51]=nums160.n:=by decide +kernel
 have HS2:=Lz (λ(cs:Array Value) (wx:World) (L':List (Nat×Int)) (hl:LaidC R w L' w.heap.size cs wx)=>hl.str h.low he #[48,49,48,48,48,48,48,48,48,48,48,48,48,48,48,48,48,48,48,48,48,49,66,56,70,65,49,54,68,70,65,66,57,65,67,65,49,54,66,54,66,51] [48,49,48,48,48,48,48,48,48,48,48,48,48,48,48,48,48,48,48,48,48,49,66,56,70,65,49,54,68,70,65,66,57,65,67,65,49,54,66,54,66,51] D2 A2 (by decide) nums160.n V2 (by decide))
 clear D2 A2 V2
 have D3:(#[48,48,48,48,48,48,48,48,48,48,48,48,48,48,48,48,48,48,48,48,48,48,48,48,48,48,48,48,48,48,48,48,48,48,48,48,48,48,48,55]:Array UInt8).toList.map UInt8.toNat = [48,48,48,48,48,48,48,48,48,48,48,48,48,48,48,48,48,48,48,48,48,48,48,48,48,48,48,48,48,48,48,48,48,48,48,48,48,48,48,55]:=by decide +kernel
 have A3:([48,48,48,48,48,48,48,48,48,48,48,48,48,48,48,48,48,48,48,48,48,48,48,48,48,48,48,48,48,48,48,48,48,48,48,48,48,48,48,55]:List Nat).all hexB=true:=by decide +kernel
 have V3:hexN [48,48,48,48,48,48,48,48,48,48,48,48,48,48,48,48,48,48,48,48,48,48,48,48,48,48,48,48,48,48,48,48,48,48,48,48,48,48,48,55]=nums160.b:=by decide +kernel
 have HS3:=Lz (λ(cs:Array Value) (wx:World) (L':List (Nat×Int)) (hl:LaidC R w L' w.heap.size cs wx)=>hl.str h.low he #[48,48,48,48,48,48,48,48,48,48,48,48,48,48,48,48,48,48,48,48,48,48,48,48,48,48,48,48,48,48,48,48,48,48,48,48,48,48,48,55] [48,48,48,48,48,48,48,48,48,48,48,48,48,48,48,48,48,48,48,48,48,48,48,48,48,48,48,48,48,48,48,48,48,48,48,48,48,48,48,55] D3 A3 (by decide) nums160.b V3 (by decide))
 clear D3 A3 V3
 have D4:(#[51,66,52,67,51,56,50,67,69,51,55,65,65,49,57,50,65,52,48,49,57,69,55,54,51,48,51,54,70,52,70,53,68,68,52,68,55,69,66,66]:Array UInt8).toList.map UInt8.toNat = [51,66,52,67,51,56,50,67,69,51,55,65,65,49,57,50,65,52,48,49,57,69,55,54,51,48,51,54,70,52,70,53,68,68,52,68,55,69,66,66]:=by decide +kernel
 have A4:([51,66,52,67,51,56,50,67,69,51,55,65,65,49,57,50,65,52,48,49,57,69,55,54,51,48,51,54,70,52,70,53,68,68,52,68,55,69,66,66]:List Nat).all hexB=true:=by decide +kernel
 have V4:hexN [51,66,52,67,51,56,50,67,69,51,55,65,65,49,57,50,65,52,48,49,57,69,55,54,51,48,51,54,70,52,70,53,68,68,52,68,55,69,66,66]=nums160.x:=by decide +kernel
 have HS4:=Lz (λ(cs:Array Value) (wx:World) (L':List (Nat×Int)) (hl:LaidC R w L' w.heap.size cs wx)=>hl.str h.low he #[51,66,52,67,51,56,50,67,69,51,55,65,65,49,57,50,65,52,48,49,57,69,55,54,51,48,51,54,70,52,70,53,68,68,52,68,55,69,66,66] [51,66,52,67,51,56,50,67,69,51,55,65,65,49,57,50,65,52,48,49,57,69,55,54,51,48,51,54,70,52,70,53,68,68,52,68,55,69,66,66] D4 A4 (by decide) nums160.x V4 (by decide))
 clear D4 A4 V4
 have D5:(#[57,51,56,67,70,57,51,53,51,49,56,70,68,67,69,68,54,66,67,50,56,50,56,54,53,51,49,55,51,51,67,51,70,48,51,67,52,70,69,69]:Array UInt8).toList.map UInt8.toNat = [57,51,56,67,70,57,51,53,51,49,56,70,68,67,69,68,54,66,67,50,56,50,56,54,53,51,49,55,51,51,67,51,70,48,51,67,52,70,69,69]:=by decide +kernel
 have A5:([57,51,56,67,70,57,51,53,51,49,56,70,68,67,69,68,54,66,67,50,56,50,56,54,53,51,49,55,51,51,67,51,70,48,51,67,52,70,69,69]:List Nat).all hexB=true:=by decide +kernel
 have V5:hexN [57,51,56,67,70,57,51,53,51,49,56,70,68,67,69,68,54,66,67,50,56,50,56,54,53,51,49,55,51,51,67,51,70,48,51,67,52,70,69,69]=nums160.y:=by decide +kernel
 have HS5:=Lz (λ(cs:Array Value) (wx:World) (L':List (Nat×Int)) (hl:LaidC R w L' w.heap.size cs wx)=>hl.str h.low he #[57,51,56,67,70,57,51,53,51,49,56,70,68,67,69,68,54,66,67,50,56,50,56,54,53,51,49,55,51,51,67,51,70,48,51,67,52,70,69,69] [57,51,56,67,70,57,51,53,51,49,56,70,68,67,69,68,54,66,67,50,56,50,56,54,53,51,49,55,51,51,67,51,70,48,51,67,52,70,69,69] D5 A5 (by decide) nums160.y V5 (by decide))
 clear D5 A5 V5
 obtain⟨nm,hnm⟩:∃ nm:Value,nm=.string ⟨#[115,101,99,112,49,54,48,107,49]⟩:=⟨_,rfl⟩
 have HL0:=Lz (LaidC.start h #[nm,.pointer .none,.pointer .none,.pointer .none,.pointer .none,.pointer .none,.int .i64 0])
 have e0:(w.alloc (.cells #[nm,.pointer .none,.pointer .none,.pointer .none,.pointer .none,.pointer .none,.int .i64 0] 110)).heap.size=w.heap.size+1:=Array.size_push _
 clear h he
 unfold ptr at *
 go_enter Tryz.func137,Tryz.ntmps137
 go_wp2_with fail
 rw[<-hnm]
 have K1:=HS1.out _ _ _ HL0.out
 rw[e0] at K1
 refine K1.mono ?_
 rintro e w1 ⟨rfl,hq⟩
 obtain⟨z1,hz1⟩:∃ z,z=w.heap.size+1:=⟨_,rfl⟩
 rw[<-hz1] at hq ⊢
 have HP1:=Lz (hq.poke 1 (.pointer (some ⟨z1,0,.none⟩)))
 obtain⟨ck,fk⟩:=hq.cellsAt (i:=1) (v:=.pointer .none) rfl
 have s1:(w1.setCell ⟨w.heap.size,1,.none⟩ (.pointer (some ⟨z1,0,.none⟩))).heap.size=w1.heap.size:=by simp[World.setCell]
 have HL1:=Lz (show LaidC R w _ w.heap.size #[nm,.pointer (some ⟨z1,0,.none⟩),.pointer .none,.pointer .none,.pointer .none,.pointer .none,.int .i64 0] (w1.setCell ⟨w.heap.size,1,.none⟩ (.pointer (some ⟨z1,0,.none⟩))) from HP1.out)
 clear hq K1 HP1 hz1 e0
 go_wp2_with fail
 have K2:=HS2.out _ _ _ HL1.out
 rw[s1] at K2
 refine K2.mono ?_
 rintro e w2 ⟨rfl,hq⟩
 obtain⟨z2,hz2⟩:∃ z,z=w1.heap.size:=⟨_,rfl⟩
 rw[<-hz2] at hq ⊢
 have HP2:=Lz (hq.poke 2 (.pointer (some ⟨z2,0,.none⟩)))
 obtain⟨ck,fk⟩:=hq.cellsAt (i:=2) (v:=.pointer .none) rfl
 have s2:(w2.setCell ⟨w.heap.size,2,.none⟩ (.pointer (some ⟨z2,0,.none⟩))).heap.size=w2.heap.size:=by simp[World.setCell]
 have HL2:=Lz (show LaidC R w _ w.heap.size #[nm,.pointer (some ⟨z1,0,.none⟩),.pointer (some ⟨z2,0,.none⟩),.pointer .none,.pointer .none,.pointer .none,.int .i64 0] (w2.setCell ⟨w.heap.size,2,.none⟩ (.pointer (some ⟨z2,0,.none⟩))) from HP2.out)
 clear hq K2 HP2 hz2 s1
 go_wp2_with fail
 have K3:=HS3.out _ _ _ HL2.out
 rw[s2] at K3
 refine K3.mono ?_
 rintro e w3 ⟨rfl,hq⟩
 obtain⟨z3,hz3⟩:∃ z,z=w2.heap.size:=⟨_,rfl⟩
 rw[<-hz3] at hq ⊢
 have HP3:=Lz (hq.poke 3 (.pointer (some ⟨z3,0,.none⟩)))
 obtain⟨ck,fk⟩:=hq.cellsAt (i:=3) (v:=.pointer .none) rfl
 have s3:(w3.setCell ⟨w.heap.size,3,.none⟩ (.pointer (some ⟨z3,0,.none⟩))).heap.size=w3.heap.size:=by simp[World.setCell]
 have HL3:=Lz (show LaidC R w _ w.heap.size #[nm,.pointer (some ⟨z1,0,.none⟩),.pointer (some ⟨z2,0,.none⟩),.pointer (some ⟨z3,0,.none⟩),.pointer .none,.pointer .none,.int .i64 0] (w3.setCell ⟨w.heap.size,3,.none⟩ (.pointer (some ⟨z3,0,.none⟩))) from HP3.out)
 clear hq K3 HP3 hz3 s2
 go_wp2_with fail
 have K4:=HS4.out _ _ _ HL3.out
 rw[s3] at K4
 refine K4.mono ?_
 rintro e w4 ⟨rfl,hq⟩
 obtain⟨z4,hz4⟩:∃ z,z=w3.heap.size:=⟨_,rfl⟩
 rw[<-hz4] at hq ⊢
 have HP4:=Lz (hq.poke 4 (.pointer (some ⟨z4,0,.none⟩)))
 obtain⟨ck,fk⟩:=hq.cellsAt (i:=4) (v:=.pointer .none) rfl
 have s4:(w4.setCell ⟨w.heap.size,4,.none⟩ (.pointer (some ⟨z4,0,.none⟩))).heap.size=w4.heap.size:=by simp[World.setCell]
 have HL4:=Lz (show LaidC R w _ w.heap.size #[nm,.pointer (some ⟨z1,0,.none⟩),.pointer (some ⟨z2,0,.none⟩),.pointer (some ⟨z3,0,.none⟩),.pointer (some ⟨z4,0,.none⟩),.pointer .none,.int .i64 0] (w4.setCell ⟨w.heap.size,4,.none⟩ (.pointer (some ⟨z4,0,.none⟩))) from HP4.out)
 clear hq K4 HP4 hz4 s3
 go_wp2_with fail
 have K5:=HS5.out _ _ _ HL4.out
 rw[s4] at K5
 refine K5.mono ?_
 rintro e w5 ⟨rfl,hq⟩
 obtain⟨z5,hz5⟩:∃ z,z=w4.heap.size:=⟨_,rfl⟩
 rw[<-hz5] at hq ⊢
 have HP5:=Lz (hq.poke 5 (.pointer (some ⟨z5,0,.none⟩)))
 obtain⟨ck,fk⟩:=hq.cellsAt (i:=5) (v:=.pointer .none) rfl
 have s5:(w5.setCell ⟨w.heap.size,5,.none⟩ (.pointer (some ⟨z5,0,.none⟩))).heap.size=w5.heap.size:=by simp[World.setCell]
 have HL5:=Lz (show LaidC R w _ w.heap.size #[nm,.pointer (some ⟨z1,0,.none⟩),.pointer (some ⟨z2,0,.none⟩),.pointer (some ⟨z3,0,.none⟩),.pointer (some ⟨z4,0,.none⟩),.pointer (some ⟨z5,0,.none⟩),.int .i64 0] (w5.setCell ⟨w.heap.size,5,.none⟩ (.pointer (some ⟨z5,0,.none⟩))) from HP5.out)
 obtain⟨ck6,fk6⟩:=HL5.out.cellsAt (i:=6) (v:=.int .i64 0) rfl
 clear hq K5 HP5 hz5 s4
 go_wp2_with fail
 go_ret
 obtain⟨h1,h2,h3,h4,-⟩:=HL5.out.poke 6 (.int .i64 160)
 exact⟨w.heap.size,z1,z2,z3,z4,z5,nm,rfl,h1,h2,h3,h4⟩
theorem init192 (h:Own R w0 w L) (ae:Addr) (he:w.cell? ⟨2,0,.none⟩=some (eofV ae)):Calls Tryz.prog 138 #[] w (CurveC R w L nums192 192):=by
 have D1:(#[70,70,70,70,70,70,70,70,70,70,70,70,70,70,70,70,70,70,70,70,70,70,70,70,70,70,70,70,70,70,70,70,70,70,70,70,70,70,70,69,70,70,70,70,69,69,51,55]:Array UInt8).toList.map UInt8.toNat = [70,70,70,70,70,70,70,70,70,70,70,70,70,70,70,70,70,70,70,70,70,70,70,70,70,70,70,70,70,70,70,70,70,70,70,70,70,70,70,69,70,70,70,70,69,69,51,55]:=by decide +kernel
 have A1:([70,70,70,70,70,70,70,70,70,70,70,70,70,70,70,70,70,70,70,70,70,70,70,70,70,70,70,70,70,70,70,70,70,70,70,70,70,70,70,69,70,70,70,70,69,69,51,55]:List Nat).all hexB=true:=by decide +kernel
 have V1:hexN [70,70,70,70,70,70,70,70,70,70,70,70,70,70,70,70,70,70,70,70,70,70,70,70,70,70,70,70,70,70,70,70,70,70,70,70,70,70,70,69,70,70,70,70,69,69,51,55]=nums192.p:=by decide +kernel
 have HS1:=Lz (λ(cs:Array Value) (wx:World) (L':List (Nat×Int)) (hl:LaidC R w L' w.heap.size cs wx)=>hl.str h.low he #[70,70,70,70,70,70,70,70,70,70,70,70,70,70,70,70,70,70,70,70,70,70,70,70,70,70,70,70,70,70,70,70,70,70,70,70,70,70,70,69,70,70,70,70,69,69,51,55] [70,70,70,70,70,70,70,70,70,70,70,70,70,70,70,70,70,70,70,70,70,70,70,70,70,70,70,70,70,70,70,70,70,70,70,70,70,70,70,69,70,70,70,70,69,69,51,55] D1 A1 (by decide) nums192.p V1 (by decide))
 clear D1 A1 V1
 have D2:(#[70,70,70,70,70,70,70,70,70,70,70,70,70,70,70,70,70,70,70,70,70,70,70,69,50,54,70,50,70,67,49,55,48,70,54,57,52,54,54,65,55,52,68,69,70,68,56,68]:Array UInt8).toList.map UInt8.toNat = [70,70,70,70,70,70,70,70,70,70,70,70,70,70,70,70,70,70,70,70,70,70,70,69,50,54,70,50,70,67,49,55,48,70,54,57,52,54,54,65,55,52,68,69,70,68,56,68]:=by decide +kernel
 have A2:([70,70,70,70,70,70,70,70,70,70,70,70,70,70,70,70,70,70,70,70,70,70,70,69,50,54,70,50,70,67,49,55,48,70,54,57,52,54,54,65,55,52,68,69,70,68,56,68]:List Nat).all hexB=true:=by decide +kernel
 have V2:hexN [70,70,70,70,70,70,70,70,70,70,70,70,70,70,70,70,70,70,70,70,70,70,70,69,50,54,70,50,70,67,49,55,48,70,54,57,52,54,54,65,55,52,68,69,70,68,56,68]=nums192.n:=by decide +kernel
 have HS2:=Lz (λ(cs:Array Value) (wx:World) (L':List (Nat×Int)) (hl:LaidC R w L' w.heap.size cs wx)=>hl.str h.low he #[70,70,70,70,70,70,70,70,70,70,70,70,70,70,70,70,70,70,70,70,70,70,70,69,50,54,70,50,70,67,49,55,48,70,54,57,52,54,54,65,55,52,68,69,70,68,56,68] [70,70,70,70,70,70,70,70,70,70,70,70,70,70,70,70,70,70,70,70,70,70,70,69,50,54,70,50,70,67,49,55,48,70,54,57,52,54,54,65,55,52,68,69,70,68,56,68] D2 A2 (by decide) nums192.n V2 (by decide))
 clear D2 A2 V2
 have D3:(#[48,48,48,48,48,48,48,48,48,48,48,48,48,48,48,48,48,48,48,48,48,48,48,48,48,48,48,48,48,48,48,48,48,48,48,48,48,48,48,48,48,48,48,48,48,48,48,51]:Array UInt8).toList.map UInt8.toNat = [48,48,48,48,48,48,48,48,48,48,48,48,48,48,48,48,48,48,48,48,48,48,48,48,48,48,48,48,48,48,48,48,48,48,48,48,48,48,48,48,48,48,48,48,48,48,48,51]:=by decide +kernel
 have A3:([48,48,48,48,48,48,48,48,48,48,48,48,48,48,48,48,48,48,48,48,48,48,48,48,48,48,48,48,48,48,48,48,48,48,48,48,48,48,48,48,48,48,48,48,48,48,48,51]:List Nat).all hexB=true:=by decide +kernel
 have V3:hexN [48,48,48,48,48,48,48,48,48,48,48,48,48,48,48,48,48,48,48,48,48,48,48,48,48,48,48,48,48,48,48,48,48,48,48,48,48,48,48,48,48,48,48,48,48,48,48,51]=nums192.b:=by decide +kernel
 have HS3:=Lz (λ(cs:Array Value) (wx:World) (L':List (Nat×Int)) (hl:LaidC R w L' w.heap.size cs wx)=>hl.str h.low he #[48,48,48,48,48,48,48,48,48,48,48,48,48,48,48,48,48,48,48,48,48,48,48,48,48,48,48,48,48,48,48,48,48,48,48,48,48,48,48,48,48,48,48,48,48,48,48,51] [48,48,48,48,48,48,48,48,48,48,48,48,48,48,48,48,48,48,48,48,48,48,48,48,48,48,48,48,48,48,48,48,48,48,48,48,48,48,48,48,48,48,48,48,48,48,48,51] D3 A3 (by decide) nums192.b V3 (by decide))
 clear D3 A3 V3
 have D4:(#[68,66,52,70,70,49,48,69,67,48,53,55,69,57,65,69,50,54,66,48,55,68,48,50,56,48,66,55,70,52,51,52,49,68,65,53,68,49,66,49,69,65,69,48,54,67,55,68]:Array UInt8).toList.map UInt8.toNat = [68,66,52,70,70,49,48,69,67,48,53,55,69,57,65,69,50,54,66,48,55,68,48,50,56,48,66,55,70,52,51,52,49,68,65,53,68,49,66,49,69,65,69,48,54,67,55,68]:=by decide +kernel
 have A4:([68,66,52,70,70,49,48,69,67,48,53,55,69,57,65,69,50,54,66,48,55,68,48,50,56,48,66,55,70,52,51,52,49,68,65,53,68,49,66,49,69,65,69,48,54,67,55,68]:List Nat).all hexB=true:=by decide +kernel
 have V4:hexN [68,66,52,70,70,49,48,69,67,48,53,55,69,57,65,69,50,54,66,48,55,68,48,50,56,48,66,55,70,52,51,52,49,68,65,53,68,49,66,49,69,65,69,48,54,67,55,68]=nums192.x:=by decide +kernel
 have HS4:=Lz (λ(cs:Array Value) (wx:World) (L':List (Nat×Int)) (hl:LaidC R w L' w.heap.size cs wx)=>hl.str h.low he #[68,66,52,70,70,49,48,69,67,48,53,55,69,57,65,69,50,54,66,48,55,68,48,50,56,48,66,55,70,52,51,52,49,68,65,53,68,49,66,49,69,65,69,48,54,67,55,68] [68,66,52,70,70,49,48,69,67,48,53,55,69,57,65,69,50,54,66,48,55,68,48,50,56,48,66,55,70,52,51,52,49,68,65,53,68,49,66,49,69,65,69,48,54,67,55,68] D4 A4 (by decide) nums192.x V4 (by decide))
 clear D4 A4 V4
 have D5:(#[57,66,50,70,50,70,54,68,57,67,53,54,50,56,65,55,56,52,52,49,54,51,68,48,49,53,66,69,56,54,51,52,52,48,56,50,65,65,56,56,68,57,53,69,50,70,57,68]:Array UInt8).toList.map UInt8.toNat = [57,66,50,70,50,70,54,68,57,67,53,54,50,56,65,55,56,52,52,49,54,51,68,48,49,53,66,69,56,54,51,52,52,48,56,50,65,65,56,56,68,57,53,69,50,70,57,68]:=by decide +kernel
 have A5:([57,66,50,70,50,70,54,68,57,67,53,54,50,56,65,55,56,52,52,49,54,51,68,48,49,53,66,69,56,54,51,52,52,48,56,50,65,65,56,56,68,57,53,69,50,70,57,68]:List Nat).all hexB=true:=by decide +kernel
 have V5:hexN [57,66,50,70,50,70,54,68,57,67,53,54,50,56,65,55,56,52,52,49,54,51,68,48,49,53,66,69,56,54,51,52,52,48,56,50,65,65,56,56,68,57,53,69,50,70,57,68]=nums192.y:=by decide +kernel
 have HS5:=Lz (λ(cs:Array Value) (wx:World) (L':List (Nat×Int)) (hl:LaidC R w L' w.heap.size cs wx)=>hl.str h.low he #[57,66,50,70,50,70,54,68,57,67,53,54,50,56,65,55,56,52,52,49,54,51,68,48,49,53,66,69,56,54,51,52,52,48,56,50,65,65,56,56,68,57,53,69,50,70,57,68] [57,66,50,70,50,70,54,68,57,67,53,54,50,56,65,55,56,52,52,49,54,51,68,48,49,53,66,69,56,54,51,52,52,48,56,50,65,65,56,56,68,57,53,69,50,70,57,68] D5 A5 (by decide) nums192.y V5 (by decide))
 clear D5 A5 V5
 obtain⟨nm,hnm⟩:∃ nm:Value,nm=.string ⟨#[115,101,99,112,49,57,50,107,49]⟩:=⟨_,rfl⟩
 have HL0:=Lz (LaidC.start h #[nm,.pointer .none,.pointer .none,.pointer .none,.pointer .none,.pointer .none,.int .i64 0])
 have e0:(w.alloc (.cells #[nm,.pointer .none,.pointer .none,.pointer .none,.pointer .none,.pointer .none,.int .i64 0] 110)).heap.size=w.heap.size+1:=Array.size_push _
 clear h he
 unfold ptr at *
 go_enter Tryz.func138,Tryz.ntmps138
 go_wp2_with fail
 rw[<-hnm]
 have K1:=HS1.out _ _ _ HL0.out
 rw[e0] at K1
 refine K1.mono ?_
 rintro e w1 ⟨rfl,hq⟩
 obtain⟨z1,hz1⟩:∃ z,z=w.heap.size+1:=⟨_,rfl⟩
 rw[<-hz1] at hq ⊢
 have HP1:=Lz (hq.poke 1 (.pointer (some ⟨z1,0,.none⟩)))
 obtain⟨ck,fk⟩:=hq.cellsAt (i:=1) (v:=.pointer .none) rfl
 have s1:(w1.setCell ⟨w.heap.size,1,.none⟩ (.pointer (some ⟨z1,0,.none⟩))).heap.size=w1.heap.size:=by simp[World.setCell]
 have HL1:=Lz (show LaidC R w _ w.heap.size #[nm,.pointer (some ⟨z1,0,.none⟩),.pointer .none,.pointer .none,.pointer .none,.pointer .none,.int .i64 0] (w1.setCell ⟨w.heap.size,1,.none⟩ (.pointer (some ⟨z1,0,.none⟩))) from HP1.out)
 clear hq K1 HP1 hz1 e0
 go_wp2_with fail
 have K2:=HS2.out _ _ _ HL1.out
 rw[s1] at K2
 refine K2.mono ?_
 rintro e w2 ⟨rfl,hq⟩
 obtain⟨z2,hz2⟩:∃ z,z=w1.heap.size:=⟨_,rfl⟩
 rw[<-hz2] at hq ⊢
 have HP2:=Lz (hq.poke 2 (.pointer (some ⟨z2,0,.none⟩)))
 obtain⟨ck,fk⟩:=hq.cellsAt (i:=2) (v:=.pointer .none) rfl
 have s2:(w2.setCell ⟨w.heap.size,2,.none⟩ (.pointer (some ⟨z2,0,.none⟩))).heap.size=w2.heap.size:=by simp[World.setCell]
 have HL2:=Lz (show LaidC R w _ w.heap.size #[nm,.pointer (some ⟨z1,0,.none⟩),.pointer (some ⟨z2,0,.none⟩),.pointer .none,.pointer .none,.pointer .none,.int .i64 0] (w2.setCell ⟨w.heap.size,2,.none⟩ (.pointer (some ⟨z2,0,.none⟩))) from HP2.out)
 clear hq K2 HP2 hz2 s1
 go_wp2_with fail
 have K3:=HS3.out _ _ _ HL2.out
 rw[s2] at K3
 refine K3.mono ?_
 rintro e w3 ⟨rfl,hq⟩
 obtain⟨z3,hz3⟩:∃ z,z=w2.heap.size:=⟨_,rfl⟩
 rw[<-hz3] at hq ⊢
 have HP3:=Lz (hq.poke 3 (.pointer (some ⟨z3,0,.none⟩)))
 obtain⟨ck,fk⟩:=hq.cellsAt (i:=3) (v:=.pointer .none) rfl
 have s3:(w3.setCell ⟨w.heap.size,3,.none⟩ (.pointer (some ⟨z3,0,.none⟩))).heap.size=w3.heap.size:=by simp[World.setCell]
 have HL3:=Lz (show LaidC R w _ w.heap.size #[nm,.pointer (some ⟨z1,0,.none⟩),.pointer (some ⟨z2,0,.none⟩),.pointer (some ⟨z3,0,.none⟩),.pointer .none,.pointer .none,.int .i64 0] (w3.setCell ⟨w.heap.size,3,.none⟩ (.pointer (some ⟨z3,0,.none⟩))) from HP3.out)
 clear hq K3 HP3 hz3 s2
 go_wp2_with fail
 have K4:=HS4.out _ _ _ HL3.out
 rw[s3] at K4
 refine K4.mono ?_
 rintro e w4 ⟨rfl,hq⟩
 obtain⟨z4,hz4⟩:∃ z,z=w3.heap.size:=⟨_,rfl⟩
 rw[<-hz4] at hq ⊢
 have HP4:=Lz (hq.poke 4 (.pointer (some ⟨z4,0,.none⟩)))
 obtain⟨ck,fk⟩:=hq.cellsAt (i:=4) (v:=.pointer .none) rfl
 have s4:(w4.setCell ⟨w.heap.size,4,.none⟩ (.pointer (some ⟨z4,0,.none⟩))).heap.size=w4.heap.size:=by simp[World.setCell]
 have HL4:=Lz (show LaidC R w _ w.heap.size #[nm,.pointer (some ⟨z1,0,.none⟩),.pointer (some ⟨z2,0,.none⟩),.pointer (some ⟨z3,0,.none⟩),.pointer (some ⟨z4,0,.none⟩),.pointer .none,.int .i64 0] (w4.setCell ⟨w.heap.size,4,.none⟩ (.pointer (some ⟨z4,0,.none⟩))) from HP4.out)
 clear hq K4 HP4 hz4 s3
 go_wp2_with fail
 have K5:=HS5.out _ _ _ HL4.out
 rw[s4] at K5
 refine K5.mono ?_
 rintro e w5 ⟨rfl,hq⟩
 obtain⟨z5,hz5⟩:∃ z,z=w4.heap.size:=⟨_,rfl⟩
 rw[<-hz5] at hq ⊢
 have HP5:=Lz (hq.poke 5 (.pointer (some ⟨z5,0,.none⟩)))
 obtain⟨ck,fk⟩:=hq.cellsAt (i:=5) (v:=.pointer .none) rfl
 have s5:(w5.setCell ⟨w.heap.size,5,.none⟩ (.pointer (some ⟨z5,0,.none⟩))).heap.size=w5.heap.size:=by simp[World.setCell]
 have HL5:=Lz (show LaidC R w _ w.heap.size #[nm,.pointer (some ⟨z1,0,.none⟩),.pointer (some ⟨z2,0,.none⟩),.pointer (some ⟨z3,0,.none⟩),.pointer (some ⟨z4,0,.none⟩),.pointer (some ⟨z5,0,.none⟩),.int .i64 0] (w5.setCell ⟨w.heap.size,5,.none⟩ (.pointer (some ⟨z5,0,.none⟩))) from HP5.out)
 obtain⟨ck6,fk6⟩:=HL5.out.cellsAt (i:=6) (v:=.int .i64 0) rfl
 clear hq K5 HP5 hz5 s4
 go_wp2_with fail
 go_ret
 obtain⟨h1,h2,h3,h4,-⟩:=HL5.out.poke 6 (.int .i64 192)
 exact⟨w.heap.size,z1,z2,z3,z4,z5,nm,rfl,h1,h2,h3,h4⟩
theorem init224 (h:Own R w0 w L) (ae:Addr) (he:w.cell? ⟨2,0,.none⟩=some (eofV ae)):Calls Tryz.prog 139 #[] w (CurveC R w L nums224 224):=by
 have D1:(#[70,70,70,70,70,70,70,70,70,70,70,70,70,70,70,70,70,70,70,70,70,70,70,70,70,70,70,70,70,70,70,70,70,70,70,70,70,70,70,70,70,70,70,70,70,70,70,69,70,70,70,70,69,53,54,68]:Array UInt8).toList.map UInt8.toNat = [70,70,70,70,70,70,70,70,70,70,70,70,70,70,70,70,70,70,70,70,70,70,70,70,70,70,70,70,70,70,70,70,70,70,70,70,70,70,70,70,70,70,70,70,70,70,70,69,70,70,70,70,69,53,54,68]:=by decide +kernel
 have A1:([70,70,70,70,70,70,70,70,70,70,70,70,70,70,70,70,70,70,70,70,70,70,70,70,70,70,70,70,70,70,70,70,70,70,70,70,70,70,70,70,70,70,70,70,70,70,70,69,70,70,70,70,69,53,54,68]:List Nat).all hexB=true:=by decide +kernel
 have V1:hexN [70,70,70,70,70,70,70,70,70,70,70,70,70,70,70,70,70,70,70,70,70,70,70,70,70,70,70,70,70,70,70,70,70,70,70,70,70,70,70,70,70,70,70,70,70,70,70,69,70,70,70,70,69,53,54,68]=nums224.p:=by decide +kernel
 have HS1:=Lz (λ(cs:Array Value) (wx:World) (L':List (Nat×Int)) (hl:LaidC R w L' w.heap.size cs wx)=>hl.str h.low he #[70,70,70,70,70,70,70,70,70,70,70,70,70,70,70,70,70,70,70,70,70,70,70,70,70,70,70,70,70,70,70,70,70,70,70,70,70,70,70,70,70,70,70,70,70,70,70,69,70,70,70,70,69,53,54,68] [70,70,70,70,70,70,70,70,70,70,70,70,70,70,70,70,70,70,70,70,70,70,70,70,70,70,70,70,70,70,70,70,70,70,70,70,70,70,70,70,70,70,70,70,70,70,70,69,70,70,70,70,69,53,54,68] D1 A1 (by decide) nums224.p V1 (by decide))
 clear D1 A1 V1
 have D2:(#[48,49,48,48,48,48,48,48,48,48,48,48,48,48,48,48,48,48,48,48,48,48,48,48,48,48,48,48,48,49,68,67,69,56,68,50,69,67,54,49,56,52,67,65,70,48,65,57,55,49,55,54,57,70,66,49,70,55]:Array UInt8).toList.map UInt8.toNat = [48,49,48,48,48,48,48,48,48,48,48,48,48,48,48,48,48,48,48,48,48,48,48,48,48,48,48,48,48,49,68,67,69,56,68,50,69,67,54,49,56,52,67,65,70,48,65,57,55,49,55,54,57,70,66,49,70,55]:=by decide +kernel
 have A2:([48,49,48,48,48,48,48,48,48,48,48,48,48,48,48,48,48,48,48,48,48,48,48,48,48,48,48,48,48,49,68,67,69,56,68,50,69,67,54,49,56,52,67,65,70,48,65,57,55,49,55,54,57,70,66,49,70,55]:List Nat).all hexB=true:=by decide +kernel
 have V2:hexN [48,49,48,48,48,48,48,48,48,48,48,48,48,48,48,48,48,48,48,48,48,48,48,48,48,48,48,48,48,49,68,67,69,56,68,50,69,67,54,49,56,52,67,65,70,48,65,57,55,49,55,54,57,70,66,49,70,55]=nums224.n:=by decide +kernel
 have HS2:=Lz (λ(cs:Array Value) (wx:World) (L':List (Nat×Int)) (hl:LaidC R w L' w.heap.size cs wx)=>hl.str h.low he #[48,49,48,48,48,48,48,48,48,48,48,48,48,48,48,48,48,48,48,48,48,48,48,48,48,48,48,48,48,49,68,67,69,56,68,50,69,67,54,49,56,52,67,65,70,48,65,57,55,49,55,54,57,70,66,49,70,55] [48,49,48,48,48,48,48,48,48,48,48,48,48,48,48,48,48,48,48,48,48,48,48,48,48,48,48,48,48,49,68,67,69,56,68,50,69,67,54,49,56,52,67,65,70,48,65,57,55,49,55,54,57,70,66,49,70,55] D2 A2 (by decide) nums224.n V2 (by decide))
 clear D2 A2 V2
 have D3:(#[48,48,48,48,48,48,48,48,48,48,48,48,48,48,48,48,48,48,48,48,48,48,48,48,48,48,48,48,48,48,48,48,48,48,48,48,48,48,48,48,48,48,48,48,48,48,48,48,48,48,48,48,48,48,48,53]:Array UInt8).toList.map UInt8.toNat = [48,48,48,48,48,48,48,48,48,48,48,48,48,48,48,48,48,48,48,48,48,48,48,48,48,48,48,48,48,48,48,48,48,48,48,48,48,48,48,48,48,48,48,48,48,48,48,48,48,48,48,48,48,48,48,53]:=by decide +kernel
 have A3:([48,48,48,48,48,48,48,48,48,48,48,48,48,48,48,48,48,48,48,48,48,48,48,48,48,48,48,48,48,48,48,48,48,48,48,48,48,48,48,48,48,48,48,48,48,48,48,48,48,48,48,48,48,48,48,53]:List Nat).all hexB=true:=by decide +kernel
 have V3:hexN [48,48,48,48,48,48,48,48,48,48,48,48,48,48,48,48,48,48,48,48,48,48,48,48,48,48,48,48,48,48,48,48,48,48,48,48,48,48,48,48,48,48,48,48,48,48,48,48,48,48,48,48,48,48,48,53]=nums224.b:=by decide +kernel
 have HS3:=Lz (λ(cs:Array Value) (wx:World) (L':List (Nat×Int)) (hl:LaidC R w L' w.heap.size cs wx)=>hl.str h.low he #[48,48,48,48,48,48,48,48,48,48,48,48,48,48,48,48,48,48,48,48,48,48,48,48,48,48,48,48,48,48,48,48,48,48,48,48,48,48,48,48,48,48,48,48,48,48,48,48,48,48,48,48,48,48,48,53] [48,48,48,48,48,48,48,48,48,48,48,48,48,48,48,48,48,48,48,48,48,48,48,48,48,48,48,48,48,48,48,48,48,48,48,48,48,48,48,48,48,48,48,48,48,48,48,48,48,48,48,48,48,48,48,53] D3 A3 (by decide) nums224.b V3 (by decide))
 clear D3 A3 V3
 have D4:(#[65,49,52,53,53,66,51,51,52,68,70,48,57,57,68,70,51,48,70,67,50,56,65,49,54,57,65,52,54,55,69,57,69,52,55,48,55,53,65,57,48,70,55,69,54,53,48,69,66,54,66,55,65,52,53,67]:Array UInt8).toList.map UInt8.toNat = [65,49,52,53,53,66,51,51,52,68,70,48,57,57,68,70,51,48,70,67,50,56,65,49,54,57,65,52,54,55,69,57,69,52,55,48,55,53,65,57,48,70,55,69,54,53,48,69,66,54,66,55,65,52,53,67]:=by decide +kernel
 have A4:([65,49,52,53,53,66,51,51,52,68,70,48,57,57,68,70,51,48,70,67,50,56,65,49,54,57,65,52,54,55,69,57,69,52,55,48,55,53,65,57,48,70,55,69,54,53,48,69,66,54,66,55,65,52,53,67]:List Nat).all hexB=true:=by decide +kernel
 have V4:hexN [65,49,52,53,53,66,51,51,52,68,70,48,57,57,68,70,51,48,70,67,50,56,65,49,54,57,65,52,54,55,69,57,69,52,55,48,55,53,65,57,48,70,55,69,54,53,48,69,66,54,66,55,65,52,53,67]=nums224.x:=by decide +kernel
 have HS4:=Lz (λ(cs:Array Value) (wx:World) (L':List (Nat×Int)) (hl:LaidC R w L' w.heap.size cs wx)=>hl.str h.low he #[65,49,52,53,53,66,51,51,52,68,70,48,57,57,68,70,51,48,70,67,50,56,65,49,54,57,65,52,54,55,69,57,69,52,55,48,55,53,65,57,48,70,55,69,54,53,48,69,66,54,66,55,65,52,53,67] [65,49,52,53,53,66,51,51,52,68,70,48,57,57,68,70,51,48,70,67,50,56,65,49,54,57,65,52,54,55,69,57,69,52,55,48,55,53,65,57,48,70,55,69,54,53,48,69,66,54,66,55,65,52,53,67] D4 A4 (by decide) nums224.x V4 (by decide))
 clear D4 A4 V4
 have D5:(#[55,69,48,56,57,70,69,68,55,70,66,65,51,52,52,50,56,50,67,65,70,66,68,54,70,55,69,51,49,57,70,55,67,48,66,48,66,68,53,57,69,50,67,65,52,66,68,66,53,53,54,68,54,49,65,53]:Array UInt8).toList.map UInt8.toNat = [55,69,48,56,57,70,69,68,55,70,66,65,51,52,52,50,56,50,67,65,70,66,68,54,70,55,69,51,49,57,70,55,67,48,66,48,66,68,53,57,69,50,67,65,52,66,68,66,53,53,54,68,54,49,65,53]:=by decide +kernel
 have A5:([55,69,48,56,57,70,69,68,55,70,66,65,51,52,52,50,56,50,67,65,70,66,68,54,70,55,69,51,49,57,70,55,67,48,66,48,66,68,53,57,69,50,67,65,52,66,68,66,53,53,54,68,54,49,65,53]:List Nat).all hexB=true:=by decide +kernel
 have V5:hexN [55,69,48,56,57,70,69,68,55,70,66,65,51,52,52,50,56,50,67,65,70,66,68,54,70,55,69,51,49,57,70,55,67,48,66,48,66,68,53,57,69,50,67,65,52,66,68,66,53,53,54,68,54,49,65,53]=nums224.y:=by decide +kernel
 have HS5:=Lz (λ(cs:Array Value) (wx:World) (L':List (Nat×Int)) (hl:LaidC R w L' w.heap.size cs wx)=>hl.str h.low he #[55,69,48,56,57,70,69,68,55,70,66,65,51,52,52,50,56,50,67,65,70,66,68,54,70,55,69,51,49,57,70,55,67,48,66,48,66,68,53,57,69,50,67,65,52,66,68,66,53,53,54,68,54,49,65,53] [55,69,48,56,57,70,69,68,55,70,66,65,51,52,52,50,56,50,67,65,70,66,68,54,70,55,69,51,49,57,70,55,67,48,66,48,66,68,53,57,69,50,67,65,52,66,68,66,53,53,54,68,54,49,65,53] D5 A5 (by decide) nums224.y V5 (by decide))
 clear D5 A5 V5
 obtain⟨nm,hnm⟩:∃ nm:Value,nm=.string ⟨#[115,101,99,112,50,50,52,107,49]⟩:=⟨_,rfl⟩
 have HL0:=Lz (LaidC.start h #[nm,.pointer .none,.pointer .none,.pointer .none,.pointer .none,.pointer .none,.int .i64 0])
 have e0:(w.alloc (.cells #[nm,.pointer .none,.pointer .none,.pointer .none,.pointer .none,.pointer .none,.int .i64 0] 110)).heap.size=w.heap.size+1:=Array.size_push _
 clear h he
 unfold ptr at *
 go_enter Tryz.func139,Tryz.ntmps139
 go_wp2_with fail
 rw[<-hnm]
 have K1:=HS1.out _ _ _ HL0.out
 rw[e0] at K1
 refine K1.mono ?_
 rintro e w1 ⟨rfl,hq⟩
 obtain⟨z1,hz1⟩:∃ z,z=w.heap.size+1:=⟨_,rfl⟩
 rw[<-hz1] at hq ⊢
 have HP1:=Lz (hq.poke 1 (.pointer (some ⟨z1,0,.none⟩)))
 obtain⟨ck,fk⟩:=hq.cellsAt (i:=1) (v:=.pointer .none) rfl
 have s1:(w1.setCell ⟨w.heap.size,1,.none⟩ (.pointer (some ⟨z1,0,.none⟩))).heap.size=w1.heap.size:=by simp[World.setCell]
 have HL1:=Lz (show LaidC R w _ w.heap.size #[nm,.pointer (some ⟨z1,0,.none⟩),.pointer .none,.pointer .none,.pointer .none,.pointer .none,.int .i64 0] (w1.setCell ⟨w.heap.size,1,.none⟩ (.pointer (some ⟨z1,0,.none⟩))) from HP1.out)
 clear hq K1 HP1 hz1 e0
 go_wp2_with fail
 have K2:=HS2.out _ _ _ HL1.out
 rw[s1] at K2
 refine K2.mono ?_
 rintro e w2 ⟨rfl,hq⟩
 obtain⟨z2,hz2⟩:∃ z,z=w1.heap.size:=⟨_,rfl⟩
 rw[<-hz2] at hq ⊢
 have HP2:=Lz (hq.poke 2 (.pointer (some ⟨z2,0,.none⟩)))
 obtain⟨ck,fk⟩:=hq.cellsAt (i:=2) (v:=.pointer .none) rfl
 have s2:(w2.setCell ⟨w.heap.size,2,.none⟩ (.pointer (some ⟨z2,0,.none⟩))).heap.size=w2.heap.size:=by simp[World.setCell]
 have HL2:=Lz (show LaidC R w _ w.heap.size #[nm,.pointer (some ⟨z1,0,.none⟩),.pointer (some ⟨z2,0,.none⟩),.pointer .none,.pointer .none,.pointer .none,.int .i64 0] (w2.setCell ⟨w.heap.size,2,.none⟩ (.pointer (some ⟨z2,0,.none⟩))) from HP2.out)
 clear hq K2 HP2 hz2 s1
 go_wp2_with fail
 have K3:=HS3.out _ _ _ HL2.out
 rw[s2] at K3
 refine K3.mono ?_
 rintro e w3 ⟨rfl,hq⟩
 obtain⟨z3,hz3⟩:∃ z,z=w2.heap.size:=⟨_,rfl⟩
 rw[<-hz3] at hq ⊢
 have HP3:=Lz (hq.poke 3 (.pointer (some ⟨z3,0,.none⟩)))
 obtain⟨ck,fk⟩:=hq.cellsAt (i:=3) (v:=.pointer .none) rfl
 have s3:(w3.setCell ⟨w.heap.size,3,.none⟩ (.pointer (some ⟨z3,0,.none⟩))).heap.size=w3.heap.size:=by simp[World.setCell]
 have HL3:=Lz (show LaidC R w _ w.heap.size #[nm,.pointer (some ⟨z1,0,.none⟩),.pointer (some ⟨z2,0,.none⟩),.pointer (some ⟨z3,0,.none⟩),.pointer .none,.pointer .none,.int .i64 0] (w3.setCell ⟨w.heap.size,3,.none⟩ (.pointer (some ⟨z3,0,.none⟩))) from HP3.out)
 clear hq K3 HP3 hz3 s2
 go_wp2_with fail
 have K4:=HS4.out _ _ _ HL3.out
 rw[s3] at K4
 refine K4.mono ?_
 rintro e w4 ⟨rfl,hq⟩
 obtain⟨z4,hz4⟩:∃ z,z=w3.heap.size:=⟨_,rfl⟩
 rw[<-hz4] at hq ⊢
 have HP4:=Lz (hq.poke 4 (.pointer (some ⟨z4,0,.none⟩)))
 obtain⟨ck,fk⟩:=hq.cellsAt (i:=4) (v:=.pointer .none) rfl
 have s4:(w4.setCell ⟨w.heap.size,4,.none⟩ (.pointer (some ⟨z4,0,.none⟩))).heap.size=w4.heap.size:=by simp[World.setCell]
 have HL4:=Lz (show LaidC R w _ w.heap.size #[nm,.pointer (some ⟨z1,0,.none⟩),.pointer (some ⟨z2,0,.none⟩),.pointer (some ⟨z3,0,.none⟩),.pointer (some ⟨z4,0,.none⟩),.pointer .none,.int .i64 0] (w4.setCell ⟨w.heap.size,4,.none⟩ (.pointer (some ⟨z4,0,.none⟩))) from HP4.out)
 clear hq K4 HP4 hz4 s3
 go_wp2_with fail
 have K5:=HS5.out _ _ _ HL4.out
 rw[s4] at K5
 refine K5.mono ?_
 rintro e w5 ⟨rfl,hq⟩
 obtain⟨z5,hz5⟩:∃ z,z=w4.heap.size:=⟨_,rfl⟩
 rw[<-hz5] at hq ⊢
 have HP5:=Lz (hq.poke 5 (.pointer (some ⟨z5,0,.none⟩)))
 obtain⟨ck,fk⟩:=hq.cellsAt (i:=5) (v:=.pointer .none) rfl
 have s5:(w5.setCell ⟨w.heap.size,5,.none⟩ (.pointer (some ⟨z5,0,.none⟩))).heap.size=w5.heap.size:=by simp[World.setCell]
 have HL5:=Lz (show LaidC R w _ w.heap.size #[nm,.pointer (some ⟨z1,0,.none⟩),.pointer (some ⟨z2,0,.none⟩),.pointer (some ⟨z3,0,.none⟩),.pointer (some ⟨z4,0,.none⟩),.pointer (some ⟨z5,0,.none⟩),.int .i64 0] (w5.setCell ⟨w.heap.size,5,.none⟩ (.pointer (some ⟨z5,0,.none⟩))) from HP5.out)
 obtain⟨ck6,fk6⟩:=HL5.out.cellsAt (i:=6) (v:=.int .i64 0) rfl
 clear hq K5 HP5 hz5 s4
 go_wp2_with fail
 go_ret
 obtain⟨h1,h2,h3,h4,-⟩:=HL5.out.poke 6 (.int .i64 224)
 exact⟨w.heap.size,z1,z2,z3,z4,z5,nm,rfl,h1,h2,h3,h4⟩
theorem init256 (h:Own R w0 w L) (ae:Addr) (he:w.cell? ⟨2,0,.none⟩=some (eofV ae)):Calls Tryz.prog 140 #[] w (CurveC R w L nums256 256):=by
 have D1:(#[70,70,70,70,70,70,70,70,70,70,70,70,70,70,70,70,70,70,70,70,70,70,70,70,70,70,70,70,70,70,70,70,70,70,70,70,70,70,70,70,70,70,70,70,70,70,70,70,70,70,70,70,70,70,70,69,70,70,70,70,70,67,50,70]:Array UInt8).toList.map UInt8.toNat = [70,70,70,70,70,70,70,70,70,70,70,70,70,70,70,70,70,70,70,70,70,70,70,70,70,70,70,70,70,70,70,70,70,70,70,70,70,70,70,70,70,70,70,70,70,70,70,70,70,70,70,70,70,70,70,69,70,70,70,70,70,67,50,70]:=by decide +kernel
 have A1:([70,70,70,70,70,70,70,70,70,70,70,70,70,70,70,70,70,70,70,70,70,70,70,70,70,70,70,70,70,70,70,70,70,70,70,70,70,70,70,70,70,70,70,70,70,70,70,70,70,70,70,70,70,70,70,69,70,70,70,70,70,67,50,70]:List Nat).all hexB=true:=by decide +kernel
 have V1:hexN [70,70,70,70,70,70,70,70,70,70,70,70,70,70,70,70,70,70,70,70,70,70,70,70,70,70,70,70,70,70,70,70,70,70,70,70,70,70,70,70,70,70,70,70,70,70,70,70,70,70,70,70,70,70,70,69,70,70,70,70,70,67,50,70]=nums256.p:=by decide +kernel
 have HS1:=Lz (λ(cs:Array Value) (wx:World) (L':List (Nat×Int)) (hl:LaidC R w L' w.heap.size cs wx)=>hl.str h.low he #[70,70,70,70,70,70,70,70,70,70,70,70,70,70,70,70,70,70,70,70,70,70,70,70,70,70,70,70,70,70,70,70,70,70,70,70,70,70,70,70,70,70,70,70,70,70,70,70,70,70,70,70,70,70,70,69,70,70,70,70,70,67,50,70] [70,70,70,70,70,70,70,70,70,70,70,70,70,70,70,70,70,70,70,70,70,70,70,70,70,70,70,70,70,70,70,70,70,70,70,70,70,70,70,70,70,70,70,70,70,70,70,70,70,70,70,70,70,70,70,69,70,70,70,70,70,67,50,70] D1 A1 (by decide) nums256.p V1 (by decide))
 clear D1 A1 V1
 have D2:(#[70,70,70,70,70,70,70,70,70,70,70,70,70,70,70,70,70,70,70,70,70,70,70,70,70,70,70,70,70,70,70,69,66,65,65,69,68,67,69,54,65,70,52,56,65,48,51,66,66,70,68,50,53,69,56,67,68,48,51,54,52,49,52,49]:Array UInt8).toList.map UInt8.toNat = [70,70,70,70,70,70,70,70,70,70,70,70,70,70,70,70,70,70,70,70,70,70,70,70,70,70,70,70,70,70,70,69,66,65,65,69,68,67,69,54,65,70,52,56,65,48,51,66,66,70,68,50,53,69,56,67,68,48,51,54,52,49,52,49]:=by decide +kernel
 have A2:([70,70,70,70,70,70,70,70,70,70,70,70,70,70,70,70,70,70,70,70,70,70,70,70,70,70,70,70,70,70,70,69,66,65,65,69,68,67,69,54,65,70,52,56,65,48,51,66,66,70,68,50,53,69,56,67,68,48,51,54,52,49,52,49]:List Nat).all hexB=true:=by decide +kernel
 have V2:hexN [70,70,70,70,70,70,70,70,70,70,70,70,70,70,70,70,70,70,70,70,70,70,70,70,70,70,70,70,70,70,70,69,66,65,65,69,68,67,69,54,65,70,52,56,65,48,51,66,66,70,68,50,53,69,56,67,68,48,51,54,52,49,52,49]=nums256.n:=by decide +kernel
 have HS2:=Lz (λ(cs:Array Value) (wx:World) (L':List (Nat×Int)) (hl:LaidC R w L' w.heap.size cs wx)=>hl.str h.low he #[70,70,70,70,70,70,70,70,70,70,70,70,70,70,70,70,70,70,70,70,70,70,70,70,70,70,70,70,70,70,70,69,66,65,65,69,68,67,69,54,65,70,52,56,65,48,51,66,66,70,68,50,53,69,56,67,68,48,51,54,52,49,52,49] [70,70,70,70,70,70,70,70,70,70,70,70,70,70,70,70,70,70,70,70,70,70,70,70,70,70,70,70,70,70,70,69,66,65,65,69,68,67,69,54,65,70,52,56,65,48,51,66,66,70,68,50,53,69,56,67,68,48,51,54,52,49,52,49] D2 A2 (by decide) nums256.n V2 (by decide))
 clear D2 A2 V2
 have D3:(#[48,48,48,48,48,48,48,48,48,48,48,48,48,48,48,48,48,48,48,48,48,48,48,48,48,48,48,48,48,48,48,48,48,48,48,48,48,48,48,48,48,48,48,48,48,48,48,48,48,48,48,48,48,48,48,48,48,48,48,48,48,48,48,55]:Array UInt8).toList.map UInt8.toNat = [48,48,48,48,48,48,48,48,48,48,48,48,48,48,48,48,48,48,48,48,48,48,48,48,48,48,48,48,48,48,48,48,48,48,48,48,48,48,48,48,48,48,48,48,48,48,48,48,48,48,48,48,48,48,48,48,48,48,48,48,48,48,48,55]:=by decide +kernel
 have A3:([48,48,48,48,48,48,48,48,48,48,48,48,48,48,48,48,48,48,48,48,48,48,48,48,48,48,48,48,48,48,48,48,48,48,48,48,48,48,48,48,48,48,48,48,48,48,48,48,48,48,48,48,48,48,48,48,48,48,48,48,48,48,48,55]:List Nat).all hexB=true:=by decide +kernel
 have V3:hexN [48,48,48,48,48,48,48,48,48,48,48,48,48,48,48,48,48,48,48,48,48,48,48,48,48,48,48,48,48,48,48,48,48,48,48,48,48,48,48,48,48,48,48,48,48,48,48,48,48,48,48,48,48,48,48,48,48,48,48,48,48,48,48,55]=nums256.b:=by decide +kernel
 have HS3:=Lz (λ(cs:Array Value) (wx:World) (L':List (Nat×Int)) (hl:LaidC R w L' w.heap.size cs wx)=>hl.str h.low he #[48,48,48,48,48,48,48,48,48,48,48,48,48,48,48,48,48,48,48,48,48,48,48,48,48,48,48,48,48,48,48,48,48,48,48,48,48,48,48,48,48,48,48,48,48,48,48,48,48,48,48,48,48,48,48,48,48,48,48,48,48,48,48,55] [48,48,48,48,48,48,48,48,48,48,48,48,48,48,48,48,48,48,48,48,48,48,48,48,48,48,48,48,48,48,48,48,48,48,48,48,48,48,48,48,48,48,48,48,48,48,48,48,48,48,48,48,48,48,48,48,48,48,48,48,48,48,48,55] D3 A3 (by decide) nums256.b V3 (by decide))
 clear D3 A3 V3
 have D4:(#[55,57,66,69,54,54,55,69,70,57,68,67,66,66,65,67,53,53,65,48,54,50,57,53,67,69,56,55,48,66,48,55,48,50,57,66,70,67,68,66,50,68,67,69,50,56,68,57,53,57,70,50,56,49,53,66,49,54,70,56,49,55,57,56]:Array UInt8).toList.map UInt8.toNat = [55,57,66,69,54,54,55,69,70,57,68,67,66,66,65,67,53,53,65,48,54,50,57,53,67,69,56,55,48,66,48,55,48,50,57,66,70,67,68,66,50,68,67,69,50,56,68,57,53,57,70,50,56,49,53,66,49,54,70,56,49,55,57,56]:=by decide +kernel
 have A4:([55,57,66,69,54,54,55,69,70,57,68,67,66,66,65,67,53,53,65,48,54,50,57,53,67,69,56,55,48,66,48,55,48,50,57,66,70,67,68,66,50,68,67,69,50,56,68,57,53,57,70,50,56,49,53,66,49,54,70,56,49,55,57,56]:List Nat).all hexB=true:=by decide +kernel
 have V4:hexN [55,57,66,69,54,54,55,69,70,57,68,67,66,66,65,67,53,53,65,48,54,50,57,53,67,69,56,55,48,66,48,55,48,50,57,66,70,67,68,66,50,68,67,69,50,56,68,57,53,57,70,50,56,49,53,66,49,54,70,56,49,55,57,56]=nums256.x:=by decide +kernel
 have HS4:=Lz (λ(cs:Array Value) (wx:World) (L':List (Nat×Int)) (hl:LaidC R w L' w.heap.size cs wx)=>hl.str h.low he #[55,57,66,69,54,54,55,69,70,57,68,67,66,66,65,67,53,53,65,48,54,50,57,53,67,69,56,55,48,66,48,55,48,50,57,66,70,67,68,66,50,68,67,69,50,56,68,57,53,57,70,50,56,49,53,66,49,54,70,56,49,55,57,56] [55,57,66,69,54,54,55,69,70,57,68,67,66,66,65,67,53,53,65,48,54,50,57,53,67,69,56,55,48,66,48,55,48,50,57,66,70,67,68,66,50,68,67,69,50,56,68,57,53,57,70,50,56,49,53,66,49,54,70,56,49,55,57,56] D4 A4 (by decide) nums256.x V4 (by decide))
 clear D4 A4 V4
 have D5:(#[52,56,51,65,68,65,55,55,50,54,65,51,67,52,54,53,53,68,65,52,70,66,70,67,48,69,49,49,48,56,65,56,70,68,49,55,66,52,52,56,65,54,56,53,53,52,49,57,57,67,52,55,68,48,56,70,70,66,49,48,68,52,66,56]:Array UInt8).toList.map UInt8.toNat = [52,56,51,65,68,65,55,55,50,54,65,51,67,52,54,53,53,68,65,52,70,66,70,67,48,69,49,49,48,56,65,56,70,68,49,55,66,52,52,56,65,54,56,53,53,52,49,57,57,67,52,55,68,48,56,70,70,66,49,48,68,52,66,56]:=by decide +kernel
 have A5:([52,56,51,65,68,65,55,55,50,54,65,51,67,52,54,53,53,68,65,52,70,66,70,67,48,69,49,49,48,56,65,56,70,68,49,55,66,52,52,56,65,54,56,53,53,52,49,57,57,67,52,55,68,48,56,70,70,66,49,48,68,52,66,56]:List Nat).all hexB=true:=by decide +kernel
 have V5:hexN [52,56,51,65,68,65,55,55,50,54,65,51,67,52,54,53,53,68,65,52,70,66,70,67,48,69,49,49,48,56,65,56,70,68,49,55,66,52,52,56,65,54,56,53,53,52,49,57,57,67,52,55,68,48,56,70,70,66,49,48,68,52,66,56]=nums256.y:=by decide +kernel
 have HS5:=Lz (λ(cs:Array Value) (wx:World) (L':List (Nat×Int)) (hl:LaidC R w L' w.heap.size cs wx)=>hl.str h.low he #[52,56,51,65,68,65,55,55,50,54,65,51,67,52,54,53,53,68,65,52,70,66,70,67,48,69,49,49,48,56,65,56,70,68,49,55,66,52,52,56,65,54,56,53,53,52,49,57,57,67,52,55,68,48,56,70,70,66,49,48,68,52,66,56] [52,56,51,65,68,65,55,55,50,54,65,51,67,52,54,53,53,68,65,52,70,66,70,67,48,69,49,49,48,56,65,56,70,68,49,55,66,52,52,56,65,54,56,53,53,52,49,57,57,67,52,55,68,48,56,70,70,66,49,48,68,52,66,56] D5 A5 (by decide) nums256.y V5 (by decide))
 clear D5 A5 V5
 obtain⟨nm,hnm⟩:∃ nm:Value,nm=.string ⟨#[115,101,99,112,50,53,54,107,49]⟩:=⟨_,rfl⟩
 have HL0:=Lz (LaidC.start h #[nm,.pointer .none,.pointer .none,.pointer .none,.pointer .none,.pointer .none,.int .i64 0])
 have e0:(w.alloc (.cells #[nm,.pointer .none,.pointer .none,.pointer .none,.pointer .none,.pointer .none,.int .i64 0] 110)).heap.size=w.heap.size+1:=Array.size_push _
 clear h he
 unfold ptr at *
 go_enter Tryz.func140,Tryz.ntmps140
 go_wp2_with fail
 rw[<-hnm]
 have K1:=HS1.out _ _ _ HL0.out
 rw[e0] at K1
 refine K1.mono ?_
 rintro e w1 ⟨rfl,hq⟩
 obtain⟨z1,hz1⟩:∃ z,z=w.heap.size+1:=⟨_,rfl⟩
 rw[<-hz1] at hq ⊢
 have HP1:=Lz (hq.poke 1 (.pointer (some ⟨z1,0,.none⟩)))
 obtain⟨ck,fk⟩:=hq.cellsAt (i:=1) (v:=.pointer .none) rfl
 have s1:(w1.setCell ⟨w.heap.size,1,.none⟩ (.pointer (some ⟨z1,0,.none⟩))).heap.size=w1.heap.size:=by simp[World.setCell]
 have HL1:=Lz (show LaidC R w _ w.heap.size #[nm,.pointer (some ⟨z1,0,.none⟩),.pointer .none,.pointer .none,.pointer .none,.pointer .none,.int .i64 0] (w1.setCell ⟨w.heap.size,1,.none⟩ (.pointer (some ⟨z1,0,.none⟩))) from HP1.out)
 clear hq K1 HP1 hz1 e0
 go_wp2_with fail
 have K2:=HS2.out _ _ _ HL1.out
 rw[s1] at K2
 refine K2.mono ?_
 rintro e w2 ⟨rfl,hq⟩
 obtain⟨z2,hz2⟩:∃ z,z=w1.heap.size:=⟨_,rfl⟩
 rw[<-hz2] at hq ⊢
 have HP2:=Lz (hq.poke 2 (.pointer (some ⟨z2,0,.none⟩)))
 obtain⟨ck,fk⟩:=hq.cellsAt (i:=2) (v:=.pointer .none) rfl
 have s2:(w2.setCell ⟨w.heap.size,2,.none⟩ (.pointer (some ⟨z2,0,.none⟩))).heap.size=w2.heap.size:=by simp[World.setCell]
 have HL2:=Lz (show LaidC R w _ w.heap.size #[nm,.pointer (some ⟨z1,0,.none⟩),.pointer (some ⟨z2,0,.none⟩),.pointer .none,.pointer .none,.pointer .none,.int .i64 0] (w2.setCell ⟨w.heap.size,2,.none⟩ (.pointer (some ⟨z2,0,.none⟩))) from HP2.out)
 clear hq K2 HP2 hz2 s1
 go_wp2_with fail
 have K3:=HS3.out _ _ _ HL2.out
 rw[s2] at K3
 refine K3.mono ?_
 rintro e w3 ⟨rfl,hq⟩
 obtain⟨z3,hz3⟩:∃ z,z=w2.heap.size:=⟨_,rfl⟩
 rw[<-hz3] at hq ⊢
 have HP3:=Lz (hq.poke 3 (.pointer (some ⟨z3,0,.none⟩)))
 obtain⟨ck,fk⟩:=hq.cellsAt (i:=3) (v:=.pointer .none) rfl
 have s3:(w3.setCell ⟨w.heap.size,3,.none⟩ (.pointer (some ⟨z3,0,.none⟩))).heap.size=w3.heap.size:=by simp[World.setCell]
 have HL3:=Lz (show LaidC R w _ w.heap.size #[nm,.pointer (some ⟨z1,0,.none⟩),.pointer (some ⟨z2,0,.none⟩),.pointer (some ⟨z3,0,.none⟩),.pointer .none,.pointer .none,.int .i64 0] (w3.setCell ⟨w.heap.size,3,.none⟩ (.pointer (some ⟨z3,0,.none⟩))) from HP3.out)
 clear hq K3 HP3 hz3 s2
 go_wp2_with fail
 have K4:=HS4.out _ _ _ HL3.out
 rw[s3] at K4
 refine K4.mono ?_
 rintro e w4 ⟨rfl,hq⟩
 obtain⟨z4,hz4⟩:∃ z,z=w3.heap.size:=⟨_,rfl⟩
 rw[<-hz4] at hq ⊢
 have HP4:=Lz (hq.poke 4 (.pointer (some ⟨z4,0,.none⟩)))
 obtain⟨ck,fk⟩:=hq.cellsAt (i:=4) (v:=.pointer .none) rfl
 have s4:(w4.setCell ⟨w.heap.size,4,.none⟩ (.pointer (some ⟨z4,0,.none⟩))).heap.size=w4.heap.size:=by simp[World.setCell]
 have HL4:=Lz (show LaidC R w _ w.heap.size #[nm,.pointer (some ⟨z1,0,.none⟩),.pointer (some ⟨z2,0,.none⟩),.pointer (some ⟨z3,0,.none⟩),.pointer (some ⟨z4,0,.none⟩),.pointer .none,.int .i64 0] (w4.setCell ⟨w.heap.size,4,.none⟩ (.pointer (some ⟨z4,0,.none⟩))) from HP4.out)
 clear hq K4 HP4 hz4 s3
 go_wp2_with fail
 have K5:=HS5.out _ _ _ HL4.out
 rw[s4] at K5
 refine K5.mono ?_
 rintro e w5 ⟨rfl,hq⟩
 obtain⟨z5,hz5⟩:∃ z,z=w4.heap.size:=⟨_,rfl⟩
 rw[<-hz5] at hq ⊢
 have HP5:=Lz (hq.poke 5 (.pointer (some ⟨z5,0,.none⟩)))
 obtain⟨ck,fk⟩:=hq.cellsAt (i:=5) (v:=.pointer .none) rfl
 have s5:(w5.setCell ⟨w.heap.size,5,.none⟩ (.pointer (some ⟨z5,0,.none⟩))).heap.size=w5.heap.size:=by simp[World.setCell]
 have HL5:=Lz (show LaidC R w _ w.heap.size #[nm,.pointer (some ⟨z1,0,.none⟩),.pointer (some ⟨z2,0,.none⟩),.pointer (some ⟨z3,0,.none⟩),.pointer (some ⟨z4,0,.none⟩),.pointer (some ⟨z5,0,.none⟩),.int .i64 0] (w5.setCell ⟨w.heap.size,5,.none⟩ (.pointer (some ⟨z5,0,.none⟩))) from HP5.out)
 obtain⟨ck6,fk6⟩:=HL5.out.cellsAt (i:=6) (v:=.int .i64 0) rfl
 clear hq K5 HP5 hz5 s4
 go_wp2_with fail
 go_ret
 obtain⟨h1,h2,h3,h4,-⟩:=HL5.out.poke 6 (.int .i64 256)
 exact⟨w.heap.size,z1,z2,z3,z4,z5,nm,rfl,h1,h2,h3,h4⟩
end
end Go.Proofs.YtohhkjamddojmaaGreatDoor.Bit
