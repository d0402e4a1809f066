/- The primes of the curves as great numbers of the specification. The specification's projective points: small multiples, coordinates. -/
import Derived.Test.YtohhkjamddojmaaGreatDoorSO
import Derived.Test.YtohhkjamddojmaaGreatDoorBF
import Derived.MapKept
import Derived.WideMake
import Derived.Test.YtohhkjamddojmaaGreatDoorBR
set_option maxRecDepth 100000
set_option maxHeartbeats 16000000
namespace Go.Proofs.YtohhkjamddojmaaGreatDoor.Bit
open Go.RowKit
open Big EcLaw
theorem map_put (w:World) (es:Array MapEntry) (clock:Nat) (k:Int) (v:Value) (hf:Instr.findNow (.int .i64) (.int .i64 k) es.toList 0=some none) :
 (Instr.mapUpdate 118 (.map (some w.heap.size)) (.int .i64 k) v).run Tryz.prog (w.alloc (.map es clock))=.ok () (w.alloc (.map (es.push { key:=.int .i64 k,val:=v,born:=clock }) (clock+1))):=by
 have hb:(w.alloc (.map es clock)).heap[w.heap.size]? = some (.map es clock):=(MapKept.heap_alloc w _).1
 have hc:(Instr.checkKey false 10000 3 (.int .i64 k)).run Tryz.prog (w.alloc (.map es clock))=.ok () (w.alloc (.map es clock)):=MapKept.run_checkKey (k:=.int .i64 k) Tryz.underlying3 (by simp[MapKept.IsKey]) false 9999
 have e:(w.heap.push (.map es clock)).setIfInBounds w.heap.size (.map (es.push { key:=.int .i64 k,val:=v,born:=clock }) (clock+1))=w.heap.push (.map (es.push { key:=.int .i64 k,val:=v,born:=clock }) (clock+1)):=by
  apply Array.ext'
  simp
 simp[Instr.mapUpdate,run_underlying Tryz.underlying118,MapKept.run_getObj_map hb,hc,MapKept.run_findKey Tryz.underlying3 hf,MapKept.run_setObj_map _ hb,Result.andThen]
 show({ w.alloc (.map es clock) with heap:=_ }:World)=_
 unfold World.alloc
 simp only
 rw[e]
theorem map_look (w:World) (es:Array MapEntry) (clock:Nat) (k:Int) (i:Nat) (v:Value) (hf:Instr.findNow (.int .i64) (.int .i64 k) es.toList 0=some (some (i,v))) :
 (Instr.lookup 118 (.map (some w.heap.size)) (.int .i64 k) false).run Tryz.prog (w.alloc (.map es clock))=.ok v (w.alloc (.map es clock)):=by
 have hb:(w.alloc (.map es clock)).heap[w.heap.size]? = some (.map es clock):=(MapKept.heap_alloc w _).1
 have hc:∀ b,(Instr.checkKey b 10000 3 (.int .i64 k)).run Tryz.prog (w.alloc (.map es clock))=.ok () (w.alloc (.map es clock)):=λb=>MapKept.run_checkKey (k:=.int .i64 k) Tryz.underlying3 (by simp[MapKept.IsKey]) b 9999
 simp[Instr.lookup,run_underlying Tryz.underlying118,MapKept.run_getObj_map hb,hc,MapKept.run_findKey Tryz.underlying3 hf,Result.andThen]
def iv (n:Nat):Value:=.int .i64 n
theorem mkI (w:World) {N:Nat} (hN:N<=4000000):(Instr.makeSlice 36 (.int .i64 (N:Int)) (.int .i64 (N:Int))).run Tryz.prog w=.ok (.slice (some ⟨w.heap.size,0,.none⟩) N N) (w.alloc (.cells (((List.replicate N 0).map iv).toArray) 3)):=by
 obtain⟨i0,hi,hz0,hz1,hz2⟩:=info_parts info3
 have h:=run_make (P:=Tryz.prog) w 36 3 i0 (.int .i64 0) Tryz.underlying36 hi hz0 .i64 .i64 (N:Int) (N:Int) (by omega) (Int.le_refl _) (by rw[hz2];omega) (by omega)
 have e:madeCells (Value.int .i64 0).cells (Int.toNat (N:Int)*1)=((List.replicate N 0).map iv).toArray:=by
  apply Array.toList_inj.1
  rw[Int.toNat_natCast,Nat.mul_one]
  rw[show(madeCells (Value.int IntKind.i64 0).cells N).toList=List.replicate N (iv 0) from toList_madeCells_one _ _]
  rw[List.map_replicate]
 rw[h,hz1,e,Int.toNat_natCast]
theorem row_block {w:World} {b:Nat} {xs:List Nat} (hl:xs.length<=maxLen) (h:w.heap[b]? = some (.cells ((xs.map iv).toArray) 3 (0,0))):RowI w (some ⟨b,0,.none⟩) xs.length xs:=by
 refine⟨Nat.le_refl _,hl,λ_=>⟨b,0,rfl⟩,λb' o e i hi=>?_⟩
 cases e
 rw[Nat.zero_add]
 apply zwx h
 simp[hi,iv]
theorem two_rows (w1:World) (xs ys:List Nat) (n:Nat) (hn:w1.heap.size=n) (h1:xs.length<=maxLen) (h2:ys.length<=maxLen) :
 RowI ((w1.alloc (.cells ((xs.map iv).toArray) 3)).alloc (.cells ((ys.map iv).toArray) 3)) (some ⟨n,0,.none⟩) xs.length xs/\RowI ((w1.alloc (.cells ((xs.map iv).toArray) 3)).alloc (.cells ((ys.map iv).toArray) 3)) (some ⟨n+1,0,.none⟩) ys.length ys ∧
 w1.grownBy ((w1.alloc (.cells ((xs.map iv).toArray) 3)).alloc (.cells ((ys.map iv).toArray) 3)) .none:=by
 subst hn
 have s1:(w1.alloc (.cells ((xs.map iv).toArray) 3)).heap.size=w1.heap.size+1:=Array.size_push _
 have a:=heap_alloc_new w1 (.cells ((xs.map iv).toArray) 3)
 have b:=heap_alloc_new (w1.alloc (.cells ((xs.map iv).toArray) 3)) (.cells ((ys.map iv).toArray) 3)
 rw[s1] at b
 refine⟨row_block h1 ?_,row_block h2 b,(zzy _ _ _).trans (zzy _ _ _)⟩
 rw[(MapKept.heap_alloc (w1.alloc (.cells ((xs.map iv).toArray) 3)) _).2 _ (by rw[s1];omega)]
 exact a
abbrev es1:Array MapEntry:=#[{ key:=.int .i64 160,val:=.int .i64 21389,born:=0 }]
abbrev es2:Array MapEntry:=#[{ key:=.int .i64 160,val:=.int .i64 21389,born:=0 },{ key:=.int .i64 192,val:=.int .i64 4553,born:=1 }]
abbrev es3:Array MapEntry:=#[{ key:=.int .i64 160,val:=.int .i64 21389,born:=0 },{ key:=.int .i64 192,val:=.int .i64 4553,born:=1 },{ key:=.int .i64 224,val:=.int .i64 6803,born:=2 }]
abbrev es4:Array MapEntry:=#[{ key:=.int .i64 160,val:=.int .i64 21389,born:=0 },{ key:=.int .i64 192,val:=.int .i64 4553,born:=1 },{ key:=.int .i64 224,val:=.int .i64 6803,born:=2 },{ key:=.int .i64 256,val:=.int .i64 977,born:=3 }]
abbrev cs160:Array Value:=#[.int .i64 0,.int .i64 0,.int .i64 0,.int .i64 0,.int .i64 0,.int .i64 0,.int .i64 0,.int .i64 0,.int .i64 0,.int .i64 0,.int .i64 1]
abbrev cs192:Array Value:=#[.int .i64 0,.int .i64 0,.int .i64 0,.int .i64 0,.int .i64 0,.int .i64 0,.int .i64 0,.int .i64 0,.int .i64 0,.int .i64 0,.int .i64 0,.int .i64 0,.int .i64 1]
abbrev cs224:Array Value:=#[.int .i64 0,.int .i64 0,.int .i64 0,.int .i64 0,.int .i64 0,.int .i64 0,.int .i64 0,.int .i64 0,.int .i64 0,.int .i64 0,.int .i64 0,.int .i64 0,.int .i64 0,.int .i64 0,.int .i64 1]
abbrev cs256:Array Value:=#[.int .i64 0,.int .i64 0,.int .i64 0,.int .i64 0,.int .i64 0,.int .i64 0,.int .i64 0,.int .i64 0,.int .i64 0,.int .i64 0,.int .i64 0,.int .i64 0,.int .i64 0,.int .i64 0,.int .i64 0,.int .i64 0,.int .i64 1]
abbrev cs32:Array Value:=#[.int .i64 0,.int .i64 0,.int .i64 1]
theorem put0 (w:World):(Instr.mapUpdate 118 (.map (some w.heap.size)) (.int .i64 160) (.int .i64 21389)).run Tryz.prog (w.alloc (.map #[] 0))=.ok () (w.alloc (.map es1 1)):=map_put w #[] 0 160 (.int .i64 21389) rfl
theorem put1 (w:World):(Instr.mapUpdate 118 (.map (some w.heap.size)) (.int .i64 192) (.int .i64 4553)).run Tryz.prog (w.alloc (.map es1 1))=.ok () (w.alloc (.map es2 2)):=map_put w es1 1 192 (.int .i64 4553) rfl
theorem put2 (w:World):(Instr.mapUpdate 118 (.map (some w.heap.size)) (.int .i64 224) (.int .i64 6803)).run Tryz.prog (w.alloc (.map es2 2))=.ok () (w.alloc (.map es3 3)):=map_put w es2 2 224 (.int .i64 6803) rfl
theorem put3 (w:World):(Instr.mapUpdate 118 (.map (some w.heap.size)) (.int .i64 256) (.int .i64 977)).run Tryz.prog (w.alloc (.map es3 3))=.ok () (w.alloc (.map es4 4)):=map_put w es3 3 256 (.int .i64 977) rfl
theorem look160 (w:World):(Instr.lookup 118 (.map (some w.heap.size)) (.int .i64 160) false).run Tryz.prog (w.alloc (.map es4 4))=.ok (.int .i64 21389) (w.alloc (.map es4 4)):=map_look w es4 4 160 0 (.int .i64 21389) rfl
theorem prime160O (w:World):Calls Tryz.prog 20 #[.int .i64 160] w (BigP nums160.p w):=by
 have hmm:=@run_makeMap_plain Tryz.prog
 have p0:=put0 w
 have p1:=put1 w
 have p2:=put2 w
 have p3:=put3 w
 have p4:=look160 w
 have b1:bd (2^160) = [0,0,0,0,0,0,0,0,0,0,1]:=by decide +kernel
 have b2:bd (2^32) = [0,0,1]:=by decide +kernel
 have b3:bd 21389 = [21389]:=by decide +kernel
 have e:2^160-2^32-21389=nums160.p:=by decide +kernel
 have g1:w.grownBy (w.alloc (.map es4 4)) .none:=zzy _ _ _
 have s1:(w.alloc (.map es4 4)).heap.size=w.heap.size+1:=Array.size_push _
 have T:=two_rows (w.alloc (.map es4 4)) [0,0,0,0,0,0,0,0,0,0,1] [0,0,1] _ s1 (by decide) (by decide)
 have T':RowI (((w.alloc (.map es4 4)).alloc (.cells cs160 3)).alloc (.cells cs32 3)) (some ⟨w.heap.size+1,0,.none⟩) 11 [0,0,0,0,0,0,0,0,0,0,1]/\RowI (((w.alloc (.map es4 4)).alloc (.cells cs160 3)).alloc (.cells cs32 3)) (some ⟨w.heap.size+1+1,0,.none⟩) 3 [0,0,1]/\(w.alloc (.map es4 4)).grownBy (((w.alloc (.map es4 4)).alloc (.cells cs160 3)).alloc (.cells cs32 3)) .none:=T
 have M1:=minusS (some ⟨w.heap.size+1,0,.none⟩) (some ⟨w.heap.size+1+1,0,.none⟩) 11 3 (2^160) (2^32) (((w.alloc (.map es4 4)).alloc (.cells cs160 3)).alloc (.cells cs32 3)) (by rw[b1];exact T'.1) (by rw[b2];exact T'.2.1) (by decide) (by rw[b1];decide)
 rw[b1,b2] at M1
 have C1:=Lz (show Calls Tryz.prog 23 #[.slice (some ⟨w.heap.size+1,0,.none⟩) 11 11,.slice (some ⟨w.heap.size+1+1,0,.none⟩) 3 3] (((w.alloc (.map es4 4)).alloc (.cells cs160 3)).alloc (.cells cs32 3)) (BigP (2^160-2^32) (((w.alloc (.map es4 4)).alloc (.cells cs160 3)).alloc (.cells cs32 3))) from M1)
 have HG:=Lz (g1.trans T'.2.2)
 have C2:=Lz (λ(w2:World) p c (h:RowI w2 p c (bd (2^160-2^32)))=>minusS p (some ⟨w2.heap.size,0,.none⟩) c 1 (2^160-2^32) 21389 (w2.alloc (.cells #[.int .i64 21389] 3)) (h.kept (zzy _ _ _)) (by rw[b3];exact row_block (xs:=[21389]) (by decide) (heap_alloc_new _ _)) (by decide) (by decide +kernel))
 rw[b3,e] at C2
 have hmk:=mkI (w.alloc (.map es4 4)) (N:=11) (by decide)
 rw[s1] at hmk
 simp[iv,List.replicate] at hmk
 obtain⟨D,hD⟩:∃ D,D=2^160-2^32:=⟨_,rfl⟩
 rw[<-hD] at C1 C2
 clear b1 b2 b3 e g1 s1 T T' M1 hD
 simp only[es1,es2,es3,es4,cs160,cs32] at *
 go_enter Tryz.func20,Tryz.ntmps20
 go_wp2_with fail
 refine C1.out.mono ?_
 rintro en w2 ⟨p,c,rfl,h1,h2⟩
 have C3:=Lz (C2.out w2 p c h1)
 have H2:=Lz h2
 clear h1 h2 C1 C2 hmm p0 p1 p2 p3 p4 hmk
 generalize (bd D).length=ld at *
 go_wp2_with fail
 refine C3.out.mono ?_
 rintro en w3 ⟨q,d,rfl,h1,h2⟩
 have H3:=Lz (And.intro h1 h2)
 clear h1 h2 C3
 generalize hld:(bd nums160.p).length=lp at *
 go_wp2_with fail
 go_ret
 exact⟨q,d,by rw[hld];rfl,H3.out.1,(HG.out.trans H2.out).trans ((zzy _ _ _).trans H3.out.2)⟩
theorem look192 (w:World):(Instr.lookup 118 (.map (some w.heap.size)) (.int .i64 192) false).run Tryz.prog (w.alloc (.map es4 4))=.ok (.int .i64 4553) (w.alloc (.map es4 4)):=map_look w es4 4 192 1 (.int .i64 4553) rfl
theorem prime192O (w:World):Calls Tryz.prog 20 #[.int .i64 192] w (BigP nums192.p w):=by
 have hmm:=@run_makeMap_plain Tryz.prog
 have p0:=put0 w
 have p1:=put1 w
 have p2:=put2 w
 have p3:=put3 w
 have p4:=look192 w
 have b1:bd (2^192) = [0,0,0,0,0,0,0,0,0,0,0,0,1]:=by decide +kernel
 have b2:bd (2^32) = [0,0,1]:=by decide +kernel
 have b3:bd 4553 = [4553]:=by decide +kernel
 have e:2^192-2^32-4553=nums192.p:=by decide +kernel
 have g1:w.grownBy (w.alloc (.map es4 4)) .none:=zzy _ _ _
 have s1:(w.alloc (.map es4 4)).heap.size=w.heap.size+1:=Array.size_push _
 have T:=two_rows (w.alloc (.map es4 4)) [0,0,0,0,0,0,0,0,0,0,0,0,1] [0,0,1] _ s1 (by decide) (by decide)
 have T':RowI (((w.alloc (.map es4 4)).alloc (.cells cs192 3)).alloc (.cells cs32 3)) (some ⟨w.heap.size+1,0,.none⟩) 13 [0,0,0,0,0,0,0,0,0,0,0,0,1]/\RowI (((w.alloc (.map es4 4)).alloc (.cells cs192 3)).alloc (.cells cs32 3)) (some ⟨w.heap.size+1+1,0,.none⟩) 3 [0,0,1]/\(w.alloc (.map es4 4)).grownBy (((w.alloc (.map es4 4)).alloc (.cells cs192 3)).alloc (.cells cs32 3)) .none:=T
 have M1:=minusS (some ⟨w.heap.size+1,0,.none⟩) (some ⟨w.heap.size+1+1,0,.none⟩) 13 3 (2^192) (2^32) (((w.alloc (.map es4 4)).alloc (.cells cs192 3)).alloc (.cells cs32 3)) (by rw[b1];exact T'.1) (by rw[b2];exact T'.2.1) (by decide) (by rw[b1];decide)
 rw[b1,b2] at M1
 have C1:=Lz (show Calls Tryz.prog 23 #[.slice (some ⟨w.heap.size+1,0,.none⟩) 13 13,.slice (some ⟨w.heap.size+1+1,0,.none⟩) 3 3] (((w.alloc (.map es4 4)).alloc (.cells cs192 3)).alloc (.cells cs32 3)) (BigP (2^192-2^32) (((w.alloc (.map es4 4)).alloc (.cells cs192 3)).alloc (.cells cs32 3))) from M1)
 have HG:=Lz (g1.trans T'.2.2)
 have C2:=Lz (λ(w2:World) p c (h:RowI w2 p c (bd (2^192-2^32)))=>minusS p (some ⟨w2.heap.size,0,.none⟩) c 1 (2^192-2^32) 4553 (w2.alloc (.cells #[.int .i64 4553] 3)) (h.kept (zzy _ _ _)) (by rw[b3];exact row_block (xs:=[4553]) (by decide) (heap_alloc_new _ _)) (by decide) (by decide +kernel))
 rw[b3,e] at C2
 have hmk:=mkI (w.alloc (.map es4 4)) (N:=13) (by decide)
 rw[s1] at hmk
 simp[iv,List.replicate] at hmk
 obtain⟨D,hD⟩:∃ D,D=2^192-2^32:=⟨_,rfl⟩
 rw[<-hD] at C1 C2
 clear b1 b2 b3 e g1 s1 T T' M1 hD
 simp only[es1,es2,es3,es4,cs192,cs32] at *
 go_enter Tryz.func20,Tryz.ntmps20
 go_wp2_with fail
 refine C1.out.mono ?_
 rintro en w2 ⟨p,c,rfl,h1,h2⟩
 have C3:=Lz (C2.out w2 p c h1)
 have H2:=Lz h2
 clear h1 h2 C1 C2 hmm p0 p1 p2 p3 p4 hmk
 generalize (bd D).length=ld at *
 go_wp2_with fail
 refine C3.out.mono ?_
 rintro en w3 ⟨q,d,rfl,h1,h2⟩
 have H3:=Lz (And.intro h1 h2)
 clear h1 h2 C3
 generalize hld:(bd nums192.p).length=lp at *
 go_wp2_with fail
 go_ret
 exact⟨q,d,by rw[hld];rfl,H3.out.1,(HG.out.trans H2.out).trans ((zzy _ _ _).trans H3.out.2)⟩
theorem look224 (w:World):(Instr.lookup 118 (.map (some w.heap.size)) (.int .i64 224) false).run Tryz.prog (w.alloc (.map es4 4))=.ok (.int .i64 6803) (w.alloc (.map es4 4)):=map_look w es4 4 224 2 (.int .i64 6803) rfl
theorem prime224O (w:World):Calls Tryz.prog 20 #[.int .i64 224] w (BigP nums224.p w):=by
 have hmm:=@run_makeMap_plain Tryz.prog
 have p0:=put0 w
 have p1:=put1 w
 have p2:=put2 w
 have p3:=put3 w
 have p4:=look224 w
 have b1:bd (2^224) = [0,0,0,0,0,0,0,0,0,0,0,0,0,0,1]:=by decide +kernel
 have b2:bd (2^32) = [0,0,1]:=by decide +kernel
 have b3:bd 6803 = [6803]:=by decide +kernel
 have e:2^224-2^32-6803=nums224.p:=by decide +kernel
 have g1:w.grownBy (w.alloc (.map es4 4)) .none:=zzy _ _ _
 have s1:(w.alloc (.map es4 4)).heap.size=w.heap.size+1:=Array.size_push _
 have T:=two_rows (w.alloc (.map es4 4)) [0,0,0,0,0,0,0,0,0,0,0,0,0,0,1] [0,0,1] _ s1 (by decide) (by decide)
 have T':RowI (((w.alloc (.map es4 4)).alloc (.cells cs224 3)).alloc (.cells cs32 3)) (some ⟨w.heap.size+1,0,.none⟩) 15 [0,0,0,0,0,0,0,0,0,0,0,0,0,0,1]/\RowI (((w.alloc (.map es4 4)).alloc (.cells cs224 3)).alloc (.cells cs32 3)) (some ⟨w.heap.size+1+1,0,.none⟩) 3 [0,0,1]/\(w.alloc (.map es4 4)).grownBy (((w.alloc (.map es4 4)).alloc (.cells cs224 3)).alloc (.cells cs32 3)) .none:=T
 have M1:=minusS (some ⟨w.heap.size+1,0,.none⟩) (some ⟨w.heap.size+1+1,0,.none⟩) 15 3 (2^224) (2^32) (((w.alloc (.map es4 4)).alloc (.cells cs224 3)).alloc (.cells cs32 3)) (by rw[b1];exact T'.1) (by rw[b2];exact T'.2.1) (by decide) (by rw[b1];decide)
 rw[b1,b2] at M1
 have C1:=Lz (show Calls Tryz.prog 23 #[.slice (some ⟨w.heap.size+1,0,.none⟩) 15 15,.slice (some ⟨w.heap.size+1+1,0,.none⟩) 3 3] (((w.alloc (.map es4 4)).alloc (.cells cs224 3)).alloc (.cells cs32 3)) (BigP (2^224-2^32) (((w.alloc (.map es4 4)).alloc (.cells cs224 3)).alloc (.cells cs32 3))) from M1)
 have HG:=Lz (g1.trans T'.2.2)
 have C2:=Lz (λ(w2:World) p c (h:RowI w2 p c (bd (2^224-2^32)))=>minusS p (some ⟨w2.heap.size,0,.none⟩) c 1 (2^224-2^32) 6803 (w2.alloc (.cells #[.int .i64 6803] 3)) (h.kept (zzy _ _ _)) (by rw[b3];exact row_block (xs:=[6803]) (by decide) (heap_alloc_new _ _)) (by decide) (by decide +kernel))
 rw[b3,e] at C2
 have hmk:=mkI (w.alloc (.map es4 4)) (N:=15) (by decide)
 rw[s1] at hmk
 simp[iv,List.replicate] at hmk
 obtain⟨D,hD⟩:∃ D,D=2^224-2^32:=⟨_,rfl⟩
 rw[<-hD] at C1 C2
 clear b1 b2 b3 e g1 s1 T T' M1 hD
 simp only[es1,es2,es3,es4,cs224,cs32] at *
 go_enter Tryz.func20,Tryz.ntmps20
 go_wp2_with fail
 refine C1.out.mono ?_
 rintro en w2 ⟨p,c,rfl,h1,h2⟩
 have C3:=Lz (C2.out w2 p c h1)
 have H2:=Lz h2
 clear h1 h2 C1 C2 hmm p0 p1 p2 p3 p4 hmk
 generalize (bd D).length=ld at *
 go_wp2_with fail
 refine C3.out.mono ?_
 rintro en w3 ⟨q,d,rfl,h1,h2⟩
 have H3:=Lz (And.intro h1 h2)
 clear h1 h2 C3
 generalize hld:(bd nums224.p).length=lp at *
 go_wp2_with fail
 go_ret
 exact⟨q,d,by rw[hld];rfl,H3.out.1,(HG.out.trans H2.out).trans ((zzy _ _ _).trans H3.out.2)⟩
theorem look256 (w:World):(Instr.lookup 118 (.map (some w.heap.size)) (.int .i64 256) false).run Tryz.prog (w.alloc (.map es4 4))=.ok (.int .i64 977) (w.alloc (.map es4 4)):=map_look w es4 4 256 3 (.int .i64 977) rfl
theorem prime256O (w:World):Calls Tryz.prog 20 #[.int .i64 256] w (BigP nums256.p w):=by
 have hmm:=@run_makeMap_plain Tryz.prog
 have p0:=put0 w
 have p1:=put1 w
 have p2:=put2 w
 have p3:=put3 w
 have p4:=look256 w
 have b1:bd (2^256) = [0,0,0,0,0,0,0,0,0,0,0,0,0,0,0,0,1]:=by decide +kernel
 have b2:bd (2^32) = [0,0,1]:=by decide +kernel
 have b3:bd 977 = [977]:=by decide +kernel
 have e:2^256-2^32-977=nums256.p:=by decide +kernel
 have g1:w.grownBy (w.alloc (.map es4 4)) .none:=zzy _ _ _
 have s1:(w.alloc (.map es4 4)).heap.size=w.heap.size+1:=Array.size_push _
 have T:=two_rows (w.alloc (.map es4 4)) [0,0,0,0,0,0,0,0,0,0,0,0,0,0,0,0,1] [0,0,1] _ s1 (by decide) (by decide)
 have T':RowI (((w.alloc (.map es4 4)).alloc (.cells cs256 3)).alloc (.cells cs32 3)) (some ⟨w.heap.size+1,0,.none⟩) 17 [0,0,0,0,0,0,0,0,0,0,0,0,0,0,0,0,1]/\RowI (((w.alloc (.map es4 4)).alloc (.cells cs256 3)).alloc (.cells cs32 3)) (some ⟨w.heap.size+1+1,0,.none⟩) 3 [0,0,1]/\(w.alloc (.map es4 4)).grownBy (((w.alloc (.map es4 4)).alloc (.cells cs256 3)).alloc (.cells cs32 3)) .none:=T
 have M1:=minusS (some ⟨w.heap.size+1,0,.none⟩) (some ⟨w.heap.size+1+1,0,.none⟩) 17 3 (2^256) (2^32) (((w.alloc (.map es4 4)).alloc (.cells cs256 3)).alloc (.cells cs32 3)) (by rw[b1];exact T'.1) (by rw[b2];exact T'.2.1) (by decide) (by rw[b1];decide)
 rw[b1,b2] at M1
 have C1:=Lz (show Calls Tryz.prog 23 #[.slice (some ⟨w.heap.size+1,0,.none⟩) 17 17,.slice (some ⟨w.heap.size+1+1,0,.none⟩) 3 3] (((w.alloc (.map es4 4)).alloc (.cells cs256 3)).alloc (.cells cs32 3)) (BigP (2^256-2^32) (((w.alloc (.map es4 4)).alloc (.cells cs256 3)).alloc (.cells cs32 3))) from M1)
 have HG:=Lz (g1.trans T'.2.2)
 have C2:=Lz (λ(w2:World) p c (h:RowI w2 p c (bd (2^256-2^32)))=>minusS p (some ⟨w2.heap.size,0,.none⟩) c 1 (2^256-2^32) 977 (w2.alloc (.cells #[.int .i64 977] 3)) (h.kept (zzy _ _ _)) (by rw[b3];exact row_block (xs:=[977]) (by decide) (heap_alloc_new _ _)) (by decide) (by decide +kernel))
 rw[b3,e] at C2
 have hmk:=mkI (w.alloc (.map es4 4)) (N:=17) (by decide)
 rw[s1] at hmk
 simp[iv,List.replicate] at hmk
 obtain⟨D,hD⟩:∃ D,D=2^256-2^32:=⟨_,rfl⟩
 rw[<-hD] at C1 C2
 clear b1 b2 b3 e g1 s1 T T' M1 hD
 simp only[es1,es2,es3,es4,cs256,cs32] at *
 go_enter Tryz.func20,Tryz.ntmps20
 go_wp2_with fail
 refine C1.out.mono ?_
 rintro en w2 ⟨p,c,rfl,h1,h2⟩
 have C3:=Lz (C2.out w2 p c h1)
 have H2:=Lz h2
 clear h1 h2 C1 C2 hmm p0 p1 p2 p3 p4 hmk
 generalize (bd D).length=ld at *
 go_wp2_with fail
 refine C3.out.mono ?_
 rintro en w3 ⟨q,d,rfl,h1,h2⟩
 have H3:=Lz (And.intro h1 h2)
 clear h1 h2 C3
 generalize hld:(bd nums256.p).length=lp at *
 go_wp2_with fail
 go_ret
 exact⟨q,d,by rw[hld];rfl,H3.out.1,(HG.out.trans H2.out).trans ((zzy _ _ _).trans H3.out.2)⟩
theorem primeO {b:Nat} {c:Nums} (h:Four b c) (w:World):Calls Tryz.prog 20 #[.int .i64 (b:Nat)] w (BigP c.p w):=by
 cases h
 . exact prime160O w
 . exact prime192O w
 . exact prime224O w
 . exact prime256O w
end Go.Proofs.YtohhkjamddojmaaGreatDoor.Bit

set_option maxRecDepth 100000
set_option maxHeartbeats 16000000
namespace Go.Proofs.YtohhkjamddojmaaGreatDoor.Bit
open Go.RowKit
open Big
theorem bd_small {n:Nat} (h0:0<n) (h1:n<65536):bd n = [n]:=by
 rw[bd_pos (by omega),show n/B16=0 from Nat.div_eq_of_lt h1,bd_zero,show n%B16=n from Nat.mod_eq_of_lt h1]
theorem dg_small {w:World} {b n:Nat} (h0:0<n) (h1:n<65536) (h:w.heap[b]? = some (.cells #[.int .i64 (n:Nat)] 3 (0,0))):Dg w (.slice (some ⟨b,0,.none⟩) 1 1) n:=by
 refine⟨_,_,by rw[bd_small h0 h1];rfl,?_⟩
 rw[bd_small h0 h1]
 exact row_block (xs:=[n]) (by simp[maxLen]) h
theorem timesE {w:World} {f v:Value} {P a n m:Nat} (hm:m=fm P n a) (hP:Fd P) (hf:Dg w f P) (hv:Dg w v a) (ha:a<P) (h0:0<n) (h1:n<65536) (hn:n<P):Calls Tryz.prog 112 #[.agg #[f],.int .i64 (n:Nat),v] w (DgP m w):=by
 have g1:=zzy w (.cells #[f] 39) .none
 have g2:w.grownBy ((w.alloc (.cells #[f] 39)).alloc (.cells #[.int .i64 (n:Nat)] 3)) .none:=g1.trans (zzy _ _ .none)
 have s1:(w.alloc (.cells #[f] 39)).heap.size=w.heap.size+1:=Array.size_push _
 have n0:=zzv (k:=0) (heap_alloc_new w (.cells #[f] 39)) rfl
 have q0:=(zzy (w.alloc (.cells #[f] 39)) (.cells #[.int .i64 (n:Nat)] 3) .none).cell n0 (by simp)
 have dn:=dg_small h0 h1 (heap_alloc_new (w.alloc (.cells #[f] 39)) (.cells #[.int .i64 (n:Nat)] 3))
 rw[s1] at dn
 have C:=Lz (mulE hm hP (hf.kept g2) dn (hv.kept g2) hn ha)
 have G:=Lz g2
 obtain⟨pf,cf,rfl,-⟩:=hf
 obtain⟨pv,cv,rfl,-⟩:=hv
 clear hm g1 g2 s1 n0 dn ha h0 h1 hn hP
 go_enter Tryz.func112,Tryz.ntmps112
 go_wp2_with fail
 refine C.out.mono ?_
 rintro en u ⟨v1,rfl,d1,gr⟩
 have HF:=Lz (show DgP m w (.returned v1) u from⟨_,rfl,d1,G.out.trans gr⟩)
 clear d1 gr
 go_wp2_with fail
 go_ret
 exact HF.out
def TrP (x y z:Nat) (w:World) (e:Ending) (w':World):Prop:=∃ vx vy vz,e=.returned (.agg #[vx,vy,vz])/\Dg w' vx x/\Dg w' vy y/\Dg w' vz z/\w.grownBy w' .none
abbrev one3:Obj:=.cells #[.int .i64 1] 3
theorem two_ones (w2:World) (z:Nat) (hz:w2.heap.size=z):Dg ((w2.alloc one3).alloc one3) (.slice (some ⟨z,0,.none⟩) 1 1) 1/\Dg ((w2.alloc one3).alloc one3) (.slice (some ⟨z+1,0,.none⟩) 1 1) 1/\w2.grownBy ((w2.alloc one3).alloc one3) .none:=by
 subst hz
 have s1:(w2.alloc one3).heap.size=w2.heap.size+1:=Array.size_push _
 have h1:=dg_small (n:=1) (by decide) (by decide) (heap_alloc_new w2 one3)
 have h2:=dg_small (n:=1) (by decide) (by decide) (heap_alloc_new (w2.alloc one3) one3)
 rw[s1] at h2
 exact⟨h1.kept (zzy _ _ _),h2,(zzy _ _ _).trans (zzy _ _ _)⟩
theorem dg_nil0 (w:World):Dg w (.slice .none 0 0) 0:=by
 refine⟨.none,0,by rw[bd_zero];rfl,?_⟩
 rw[bd_zero]
 exact⟨Nat.le_refl _,by simp[maxLen],λh=>absurd h (Nat.lt_irrefl _),λ_ _ e=>by cases e⟩
theorem three {w w':World} {b:Nat} {x y z:Value} {T:TypeId} (h:w.heap[b]? = some (.cells #[x,y,z] T)) (k:w.grownBy w' .none):w'.cell? ⟨b,0,.none⟩=some x/\w'.cell? ⟨b,1,.none⟩=some y/\w'.cell? ⟨b,2,.none⟩=some z:=
 ⟨k.cell (zzv (k:=0) h rfl) (by simp),k.cell (zzv (k:=1) h rfl) (by simp),k.cell (zzv (k:=2) h rfl) (by simp)⟩
theorem coordsN {w:World} {u v:Value} (pu pv:Option Addr) (lu cu lv cv:Nat) (hu:u=.slice pu lu cu) (hv:v=.slice pv lv cv):Calls Tryz.prog 66 #[.agg #[u,v,.bool true]] w (TrP 1 1 0 w):=by
 subst hu hv
 have s1:(w.alloc (.cells #[.slice pu lu cu,.slice pv lv cv,.bool true] 45)).heap.size=w.heap.size+1:=Array.size_push _
 have n1:=heap_alloc_new (w.alloc (.cells #[.slice pu lu cu,.slice pv lv cv,.bool true] 45)) (.cells #[.slice (some ⟨w.heap.size+1+1,0,.none⟩) 1 1,.slice (some ⟨w.heap.size+1+1+1,0,.none⟩) 1 1,.slice .none 0 0] 120)
 have s2:((w.alloc (.cells #[.slice pu lu cu,.slice pv lv cv,.bool true] 45)).alloc (.cells #[.slice (some ⟨w.heap.size+1+1,0,.none⟩) 1 1,.slice (some ⟨w.heap.size+1+1+1,0,.none⟩) 1 1,.slice .none 0 0] 120)).heap.size=w.heap.size+1+1:=(Array.size_push _).trans (by rw[s1])
 have T:=two_ones _ _ s2
 rw[s1] at n1
 have c:=three n1 T.2.2
 have HC:=Lz c
 have HF:=Lz (show TrP 1 1 0 w _ _ from⟨_,_,_,rfl,T.1,T.2.1,dg_nil0 _,(zzy _ _ .none).trans ((zzy _ _ .none).trans T.2.2)⟩)
 clear s1 n1 s2 T c
 go_enter Tryz.func66,Tryz.ntmps66
 go_wp2_with fail
 go_wp2_with fail
 obtain⟨c0,c1,c2⟩:=HC.out
 simp[bodyPost,results,Tryz.results66,go_sem,c0,c1,c2]
 exact HF.out
theorem coordsS {w:World} {u v:Value} {x y:Nat} (hu:Dg w u x) (hv:Dg w v y):Calls Tryz.prog 66 #[.agg #[u,v,.bool false]] w (TrP x y 1 w):=by
 obtain⟨pu,cu,rfl,-⟩:=id hu
 obtain⟨pv,cv,rfl,-⟩:=id hv
 generalize (bd x).length=lu at *
 generalize (bd y).length=lv at *
 have s1:(w.alloc (.cells #[.slice pu lu cu,.slice pv lv cv,.bool false] 45)).heap.size=w.heap.size+1:=Array.size_push _
 have n1:=heap_alloc_new (w.alloc (.cells #[.slice pu lu cu,.slice pv lv cv,.bool false] 45)) (.cells #[.slice pu lu cu,.slice pv lv cv,.slice (some ⟨w.heap.size+1+1,0,.none⟩) 1 1] 120)
 have s2:((w.alloc (.cells #[.slice pu lu cu,.slice pv lv cv,.bool false] 45)).alloc (.cells #[.slice pu lu cu,.slice pv lv cv,.slice (some ⟨w.heap.size+1+1,0,.none⟩) 1 1] 120)).heap.size=w.heap.size+1+1:=(Array.size_push _).trans (by rw[s1])
 have d1:=dg_small (n:=1) (by decide) (by decide) (heap_alloc_new ((w.alloc (.cells #[.slice pu lu cu,.slice pv lv cv,.bool false] 45)).alloc (.cells #[.slice pu lu cu,.slice pv lv cv,.slice (some ⟨w.heap.size+1+1,0,.none⟩) 1 1] 120)) one3)
 rw[s1] at n1
 rw[s2] at d1
 have c:=three n1 (zzy _ one3 .none)
 have g:=(zzy w (.cells #[.slice pu lu cu,.slice pv lv cv,.bool false] 45) .none).trans ((zzy _ (.cells #[.slice pu lu cu,.slice pv lv cv,.slice (some ⟨w.heap.size+1+1,0,.none⟩) 1 1] 120) .none).trans (zzy _ one3 .none))
 have HC:=Lz c
 have HF:=Lz (show TrP x y 1 w _ _ from⟨_,_,_,rfl,hu.kept g,hv.kept g,d1,g⟩)
 clear s1 n1 s2 d1 c g hu hv
 go_enter Tryz.func66,Tryz.ntmps66
 go_wp2_with fail
 go_wp2_with fail
 obtain⟨c0,c1,c2⟩:=HC.out
 simp[bodyPost,results,Tryz.results66,go_sem,c0,c1,c2]
 exact HF.out
end Go.Proofs.YtohhkjamddojmaaGreatDoor.Bit
