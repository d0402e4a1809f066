/- The constants of the curves as great numbers of the specification. -/
import Derived.Test.YtohhkjamddojmaaGreatDoorBN
set_option maxRecDepth 100000
set_option maxHeartbeats 16000000
namespace Go.Proofs.YtohhkjamddojmaaGreatDoor.Bit
open Go.RowKit
open Big EcLaw
abbrev fs1:Array MapEntry:=#[{ key:=.int .i64 160,val:=.int .i64 7,born:=0 }]
abbrev fs2:Array MapEntry:=#[{ key:=.int .i64 160,val:=.int .i64 7,born:=0 },{ key:=.int .i64 192,val:=.int .i64 3,born:=1 }]
abbrev fs3:Array MapEntry:=#[{ key:=.int .i64 160,val:=.int .i64 7,born:=0 },{ key:=.int .i64 192,val:=.int .i64 3,born:=1 },{ key:=.int .i64 224,val:=.int .i64 5,born:=2 }]
abbrev fs4:Array MapEntry:=#[{ key:=.int .i64 160,val:=.int .i64 7,born:=0 },{ key:=.int .i64 192,val:=.int .i64 3,born:=1 },{ key:=.int .i64 224,val:=.int .i64 5,born:=2 },{ key:=.int .i64 256,val:=.int .i64 7,born:=3 }]
theorem set0 (w:World):(Instr.mapUpdate 118 (.map (some w.heap.size)) (.int .i64 160) (.int .i64 7)).run Tryz.prog (w.alloc (.map #[] 0))=.ok () (w.alloc (.map fs1 1)):=map_put w #[] 0 160 (.int .i64 7) rfl
theorem set1 (w:World):(Instr.mapUpdate 118 (.map (some w.heap.size)) (.int .i64 192) (.int .i64 3)).run Tryz.prog (w.alloc (.map fs1 1))=.ok () (w.alloc (.map fs2 2)):=map_put w fs1 1 192 (.int .i64 3) rfl
theorem set2 (w:World):(Instr.mapUpdate 118 (.map (some w.heap.size)) (.int .i64 224) (.int .i64 5)).run Tryz.prog (w.alloc (.map fs2 2))=.ok () (w.alloc (.map fs3 3)):=map_put w fs2 2 224 (.int .i64 5) rfl
theorem set3 (w:World):(Instr.mapUpdate 118 (.map (some w.heap.size)) (.int .i64 256) (.int .i64 7)).run Tryz.prog (w.alloc (.map fs3 3))=.ok () (w.alloc (.map fs4 4)):=map_put w fs3 3 256 (.int .i64 7) rfl
theorem see160 (w:World):(Instr.lookup 118 (.map (some w.heap.size)) (.int .i64 160) false).run Tryz.prog (w.alloc (.map fs4 4))=.ok (.int .i64 7) (w.alloc (.map fs4 4)):=map_look w fs4 4 160 0 (.int .i64 7) rfl
theorem const160O (w:World):Calls Tryz.prog 24 #[.int .i64 160] w (BigP nums160.b w):=by
 have hmm:=@run_makeMap_plain Tryz.prog
 have p0:=set0 w
 have p1:=set1 w
 have p2:=set2 w
 have p3:=set3 w
 have p4:=see160 w
 have b3:bd nums160.b = [7]:=by decide +kernel
 have s1:(w.alloc (.map fs4 4)).heap.size=w.heap.size+1:=Array.size_push _
 have HF:=Lz (show BigP nums160.b w (.returned (.slice (some ⟨w.heap.size+1,0,.none⟩) 1 1)) ((w.alloc (.map fs4 4)).alloc (.cells #[.int .i64 7] 3)) from⟨_,_,by rw[b3];rfl,by rw[b3,<-s1];exact row_block (xs:=[7]) (by decide) (heap_alloc_new _ _),(zzy _ _ _).trans (zzy _ _ _)⟩)
 simp only[fs1,fs2,fs3,fs4] at *
 clear b3 s1
 go_enter Tryz.func24,Tryz.ntmps24
 go_wp2_with fail
 go_ret
 exact HF.out
theorem see192 (w:World):(Instr.lookup 118 (.map (some w.heap.size)) (.int .i64 192) false).run Tryz.prog (w.alloc (.map fs4 4))=.ok (.int .i64 3) (w.alloc (.map fs4 4)):=map_look w fs4 4 192 1 (.int .i64 3) rfl
theorem const192O (w:World):Calls Tryz.prog 24 #[.int .i64 192] w (BigP nums192.b w):=by
 have hmm:=@run_makeMap_plain Tryz.prog
 have p0:=set0 w
 have p1:=set1 w
 have p2:=set2 w
 have p3:=set3 w
 have p4:=see192 w
 have b3:bd nums192.b = [3]:=by decide +kernel
 have s1:(w.alloc (.map fs4 4)).heap.size=w.heap.size+1:=Array.size_push _
 have HF:=Lz (show BigP nums192.b w (.returned (.slice (some ⟨w.heap.size+1,0,.none⟩) 1 1)) ((w.alloc (.map fs4 4)).alloc (.cells #[.int .i64 3] 3)) from⟨_,_,by rw[b3];rfl,by rw[b3,<-s1];exact row_block (xs:=[3]) (by decide) (heap_alloc_new _ _),(zzy _ _ _).trans (zzy _ _ _)⟩)
 simp only[fs1,fs2,fs3,fs4] at *
 clear b3 s1
 go_enter Tryz.func24,Tryz.ntmps24
 go_wp2_with fail
 go_ret
 exact HF.out
theorem see224 (w:World):(Instr.lookup 118 (.map (some w.heap.size)) (.int .i64 224) false).run Tryz.prog (w.alloc (.map fs4 4))=.ok (.int .i64 5) (w.alloc (.map fs4 4)):=map_look w fs4 4 224 2 (.int .i64 5) rfl
theorem const224O (w:World):Calls Tryz.prog 24 #[.int .i64 224] w (BigP nums224.b w):=by
 have hmm:=@run_makeMap_plain Tryz.prog
 have p0:=set0 w
 have p1:=set1 w
 have p2:=set2 w
 have p3:=set3 w
 have p4:=see224 w
 have b3:bd nums224.b = [5]:=by decide +kernel
 have s1:(w.alloc (.map fs4 4)).heap.size=w.heap.size+1:=Array.size_push _
 have HF:=Lz (show BigP nums224.b w (.returned (.slice (some ⟨w.heap.size+1,0,.none⟩) 1 1)) ((w.alloc (.map fs4 4)).alloc (.cells #[.int .i64 5] 3)) from⟨_,_,by rw[b3];rfl,by rw[b3,<-s1];exact row_block (xs:=[5]) (by decide) (heap_alloc_new _ _),(zzy _ _ _).trans (zzy _ _ _)⟩)
 simp only[fs1,fs2,fs3,fs4] at *
 clear b3 s1
 go_enter Tryz.func24,Tryz.ntmps24
 go_wp2_with fail
 go_ret
 exact HF.out
theorem see256 (w:World):(Instr.lookup 118 (.map (some w.heap.size)) (.int .i64 256) false).run Tryz.prog (w.alloc (.map fs4 4))=.ok (.int .i64 7) (w.alloc (.map fs4 4)):=map_look w fs4 4 256 3 (.int .i64 7) rfl
theorem const256O (w:World):Calls Tryz.prog 24 #[.int .i64 256] w (BigP nums256.b w):=by
 have hmm:=@run_makeMap_plain Tryz.prog
 have p0:=set0 w
 have p1:=set1 w
 have p2:=set2 w
 have p3:=set3 w
 have p4:=see256 w
 have b3:bd nums256.b = [7]:=by decide +kernel
 have s1:(w.alloc (.map fs4 4)).heap.size=w.heap.size+1:=Array.size_push _
 have HF:=Lz (show BigP nums256.b w (.returned (.slice (some ⟨w.heap.size+1,0,.none⟩) 1 1)) ((w.alloc (.map fs4 4)).alloc (.cells #[.int .i64 7] 3)) from⟨_,_,by rw[b3];rfl,by rw[b3,<-s1];exact row_block (xs:=[7]) (by decide) (heap_alloc_new _ _),(zzy _ _ _).trans (zzy _ _ _)⟩)
 simp only[fs1,fs2,fs3,fs4] at *
 clear b3 s1
 go_enter Tryz.func24,Tryz.ntmps24
 go_wp2_with fail
 go_ret
 exact HF.out
theorem constO {b:Nat} {c:Nums} (h:Four b c) (w:World):Calls Tryz.prog 24 #[.int .i64 (b:Nat)] w (BigP c.b w):=by
 cases h
 . exact const160O w
 . exact const192O w
 . exact const224O w
 . exact const256O w
end Go.Proofs.YtohhkjamddojmaaGreatDoor.Bit
