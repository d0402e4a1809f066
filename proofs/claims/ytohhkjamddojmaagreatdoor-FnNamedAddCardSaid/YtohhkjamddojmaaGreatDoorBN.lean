/- The primes of the curves as great numbers of the specification. What the laws of the named curves need: bytes copied, bytes without zeros ahead, the order's last byte. -/
import Derived.Test.YtohhkjamddojmaaGreatDoorBI
import Derived.Test.YtohhkjamddojmaaGreatDoorBF
import Derived.MapKept
import Derived.WideMake
import Derived.Test.YtohhkjamddojmaaGreatDoorQR
set_option maxHeartbeats 16000000
namespace Go.Proofs.YtohhkjamddojmaaGreatDoor.Bit
open Go.RowKit
open Big EcLaw
theorem map_put (w : World) (es : Array MapEntry) (clock : Nat) (k : Int) (v : Value) (hf : Instr.findNow (.int .i64) (.int .i64 k) es.toList 0 = some none) :
 (Instr.mapUpdate 118 (.map (some w.heap.size)) (.int .i64 k) v).run Tryz.prog (w.alloc (.map es clock)) = .ok () (w.alloc (.map (es.push { key := .int .i64 k, val := v, born := clock }) (clock + 1))) := by
 have hb : (w.alloc (.map es clock)).heap[w.heap.size]? = some (.map es clock) := (MapKept.heap_alloc w _).1
 have hc : (Instr.checkKey false 10000 3 (.int .i64 k)).run Tryz.prog (w.alloc (.map es clock)) = .ok () (w.alloc (.map es clock)) := MapKept.run_checkKey (k := .int .i64 k) Tryz.underlying3 (by simp [MapKept.IsKey]) false 9999
 have e : (w.heap.push (.map es clock)).setIfInBounds w.heap.size (.map (es.push { key := .int .i64 k, val := v, born := clock }) (clock + 1)) = w.heap.push (.map (es.push { key := .int .i64 k, val := v, born := clock }) (clock + 1)) := by
  apply Array.ext'
  simp
 simp [Instr.mapUpdate, run_underlying Tryz.underlying118, MapKept.run_getObj_map hb, hc, MapKept.run_findKey Tryz.underlying3 hf, MapKept.run_setObj_map _ hb, Result.andThen]
 show ({ w.alloc (.map es clock) with heap := _ } : World) = _
 unfold World.alloc
 simp only
 rw [e]
theorem map_look (w : World) (es : Array MapEntry) (clock : Nat) (k : Int) (i : Nat) (v : Value) (hf : Instr.findNow (.int .i64) (.int .i64 k) es.toList 0 = some (some (i, v))) :
 (Instr.lookup 118 (.map (some w.heap.size)) (.int .i64 k) false).run Tryz.prog (w.alloc (.map es clock)) = .ok v (w.alloc (.map es clock)) := by
 have hb : (w.alloc (.map es clock)).heap[w.heap.size]? = some (.map es clock) := (MapKept.heap_alloc w _).1
 have hc : ∀ b, (Instr.checkKey b 10000 3 (.int .i64 k)).run Tryz.prog (w.alloc (.map es clock)) = .ok () (w.alloc (.map es clock)) := fun b => MapKept.run_checkKey (k := .int .i64 k) Tryz.underlying3 (by simp [MapKept.IsKey]) b 9999
 simp [Instr.lookup, run_underlying Tryz.underlying118, MapKept.run_getObj_map hb, hc, MapKept.run_findKey Tryz.underlying3 hf, Result.andThen]
def iv (n : Nat) : Value := .int .i64 n
theorem mkI (w : World) {N : Nat} (hN : N ≤ 4000000) : (Instr.makeSlice 36 (.int .i64 (N : Int)) (.int .i64 (N : Int))).run Tryz.prog w = .ok (.slice (some ⟨w.heap.size, 0, .none⟩) N N) (w.alloc (.cells (((List.replicate N 0).map iv).toArray) 3)) := by
 obtain ⟨i0, hi, hz0, hz1, hz2⟩ := info_parts info3
 have h := run_make (P := Tryz.prog) w 36 3 i0 (.int .i64 0) Tryz.underlying36 hi hz0 .i64 .i64 (N : Int) (N : Int) (by omega) (Int.le_refl _) (by rw [hz2]; omega) (by omega)
 have e : madeCells (Value.int .i64 0).cells (Int.toNat (N : Int) * 1) = ((List.replicate N 0).map iv).toArray := by
  apply Array.toList_inj.1
  rw [Int.toNat_natCast, Nat.mul_one]
  rw [show (madeCells (Value.int IntKind.i64 0).cells N).toList = List.replicate N (iv 0) from toList_madeCells_one _ _]
  rw [List.map_replicate]
 rw [h, hz1, e, Int.toNat_natCast]
theorem row_block {w : World} {b : Nat} {xs : List Nat} (hl : xs.length ≤ maxLen) (h : w.heap[b]? = some (.cells ((xs.map iv).toArray) 3 (0, 0))) : RowI w (some ⟨b, 0, .none⟩) xs.length xs := by
 refine ⟨Nat.le_refl _, hl, fun _ => ⟨b, 0, rfl⟩, fun b' o e i hi => ?_⟩
 cases e
 rw [Nat.zero_add]
 apply zwx h
 simp [hi, iv]
theorem two_rows (w1 : World) (xs ys : List Nat) (n : Nat) (hn : w1.heap.size = n) (h1 : xs.length ≤ maxLen) (h2 : ys.length ≤ maxLen) :
 RowI ((w1.alloc (.cells ((xs.map iv).toArray) 3)).alloc (.cells ((ys.map iv).toArray) 3)) (some ⟨n, 0, .none⟩) xs.length xs ∧ RowI ((w1.alloc (.cells ((xs.map iv).toArray) 3)).alloc (.cells ((ys.map iv).toArray) 3)) (some ⟨n + 1, 0, .none⟩) ys.length ys ∧
 w1.grownBy ((w1.alloc (.cells ((xs.map iv).toArray) 3)).alloc (.cells ((ys.map iv).toArray) 3)) .none := by
 subst hn
 have s1 : (w1.alloc (.cells ((xs.map iv).toArray) 3)).heap.size = w1.heap.size + 1 := Array.size_push _
 have a := heap_alloc_new w1 (.cells ((xs.map iv).toArray) 3)
 have b := heap_alloc_new (w1.alloc (.cells ((xs.map iv).toArray) 3)) (.cells ((ys.map iv).toArray) 3)
 rw [s1] at b
 refine ⟨row_block h1 ?_, row_block h2 b, (zzx _ _ _).trans (zzx _ _ _)⟩
 rw [(MapKept.heap_alloc (w1.alloc (.cells ((xs.map iv).toArray) 3)) _).2 _ (by rw [s1]; omega)]
 exact a
abbrev es1 : Array MapEntry := #[{ key := .int .i64 160, val := .int .i64 21389, born := 0 }]
abbrev es2 : Array MapEntry := #[{ key := .int .i64 160, val := .int .i64 21389, born := 0 }, { key := .int .i64 192, val := .int .i64 4553, born := 1 }]
abbrev es3 : Array MapEntry := #[{ key := .int .i64 160, val := .int .i64 21389, born := 0 }, { key := .int .i64 192, val := .int .i64 4553, born := 1 }, { key := .int .i64 224, val := .int .i64 6803, born := 2 }]
abbrev es4 : Array MapEntry := #[{ key := .int .i64 160, val := .int .i64 21389, born := 0 }, { key := .int .i64 192, val := .int .i64 4553, born := 1 }, { key := .int .i64 224, val := .int .i64 6803, born := 2 }, { key := .int .i64 256, val := .int .i64 977, born := 3 }]
abbrev cs160 : Array Value := #[.int .i64 0, .int .i64 0, .int .i64 0, .int .i64 0, .int .i64 0, .int .i64 0, .int .i64 0, .int .i64 0, .int .i64 0, .int .i64 0, .int .i64 1]
abbrev cs192 : Array Value := #[.int .i64 0, .int .i64 0, .int .i64 0, .int .i64 0, .int .i64 0, .int .i64 0, .int .i64 0, .int .i64 0, .int .i64 0, .int .i64 0, .int .i64 0, .int .i64 0, .int .i64 1]
abbrev cs224 : Array Value := #[.int .i64 0, .int .i64 0, .int .i64 0, .int .i64 0, .int .i64 0, .int .i64 0, .int .i64 0, .int .i64 0, .int .i64 0, .int .i64 0, .int .i64 0, .int .i64 0, .int .i64 0, .int .i64 0, .int .i64 1]
abbrev cs256 : Array Value := #[.int .i64 0, .int .i64 0, .int .i64 0, .int .i64 0, .int .i64 0, .int .i64 0, .int .i64 0, .int .i64 0, .int .i64 0, .int .i64 0, .int .i64 0, .int .i64 0, .int .i64 0, .int .i64 0, .int .i64 0, .int .i64 0, .int .i64 1]
abbrev cs32 : Array Value := #[.int .i64 0, .int .i64 0, .int .i64 1]
theorem put0 (w : World) : (Instr.mapUpdate 118 (.map (some w.heap.size)) (.int .i64 160) (.int .i64 21389)).run Tryz.prog (w.alloc (.map #[] 0)) = .ok () (w.alloc (.map es1 1)) := map_put w #[] 0 160 (.int .i64 21389) rfl
theorem put1 (w : World) : (Instr.mapUpdate 118 (.map (some w.heap.size)) (.int .i64 192) (.int .i64 4553)).run Tryz.prog (w.alloc (.map es1 1)) = .ok () (w.alloc (.map es2 2)) := map_put w es1 1 192 (.int .i64 4553) rfl
theorem put2 (w : World) : (Instr.mapUpdate 118 (.map (some w.heap.size)) (.int .i64 224) (.int .i64 6803)).run Tryz.prog (w.alloc (.map es2 2)) = .ok () (w.alloc (.map es3 3)) := map_put w es2 2 224 (.int .i64 6803) rfl
theorem put3 (w : World) : (Instr.mapUpdate 118 (.map (some w.heap.size)) (.int .i64 256) (.int .i64 977)).run Tryz.prog (w.alloc (.map es3 3)) = .ok () (w.alloc (.map es4 4)) := map_put w es3 3 256 (.int .i64 977) rfl
theorem look160 (w : World) : (Instr.lookup 118 (.map (some w.heap.size)) (.int .i64 160) false).run Tryz.prog (w.alloc (.map es4 4)) = .ok (.int .i64 21389) (w.alloc (.map es4 4)) := map_look w es4 4 160 0 (.int .i64 21389) rfl
set_option maxRecDepth 100000 in
theorem prime160O (w : World) : Calls Tryz.prog 20 #[.int .i64 160] w (BigP nums160.p w) := by
 have hmm := @run_makeMap_plain Tryz.prog
 have p0 := put0 w
 have p1 := put1 w
 have p2 := put2 w
 have p3 := put3 w
 have p4 := look160 w
 have b1 : bd (2 ^ 160) = [0, 0, 0, 0, 0, 0, 0, 0, 0, 0, 1] := by decide +kernel
 have b2 : bd (2 ^ 32) = [0, 0, 1] := by decide +kernel
 have b3 : bd 21389 = [21389] := by decide +kernel
 have e : 2 ^ 160 - 2 ^ 32 - 21389 = nums160.p := by decide +kernel
 have g1 : w.grownBy (w.alloc (.map es4 4)) .none := zzx _ _ _
 have s1 : (w.alloc (.map es4 4)).heap.size = w.heap.size + 1 := Array.size_push _
 have T := two_rows (w.alloc (.map es4 4)) [0, 0, 0, 0, 0, 0, 0, 0, 0, 0, 1] [0, 0, 1] _ s1 (by decide) (by decide)
 have T' : RowI (((w.alloc (.map es4 4)).alloc (.cells cs160 3)).alloc (.cells cs32 3)) (some ⟨w.heap.size + 1, 0, .none⟩) 11 [0, 0, 0, 0, 0, 0, 0, 0, 0, 0, 1] ∧ RowI (((w.alloc (.map es4 4)).alloc (.cells cs160 3)).alloc (.cells cs32 3)) (some ⟨w.heap.size + 1 + 1, 0, .none⟩) 3 [0, 0, 1] ∧ (w.alloc (.map es4 4)).grownBy (((w.alloc (.map es4 4)).alloc (.cells cs160 3)).alloc (.cells cs32 3)) .none := T
 have M1 := minusS (some ⟨w.heap.size + 1, 0, .none⟩) (some ⟨w.heap.size + 1 + 1, 0, .none⟩) 11 3 (2 ^ 160) (2 ^ 32) (((w.alloc (.map es4 4)).alloc (.cells cs160 3)).alloc (.cells cs32 3)) (by rw [b1]; exact T'.1) (by rw [b2]; exact T'.2.1) (by decide) (by rw [b1]; decide)
 rw [b1, b2] at M1
 have C1 := Lz (show Calls Tryz.prog 23 #[.slice (some ⟨w.heap.size + 1, 0, .none⟩) 11 11, .slice (some ⟨w.heap.size + 1 + 1, 0, .none⟩) 3 3] (((w.alloc (.map es4 4)).alloc (.cells cs160 3)).alloc (.cells cs32 3)) (BigP (2 ^ 160 - 2 ^ 32) (((w.alloc (.map es4 4)).alloc (.cells cs160 3)).alloc (.cells cs32 3))) from M1)
 have HG := Lz (g1.trans T'.2.2)
 have C2 := Lz (fun (w2 : World) p c (h : RowI w2 p c (bd (2 ^ 160 - 2 ^ 32))) => minusS p (some ⟨w2.heap.size, 0, .none⟩) c 1 (2 ^ 160 - 2 ^ 32) 21389 (w2.alloc (.cells #[.int .i64 21389] 3)) (h.kept (zzx _ _ _)) (by rw [b3]; exact row_block (xs := [21389]) (by decide) (heap_alloc_new _ _)) (by decide) (by decide +kernel))
 rw [b3, e] at C2
 have hmk := mkI (w.alloc (.map es4 4)) (N := 11) (by decide)
 rw [s1] at hmk
 simp [iv, List.replicate] at hmk
 obtain ⟨D, hD⟩ : ∃ D, D = 2 ^ 160 - 2 ^ 32 := ⟨_, rfl⟩
 rw [← hD] at C1 C2
 clear b1 b2 b3 e g1 s1 T T' M1 hD
 simp only [es1, es2, es3, es4, cs160, cs32] at *
 go_enter Tryz.func20, Tryz.ntmps20
 go_wp2_with fail
 refine C1.out.mono ?_
 rintro en w2 ⟨p, c, rfl, h1, h2⟩
 have C3 := Lz (C2.out w2 p c h1)
 have H2 := Lz h2
 clear h1 h2 C1 C2 hmm p0 p1 p2 p3 p4 hmk
 generalize (bd D).length = ld at *
 go_wp2_with fail
 refine C3.out.mono ?_
 rintro en w3 ⟨q, d, rfl, h1, h2⟩
 have H3 := Lz (And.intro h1 h2)
 clear h1 h2 C3
 generalize hld : (bd nums160.p).length = lp at *
 go_wp2_with fail
 go_ret
 exact ⟨q, d, by rw [hld]; rfl, H3.out.1, (HG.out.trans H2.out).trans ((zzx _ _ _).trans H3.out.2)⟩
theorem look192 (w : World) : (Instr.lookup 118 (.map (some w.heap.size)) (.int .i64 192) false).run Tryz.prog (w.alloc (.map es4 4)) = .ok (.int .i64 4553) (w.alloc (.map es4 4)) := map_look w es4 4 192 1 (.int .i64 4553) rfl
set_option maxRecDepth 100000 in
theorem prime192O (w : World) : Calls Tryz.prog 20 #[.int .i64 192] w (BigP nums192.p w) := by
 have hmm := @run_makeMap_plain Tryz.prog
 have p0 := put0 w
 have p1 := put1 w
 have p2 := put2 w
 have p3 := put3 w
 have p4 := look192 w
 have b1 : bd (2 ^ 192) = [0, 0, 0, 0, 0, 0, 0, 0, 0, 0, 0, 0, 1] := by decide +kernel
 have b2 : bd (2 ^ 32) = [0, 0, 1] := by decide +kernel
 have b3 : bd 4553 = [4553] := by decide +kernel
 have e : 2 ^ 192 - 2 ^ 32 - 4553 = nums192.p := by decide +kernel
 have g1 : w.grownBy (w.alloc (.map es4 4)) .none := zzx _ _ _
 have s1 : (w.alloc (.map es4 4)).heap.size = w.heap.size + 1 := Array.size_push _
 have T := two_rows (w.alloc (.map es4 4)) [0, 0, 0, 0, 0, 0, 0, 0, 0, 0, 0, 0, 1] [0, 0, 1] _ s1 (by decide) (by decide)
 have T' : RowI (((w.alloc (.map es4 4)).alloc (.cells cs192 3)).alloc (.cells cs32 3)) (some ⟨w.heap.size + 1, 0, .none⟩) 13 [0, 0, 0, 0, 0, 0, 0, 0, 0, 0, 0, 0, 1] ∧ RowI (((w.alloc (.map es4 4)).alloc (.cells cs192 3)).alloc (.cells cs32 3)) (some ⟨w.heap.size + 1 + 1, 0, .none⟩) 3 [0, 0, 1] ∧ (w.alloc (.map es4 4)).grownBy (((w.alloc (.map es4 4)).alloc (.cells cs192 3)).alloc (.cells cs32 3)) .none := T
 have M1 := minusS (some ⟨w.heap.size + 1, 0, .none⟩) (some ⟨w.heap.size + 1 + 1, 0, .none⟩) 13 3 (2 ^ 192) (2 ^ 32) (((w.alloc (.map es4 4)).alloc (.cells cs192 3)).alloc (.cells cs32 3)) (by rw [b1]; exact T'.1) (by rw [b2]; exact T'.2.1) (by decide) (by rw [b1]; decide)
 rw [b1, b2] at M1
 have C1 := Lz (show Calls Tryz.prog 23 #[.slice (some ⟨w.heap.size + 1, 0, .none⟩) 13 13, .slice (some ⟨w.heap.size + 1 + 1, 0, .none⟩) 3 3] (((w.alloc (.map es4 4)).alloc (.cells cs192 3)).alloc (.cells cs32 3)) (BigP (2 ^ 192 - 2 ^ 32) (((w.alloc (.map es4 4)).alloc (.cells cs192 3)).alloc (.cells cs32 3))) from M1)
 have HG := Lz (g1.trans T'.2.2)
 have C2 := Lz (fun (w2 : World) p c (h : RowI w2 p c (bd (2 ^ 192 - 2 ^ 32))) => minusS p (some ⟨w2.heap.size, 0, .none⟩) c 1 (2 ^ 192 - 2 ^ 32) 4553 (w2.alloc (.cells #[.int .i64 4553] 3)) (h.kept (zzx _ _ _)) (by rw [b3]; exact row_block (xs := [4553]) (by decide) (heap_alloc_new _ _)) (by decide) (by decide +kernel))
 rw [b3, e] at C2
 have hmk := mkI (w.alloc (.map es4 4)) (N := 13) (by decide)
 rw [s1] at hmk
 simp [iv, List.replicate] at hmk
 obtain ⟨D, hD⟩ : ∃ D, D = 2 ^ 192 - 2 ^ 32 := ⟨_, rfl⟩
 rw [← hD] at C1 C2
 clear b1 b2 b3 e g1 s1 T T' M1 hD
 simp only [es1, es2, es3, es4, cs192, cs32] at *
 go_enter Tryz.func20, Tryz.ntmps20
 go_wp2_with fail
 refine C1.out.mono ?_
 rintro en w2 ⟨p, c, rfl, h1, h2⟩
 have C3 := Lz (C2.out w2 p c h1)
 have H2 := Lz h2
 clear h1 h2 C1 C2 hmm p0 p1 p2 p3 p4 hmk
 generalize (bd D).length = ld at *
 go_wp2_with fail
 refine C3.out.mono ?_
 rintro en w3 ⟨q, d, rfl, h1, h2⟩
 have H3 := Lz (And.intro h1 h2)
 clear h1 h2 C3
 generalize hld : (bd nums192.p).length = lp at *
 go_wp2_with fail
 go_ret
 exact ⟨q, d, by rw [hld]; rfl, H3.out.1, (HG.out.trans H2.out).trans ((zzx _ _ _).trans H3.out.2)⟩
theorem look224 (w : World) : (Instr.lookup 118 (.map (some w.heap.size)) (.int .i64 224) false).run Tryz.prog (w.alloc (.map es4 4)) = .ok (.int .i64 6803) (w.alloc (.map es4 4)) := map_look w es4 4 224 2 (.int .i64 6803) rfl
set_option maxRecDepth 100000 in
theorem prime224O (w : World) : Calls Tryz.prog 20 #[.int .i64 224] w (BigP nums224.p w) := by
 have hmm := @run_makeMap_plain Tryz.prog
 have p0 := put0 w
 have p1 := put1 w
 have p2 := put2 w
 have p3 := put3 w
 have p4 := look224 w
 have b1 : bd (2 ^ 224) = [0, 0, 0, 0, 0, 0, 0, 0, 0, 0, 0, 0, 0, 0, 1] := by decide +kernel
 have b2 : bd (2 ^ 32) = [0, 0, 1] := by decide +kernel
 have b3 : bd 6803 = [6803] := by decide +kernel
 have e : 2 ^ 224 - 2 ^ 32 - 6803 = nums224.p := by decide +kernel
 have g1 : w.grownBy (w.alloc (.map es4 4)) .none := zzx _ _ _
 have s1 : (w.alloc (.map es4 4)).heap.size = w.heap.size + 1 := Array.size_push _
 have T := two_rows (w.alloc (.map es4 4)) [0, 0, 0, 0, 0, 0, 0, 0, 0, 0, 0, 0, 0, 0, 1] [0, 0, 1] _ s1 (by decide) (by decide)
 have T' : RowI (((w.alloc (.map es4 4)).alloc (.cells cs224 3)).alloc (.cells cs32 3)) (some ⟨w.heap.size + 1, 0, .none⟩) 15 [0, 0, 0, 0, 0, 0, 0, 0, 0, 0, 0, 0, 0, 0, 1] ∧ RowI (((w.alloc (.map es4 4)).alloc (.cells cs224 3)).alloc (.cells cs32 3)) (some ⟨w.heap.size + 1 + 1, 0, .none⟩) 3 [0, 0, 1] ∧ (w.alloc (.map es4 4)).grownBy (((w.alloc (.map es4 4)).alloc (.cells cs224 3)).alloc (.cells cs32 3)) .none := T
 have M1 := minusS (some ⟨w.heap.size + 1, 0, .none⟩) (some ⟨w.heap.size + 1 + 1, 0, .none⟩) 15 3 (2 ^ 224) (2 ^ 32) (((w.alloc (.map es4 4)).alloc (.cells cs224 3)).alloc (.cells cs32 3)) (by rw [b1]; exact T'.1) (by rw [b2]; exact T'.2.1) (by decide) (by rw [b1]; decide)
 rw [b1, b2] at M1
 have C1 := Lz (show Calls Tryz.prog 23 #[.slice (some ⟨w.heap.size + 1, 0, .none⟩) 15 15, .slice (some ⟨w.heap.size + 1 + 1, 0, .none⟩) 3 3] (((w.alloc (.map es4 4)).alloc (.cells cs224 3)).alloc (.cells cs32 3)) (BigP (2 ^ 224 - 2 ^ 32) (((w.alloc (.map es4 4)).alloc (.cells cs224 3)).alloc (.cells cs32 3))) from M1)
 have HG := Lz (g1.trans T'.2.2)
 have C2 := Lz (fun (w2 : World) p c (h : RowI w2 p c (bd (2 ^ 224 - 2 ^ 32))) => minusS p (some ⟨w2.heap.size, 0, .none⟩) c 1 (2 ^ 224 - 2 ^ 32) 6803 (w2.alloc (.cells #[.int .i64 6803] 3)) (h.kept (zzx _ _ _)) (by rw [b3]; exact row_block (xs := [6803]) (by decide) (heap_alloc_new _ _)) (by decide) (by decide +kernel))
 rw [b3, e] at C2
 have hmk := mkI (w.alloc (.map es4 4)) (N := 15) (by decide)
 rw [s1] at hmk
 simp [iv, List.replicate] at hmk
 obtain ⟨D, hD⟩ : ∃ D, D = 2 ^ 224 - 2 ^ 32 := ⟨_, rfl⟩
 rw [← hD] at C1 C2
 clear b1 b2 b3 e g1 s1 T T' M1 hD
 simp only [es1, es2, es3, es4, cs224, cs32] at *
 go_enter Tryz.func20, Tryz.ntmps20
 go_wp2_with fail
 refine C1.out.mono ?_
 rintro en w2 ⟨p, c, rfl, h1, h2⟩
 have C3 := Lz (C2.out w2 p c h1)
 have H2 := Lz h2
 clear h1 h2 C1 C2 hmm p0 p1 p2 p3 p4 hmk
 generalize (bd D).length = ld at *
 go_wp2_with fail
 refine C3.out.mono ?_
 rintro en w3 ⟨q, d, rfl, h1, h2⟩
 have H3 := Lz (And.intro h1 h2)
 clear h1 h2 C3
 generalize hld : (bd nums224.p).length = lp at *
 go_wp2_with fail
 go_ret
 exact ⟨q, d, by rw [hld]; rfl, H3.out.1, (HG.out.trans H2.out).trans ((zzx _ _ _).trans H3.out.2)⟩
theorem look256 (w : World) : (Instr.lookup 118 (.map (some w.heap.size)) (.int .i64 256) false).run Tryz.prog (w.alloc (.map es4 4)) = .ok (.int .i64 977) (w.alloc (.map es4 4)) := map_look w es4 4 256 3 (.int .i64 977) rfl
set_option maxRecDepth 100000 in
theorem prime256O (w : World) : Calls Tryz.prog 20 #[.int .i64 256] w (BigP nums256.p w) := by
 have hmm := @run_makeMap_plain Tryz.prog
 have p0 := put0 w
 have p1 := put1 w
 have p2 := put2 w
 have p3 := put3 w
 have p4 := look256 w
 have b1 : bd (2 ^ 256) = [0, 0, 0, 0, 0, 0, 0, 0, 0, 0, 0, 0, 0, 0, 0, 0, 1] := by decide +kernel
 have b2 : bd (2 ^ 32) = [0, 0, 1] := by decide +kernel
 have b3 : bd 977 = [977] := by decide +kernel
 have e : 2 ^ 256 - 2 ^ 32 - 977 = nums256.p := by decide +kernel
 have g1 : w.grownBy (w.alloc (.map es4 4)) .none := zzx _ _ _
 have s1 : (w.alloc (.map es4 4)).heap.size = w.heap.size + 1 := Array.size_push _
 have T := two_rows (w.alloc (.map es4 4)) [0, 0, 0, 0, 0, 0, 0, 0, 0, 0, 0, 0, 0, 0, 0, 0, 1] [0, 0, 1] _ s1 (by decide) (by decide)
 have T' : RowI (((w.alloc (.map es4 4)).alloc (.cells cs256 3)).alloc (.cells cs32 3)) (some ⟨w.heap.size + 1, 0, .none⟩) 17 [0, 0, 0, 0, 0, 0, 0, 0, 0, 0, 0, 0, 0, 0, 0, 0, 1] ∧ RowI (((w.alloc (.map es4 4)).alloc (.cells cs256 3)).alloc (.cells cs32 3)) (some ⟨w.heap.size + 1 + 1, 0, .none⟩) 3 [0, 0, 1] ∧ (w.alloc (.map es4 4)).grownBy (((w.alloc (.map es4 4)).alloc (.cells cs256 3)).alloc (.cells cs32 3)) .none := T
 have M1 := minusS (some ⟨w.heap.size + 1, 0, .none⟩) (some ⟨w.heap.size + 1 + 1, 0, .none⟩) 17 3 (2 ^ 256) (2 ^ 32) (((w.alloc (.map es4 4)).alloc (.cells cs256 3)).alloc (.cells cs32 3)) (by rw [b1]; exact T'.1) (by rw [b2]; exact T'.2.1) (by decide) (by rw [b1]; decide)
 rw [b1, b2] at M1
 have C1 := Lz (show Calls Tryz.prog 23 #[.slice (some ⟨w.heap.size + 1, 0, .none⟩) 17 17, .slice (some ⟨w.heap.size + 1 + 1, 0, .none⟩) 3 3] (((w.alloc (.map es4 4)).alloc (.cells cs256 3)).alloc (.cells cs32 3)) (BigP (2 ^ 256 - 2 ^ 32) (((w.alloc (.map es4 4)).alloc (.cells cs256 3)).alloc (.cells cs32 3))) from M1)
 have HG := Lz (g1.trans T'.2.2)
 have C2 := Lz (fun (w2 : World) p c (h : RowI w2 p c (bd (2 ^ 256 - 2 ^ 32))) => minusS p (some ⟨w2.heap.size, 0, .none⟩) c 1 (2 ^ 256 - 2 ^ 32) 977 (w2.alloc (.cells #[.int .i64 977] 3)) (h.kept (zzx _ _ _)) (by rw [b3]; exact row_block (xs := [977]) (by decide) (heap_alloc_new _ _)) (by decide) (by decide +kernel))
 rw [b3, e] at C2
 have hmk := mkI (w.alloc (.map es4 4)) (N := 17) (by decide)
 rw [s1] at hmk
 simp [iv, List.replicate] at hmk
 obtain ⟨D, hD⟩ : ∃ D, D = 2 ^ 256 - 2 ^ 32 := ⟨_, rfl⟩
 rw [← hD] at C1 C2
 clear b1 b2 b3 e g1 s1 T T' M1 hD
 simp only [es1, es2, es3, es4, cs256, cs32] at *
 go_enter Tryz.func20, Tryz.ntmps20
 go_wp2_with fail
 refine C1.out.mono ?_
 rintro en w2 ⟨p, c, rfl, h1, h2⟩
 have C3 := Lz (C2.out w2 p c h1)
 have H2 := Lz h2
 clear h1 h2 C1 C2 hmm p0 p1 p2 p3 p4 hmk
 generalize (bd D).length = ld at *
 go_wp2_with fail
 refine C3.out.mono ?_
 rintro en w3 ⟨q, d, rfl, h1, h2⟩
 have H3 := Lz (And.intro h1 h2)
 clear h1 h2 C3
 generalize hld : (bd nums256.p).length = lp at *
 go_wp2_with fail
 go_ret
 exact ⟨q, d, by rw [hld]; rfl, H3.out.1, (HG.out.trans H2.out).trans ((zzx _ _ _).trans H3.out.2)⟩
theorem primeO {b : Nat} {c : Nums} (h : Four b c) (w : World) : Calls Tryz.prog 20 #[.int .i64 (b : Nat)] w (BigP c.p w) := by
 cases h
 · exact prime160O w
 · exact prime192O w
 · exact prime224O w
 · exact prime256O w
end Go.Proofs.YtohhkjamddojmaaGreatDoor.Bit

namespace Go.Proofs.YtohhkjamddojmaaGreatDoor.Bit
open Go.RowKit
open Big EcLaw
def KB (w : World) (g cap : Nat) (ks : List Nat) : Prop := ∃ cs : Array Value, w.heap[g]? = some (.cells cs 5 (0, 0)) ∧ ks.length ≤ cap ∧ cs.size = cap ∧ ∀ i, i < ks.length → cs[i]? = some (u8v (ks.getD i 0))
theorem KB.sl {w : World} {g cap : Nat} {ks : List Nat} (h : KB w g cap ks) (hb : ∀ i, ks.getD i 0 < 256) (hl : ks.length ≤ 700000) : Sl w g 0 ks := by
 obtain ⟨cs, h1, h2, h3, h4⟩ := h
 refine ⟨fun i hi => ?_, hb, hl, (Array.getElem?_eq_some_iff.1 h1).1⟩
 rw [Nat.zero_add]
 exact zwx h1 (h4 i hi)
theorem bev_lt : ∀ (ks : List Nat), (∀ i, ks.getD i 0 < 256) → bev ks < 256 ^ ks.length
 | [], _ => by decide
 | k :: ks, h => by
  have h0 := h 0
  have := bev_lt ks (fun i => by have := h (i + 1); simpa [List.getD] using this)
  rw [bev_cons, List.length_cons, Nat.pow_succ]
  simp [List.getD] at h0
  have : k * 256 ^ ks.length ≤ 255 * 256 ^ ks.length := Nat.mul_le_mul_right _ (by omega)
  omega
theorem bev_inj : ∀ (ks ls : List Nat), ks.length = ls.length → (∀ i, ks.getD i 0 < 256) → (∀ i, ls.getD i 0 < 256) → bev ks = bev ls → ks = ls
 | [], [], _, _, _, _ => rfl
 | k :: ks, l :: ls, hl, h1, h2, e => by
  have t1 : ∀ i, ks.getD i 0 < 256 := fun i => by have := h1 (i + 1); simpa [List.getD] using this
  have t2 : ∀ i, ls.getD i 0 < 256 := fun i => by have := h2 (i + 1); simpa [List.getD] using this
  have hl' : ks.length = ls.length := by simpa using hl
  have b1 := bev_lt ks t1
  have b2 := bev_lt ls t2
  rw [bev_cons, bev_cons, hl'] at e
  rw [hl'] at b1
  have hk : k = l := by
   have d1 : (k * 256 ^ ls.length + bev ks) / 256 ^ ls.length = k := by rw [Nat.mul_comm, Nat.mul_add_div (by exact Nat.pow_pos (by decide)), Nat.div_eq_of_lt b1, Nat.add_zero]
   have d2 : (l * 256 ^ ls.length + bev ls) / 256 ^ ls.length = l := by rw [Nat.mul_comm, Nat.mul_add_div (by exact Nat.pow_pos (by decide)), Nat.div_eq_of_lt b2, Nat.add_zero]
   rw [← d1, e, d2]
  subst hk
  rw [bev_inj ks ls hl' t1 t2 (by omega)]
theorem bev_low {ks : List Nat} (h : 0 < ks.length → ks.getD 0 0 ≠ 0) (h0 : 0 < ks.length) : 256 ^ (ks.length - 1) ≤ bev ks := by
 match ks, h0 with
 | k :: ks, _ =>
  have := h (by simp)
  simp [List.getD] at this
  rw [bev_cons, List.length_cons, Nat.add_sub_cancel]
  have : 1 * 256 ^ ks.length ≤ k * 256 ^ ks.length := Nat.mul_le_mul_right _ (by omega)
  omega
theorem len_le {ks ls : List Nat} (h1 : ∀ i, ks.getD i 0 < 256) (h2 : 0 < ls.length → ls.getD 0 0 ≠ 0) (e : bev ks = bev ls) : ls.length ≤ ks.length := by
 apply Nat.le_of_not_lt
 intro hl
 have a := bev_lt ks h1
 have b := bev_low h2 (by omega)
 have : 256 ^ ks.length ≤ 256 ^ (ls.length - 1) := Nat.pow_le_pow_right (by decide) (by omega)
 omega
theorem canon {ks ls : List Nat} (h1 : ∀ i, ks.getD i 0 < 256) (h2 : ∀ i, ls.getD i 0 < 256) (c1 : 0 < ks.length → ks.getD 0 0 ≠ 0) (c2 : 0 < ls.length → ls.getD 0 0 ≠ 0) (e : bev ks = bev ls) : ks = ls :=
 bev_inj ks ls (Nat.le_antisymm (len_le h2 c1 e.symm) (len_le h1 c2 e)) h1 h2 e
theorem Sl.rowU {w : World} {g o : Nat} {ks : List Nat} (h : Sl w g o ks) : RowU w (some ⟨g, o, .none⟩) ks.length ks :=
 ⟨Nat.le_refl _, by have := h.2.2.1; unfold maxLen; omega, fun _ => ⟨g, o, rfl⟩, fun b o' e i hi => by cases e; exact h.1 i hi, h.2.1⟩
theorem sameBy {w : World} {g g' n : Nat} {v v' : Value} (h : ByV w g v n) (h' : ByV w g' v' n) : Calls Tryz.prog 26 #[v, v'] w (fun e w' => e = .returned (.bool true) ∧ ∃ d, w' = w.drewN d) := by
 obtain ⟨o, ks, rfl, hs, e, c⟩ := h
 obtain ⟨o', ls, rfl, hs', e', c'⟩ := h'
 obtain rfl := canon hs.2.1 hs'.2.1 c c' (e.trans e'.symm)
 exact sameS _ _ _ _ _ w hs.rowU hs'.rowU
theorem fromBy {w : World} {g n : Nat} {v : Value} (h : ByV w g v n) : Calls Tryz.prog 19 #[v] w (BigP n w) := by
 obtain ⟨o, ks, rfl, hs, e, c⟩ := h
 have := fromBytesS _ _ ks w hs.rowU (by have := hs.2.2.1; omega)
 rwa [e] at this
end Go.Proofs.YtohhkjamddojmaaGreatDoor.Bit
