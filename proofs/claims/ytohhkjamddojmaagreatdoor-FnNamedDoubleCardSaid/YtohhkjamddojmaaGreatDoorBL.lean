/- Products of the specification's great numbers. The specification's great numbers, shifted. Rest: what its walk needs. -/
import Derived.Test.YtohhkjamddojmaaGreatDoorQV
import Derived.Test.YtohhkjamddojmaaGreatDoorBE
import Derived.Lib.EndianBits
namespace Go.Proofs.YtohhkjamddojmaaGreatDoor.Big
open Go.RowKit

theorem mkN (w : World) {N : Nat} (hN : N ≤ 4000000) : (Instr.makeSlice 36 (.int .i64 (N : Int)) (.int .i64 (N : Int))).run Tryz.prog w = .ok (.slice (some ⟨w.heap.size, 0, .none⟩) N N) (w.alloc (.cells (dgs (List.replicate N 0)) 3)) := by
 obtain ⟨i0, hi, hz0, hz1, hz2⟩ := info_parts info3
 have h := run_make (P := Tryz.prog) w 36 3 i0 (.int .i64 0) Tryz.underlying36 hi hz0 .i64 .i64 (N : Int) (N : Int) (by omega) (Int.le_refl _) (by rw [hz2]; omega) (by omega)
 have e : madeCells (Value.int .i64 0).cells (Int.toNat (N : Int) * 1) = dgs (List.replicate N 0) := by
  apply Array.toList_inj.1
  rw [Int.toNat_natCast, Nat.mul_one]
  rw [show (madeCells (Value.int IntKind.i64 0).cells N).toList = List.replicate N (i64v 0) from toList_madeCells_one _ _]
  unfold dgs
  rw [List.map_replicate]
 rw [h, hz1, e, Int.toNat_natCast]
theorem dig_new (w : World) (rs : List Nat) : DigB (w.alloc (.cells (dgs rs) 3)) w.heap.size rs := heap_alloc_new w _
theorem Wb.set {l : List Nat} (h : Wb l) {v : Nat} (hv : v < B16) (i : Nat) : Wb (l.set i v) := fun x hx => by
 rcases List.mem_or_eq_of_mem_set hx with h1 | h1
 · exact h x h1
 · rw [h1]; exact hv
theorem getD_set_ne {l : List Nat} {i j v : Nat} (h : i ≠ j) : (l.set i v).getD j 0 = l.getD j 0 := by simp [List.getD, List.getElem?_set_ne h]
theorem bval_zeros : ∀ n, bval (List.replicate n 0) = 0
 | 0 => rfl
 | n + 1 => by rw [List.replicate_succ]; unfold bval; rw [bval_zeros n]; rfl
set_option maxHeartbeats 8000000 in
set_option maxRecDepth 100000 in
theorem productS (p p2 : Option Addr) (c c2 A B : Nat) (w : World) (h : RowI w p c (bd A)) (h2 : RowI w p2 c2 (bd B)) (hA : (bd A).length ≤ 1000000) (hB : (bd B).length ≤ 1000000) : Calls Tryz.prog 111 #[.slice p (bd A).length c, .slice p2 (bd B).length c2] w (BigP (A * B) w) := by
 obtain ⟨i0, hi, hz0, hz1, hz2⟩ := info_parts info3
 obtain ⟨X, hX⟩ : ∃ X, X = bd A := ⟨_, rfl⟩
 obtain ⟨Y, hY⟩ : ∃ Y, Y = bd B := ⟨_, rfl⟩
 have vA : bval X = A := by rw [hX]; exact bval_bd A
 have vB : bval Y = B := by rw [hY]; exact bval_bd B
 have hwX : Wb X := by rw [hX]; exact bd_words A
 have hwY : Wb Y := by rw [hY]; exact bd_words B
 rw [← hX] at h hA ⊢
 rw [← hY] at h2 hB ⊢
 obtain ⟨n, hn⟩ : ∃ n, n = X.length := ⟨_, rfl⟩
 obtain ⟨m, hm⟩ : ∃ m, m = Y.length := ⟨_, rfl⟩
 obtain ⟨N, hN⟩ : ∃ N, N = n + m := ⟨_, rfl⟩
 have H := Lib.hid (And.intro h (And.intro h2 (And.intro hwX (And.intro hwY (And.intro hn hm)))))
 have HV := Lib.hid (And.intro vA vB)
 have HL := Lib.hid (show n ≤ 1000000 ∧ m ≤ 1000000 ∧ N = n + m from ⟨by omega, by omega, hN⟩)
 have W0 := Lib.hid (show wrap64 ((n : Int) + m) = (N : Int) from wrapN (by omega) (by omega))
 rw [← hn, ← hm]
 clear h h2 hA hB vA vB hwX hwY hn hm hX hY hN
 go_enter Tryz.func111, Tryz.ntmps111
 have q0 := W0.out
 have hmk := mkN w (N := N) (by have := HL.out; omega)
 go_wp2_with fail
 clear hmk q0
 have HD := Lib.hid (dig_new w (List.replicate N 0))
 have HG := Lib.hid (grown_alloc w (.cells (dgs (List.replicate N 0)) 3) .none)
 generalize w.alloc (.cells (dgs (List.replicate N 0)) 3) = w2 at *
 have HSZ := Lib.hid (Nat.le_refl w.heap.size)
 generalize hgs : w.heap.size = g at *
 try simp only [W0.out]
 go_loopw [19] (fun s19 wr => ∃ (i : Nat) (os : List Nat), s19 = .int .i64 (i : Nat) ∧ DigB wr g os ∧ w.grownBy wr .none ∧ RowKit.Hid (i ≤ n ∧ os.length = N ∧ Wb os ∧ bval os = bval (X.take i) * bval Y ∧ ∀ j, i + m ≤ j → os.getD j 0 = 0)) (fun s19 _ => ((n : Int) - intOf s19).toNat)
 case atStart => exact ⟨0, _, rfl, HD.out, HG.out, ⟨Nat.zero_le _, List.length_replicate, fun x hx => by rw [List.eq_of_mem_replicate hx]; exact B16_pos, by rw [bval_zeros, List.take_zero, bval_nil, Nat.zero_mul], fun j _ => by simp [List.getD, List.getElem?_replicate]; split <;> rfl⟩⟩
 case round =>
  obtain ⟨i, os, rfl, hdb, hg, HR⟩ := hrel
  have HDB := Lib.hid hdb
  have HGR := Lib.hid hg
  by_cases hin : i < n
  · have i1 : (i : Int) < n := by omega
    obtain ⟨bk, ok, rfl⟩ := H.out.1.2.2.1 (by have := H.out; omega)
    have ck := (H.out.1.kept hg).2.2.2 bk ok rfl i (by have := H.out; omega)
    obtain ⟨x, hx⟩ : ∃ x, x = X.getD i 0 := ⟨_, rfl⟩
    rw [← hx] at ck
    have xB : x < 65536 := by rw [hx]; exact H.out.2.2.1.getD i
    have HX := Lib.hid (And.intro hx xB)
    have HR1 := Lib.hid HR.out
    clear hdb hg HR hin hx
    go_wp2_with fail
    try simp only [W0.out]
    go_loopw [8, 26] (fun s8 s26 wq => ∃ (k cy : Nat) (os2 : List Nat), s8 = .int .i64 (cy : Nat) ∧ s26 = .int .i64 (k : Nat) ∧ DigB wq g os2 ∧ w.grownBy wq .none ∧ RowKit.Hid (k ≤ m ∧ cy < B16 ∧ os2.length = N ∧ Wb os2 ∧ bval os2 + B16 ^ (i + k) * cy = bval os + B16 ^ i * (x * bval (Y.take k)) ∧ ∀ j, i + m ≤ j → os2.getD j 0 = 0)) (fun _ s26 _ => ((m : Int) - intOf s26).toNat)
    case atStart =>
     obtain ⟨r1, r2, r3, r4, r5⟩ := HR1.out
     exact ⟨0, 0, os, rfl, rfl, HDB.out, HGR.out, ⟨Nat.zero_le _, B16_pos, r2, r3, by simp [bval_nil], r5⟩⟩
    case round =>
     obtain ⟨k, cy, os2, rfl, rfl, hdb, hg, HR⟩ := hrel
     have HDQ := Lib.hid hdb
     have HGQ := Lib.hid hg
     have hiN : i + k ≤ 2000000 := by have := HR.out.1; have := HL.out; have := HR1.out.1; omega
     by_cases hkm : k < m
     · have i2 : (k : Int) < m := by omega
       obtain ⟨bl, ol, rfl⟩ := H.out.2.1.2.2.1 (by have := H.out; omega)
       have cl := (H.out.2.1.kept hg).2.2.2 bl ol rfl k (by have := H.out; omega)
       obtain ⟨y, hy⟩ : ∃ y, y = Y.getD k 0 := ⟨_, rfl⟩
       rw [← hy] at cl
       have yB : y < 65536 := by rw [hy]; exact H.out.2.2.2.1.getD k
       have hikN : i + k < N := by have := HL.out; have := H.out; have := HX.out; omega
       have cg := hdb.cell (i + k) (by rw [HR.out.2.2.1]; exact hikN)
       have fg := hdb.free (i + k)
       obtain ⟨o, ho⟩ : ∃ o, o = os2.getD (i + k) 0 := ⟨_, rfl⟩
       rw [← ho] at cg
       have oB : o < 65536 := by rw [ho]; exact HR.out.2.2.2.1.getD (i + k)
       have cB : cy < 65536 := HR.out.2.1
       have xyB : x * y ≤ 65535 * 65535 := Nat.mul_le_mul (by omega) (by omega)
       obtain ⟨xy, hxy⟩ : ∃ xy, xy = x * y := ⟨_, rfl⟩
       obtain ⟨t1, ht1⟩ : ∃ t, t = o + xy := ⟨_, rfl⟩
       obtain ⟨t, ht⟩ : ∃ t, t = cy + t1 := ⟨_, rfl⟩
       have W1 := Lib.hid (show wrap64 ((i : Int) + k) = (i : Int) + k from by unfold wrap64; omega)
       have W2 := Lib.hid (show wrap64 ((x : Int) * y) = (xy : Int) from wrapN (by rw [hxy, Int.natCast_mul]) (by omega))
       have W3 := Lib.hid (show wrap64 ((o : Int) + xy) = (t1 : Int) from wrapN (by omega) (by omega))
       have W4 := Lib.hid (show wrap64 ((cy : Int) + t1) = (t : Int) from wrapN (by omega) (by omega))
       have i3 : (i : Int) + k < N := by omega
       obtain ⟨dd, hd'⟩ : ∃ d, d = t % 65536 := ⟨_, rfl⟩
       obtain ⟨cq, hq'⟩ : ∃ q, q = t / 65536 := ⟨_, rfl⟩
       have AN := Lib.hid (and16 t (by omega))
       have SH := Lib.hid (show (t : Int) / 65536 = (cq : Int) from by rw [hq']; omega)
       rw [← hd'] at AN
       have HN := Lib.hid (show k + 1 ≤ m ∧ cq < B16 ∧ (os2.set (i + k) dd).length = N ∧ Wb (os2.set (i + k) dd) ∧ bval (os2.set (i + k) dd) + B16 ^ (i + (k + 1)) * cq = bval os + B16 ^ i * (x * bval (Y.take (k + 1))) ∧ ∀ j, i + m ≤ j → (os2.set (i + k) dd).getD j 0 = 0 from by
        obtain ⟨r1, r2, r3, r4, r5, r6⟩ := HR.out
        refine ⟨hkm, by rw [hq']; unfold B16; omega, by rw [List.length_set, r3], r4.set (by rw [hd']; exact Nat.mod_lt _ B16_pos) _, ?_, fun j hj => ?_⟩
        · rw [hd', hq']
          exact prod_step (by rw [r3]; exact hikN) r5 (by rw [ht, ht1, hxy, ho, hy]; omega)
        · rw [getD_set_ne (by omega), r6 j hj])
       have HDS := Lib.hid (hdb.set (i + k) dd)
       have HGS := Lib.hid (grown_new hg (grown_set wr g (i + k) (.int .i64 (dd : Nat))) (show w.heap.size ≤ g by omega))
       have q2 := W2.out
       have q3 := W3.out
       have q4 := W4.out
       have q5 := AN.out
       have q6 := SH.out
       clear hdb hg HR hy hikN ho hxy ht1 ht hd' hq' xyB oB cB yB hkm
       go_wp2_with fail
       go_roundw
       case rel => exact ⟨k + 1, cq, os2.set (i + k) dd, by first | rfl | exact congrArg (Value.int .i64) SH.out, by first | rfl | go_num | exact congrArg (Value.int .i64) (wrapN (by omega) (by omega)), HDS.out, HGS.out, HN.out⟩
       case measure =>
        have := HN.out.1
        simp only [intOf]
        first | omega | (rw [show wrap64 ((k : Int) + 1) = ((k + 1 : Nat) : Int) from wrapN (by omega) (by omega)]; omega)
     · have i2 : ¬ (k : Int) < m := by omega
       have himN : i + m < N := by have := HL.out; have := H.out; omega
       have cg := hdb.cell (i + m) (by rw [HR.out.2.2.1]; exact himN)
       have fg := hdb.free (i + m)
       have z0 : os2.getD (i + m) 0 = 0 := HR.out.2.2.2.2.2 (i + m) (by omega)
       rw [z0] at cg
       have cB : cy < 65536 := HR.out.2.1
       have W1 := Lib.hid (show wrap64 ((i : Int) + m) = (i : Int) + m from by have := HL.out; unfold wrap64; omega)
       have W2 := Lib.hid (show wrap64 ((0 : Int) + cy) = (cy : Int) from wrapN (by omega) (by omega))
       have i3 : (i : Int) + m < N := by omega
       have HN := Lib.hid (show i + 1 ≤ n ∧ (os2.set (i + m) cy).length = N ∧ Wb (os2.set (i + m) cy) ∧ bval (os2.set (i + m) cy) = bval (X.take (i + 1)) * bval Y ∧ ∀ j, i + 1 + m ≤ j → (os2.set (i + m) cy).getD j 0 = 0 from by
        obtain ⟨r1, r2, r3, r4, r5, r6⟩ := HR.out
        obtain ⟨s1, s2, s3, s4, s5⟩ := HR1.out
        refine ⟨by omega, by rw [List.length_set, r3], r4.set r2 _, ?_, fun j hj => by rw [getD_set_ne (by omega), r6 j (by omega)]⟩
        have hset := bval_set (l := os2) (p := i + m) (v := cy) (by omega)
        rw [z0, Nat.mul_zero, Nat.add_zero] at hset
        have hk : k = m := by omega
        rw [hk, List.take_of_length_le (by have := H.out; omega)] at r5
        rw [hset, r5, s4, bval_take_succ, ← HX.out.1, Nat.add_mul, Nat.mul_assoc])
       have HDS := Lib.hid (hdb.set (i + m) cy)
       have HGS := Lib.hid (grown_new hg (grown_set wr g (i + m) (.int .i64 (cy : Nat))) (show w.heap.size ≤ g by omega))
       have WC := Lib.hid (show wrap64 (cy : Int) = (cy : Int) from wrapN rfl (by omega))
       clear hdb hg HR himN z0 cB hkm
       go_wp2_with fail
       simp only [WC.out]
       go_roundw
       case rel => exact ⟨i + 1, os2.set (i + m) cy, by first | rfl | go_num | exact congrArg (Value.int .i64) (wrapN (by omega) (by omega)), HDS.out, HGS.out, HN.out⟩
       case measure =>
        have := HN.out.1
        simp only [intOf]
        first | omega | (rw [show wrap64 ((i : Int) + 1) = ((i + 1 : Nat) : Int) from wrapN (by omega) (by omega)]; omega)
  · have i1 : ¬ (i : Int) < n := by omega
    obtain ⟨r1, r2, r3, r4, r5⟩ := HR.out
    have hsum : bval os = A * B := by
     rw [r4, List.take_of_length_le (by have := H.out; omega), HV.out.1, HV.out.2]
    have hrow := hdb.row (c := N) (by omega) (by have := HL.out; unfold maxLen; omega)
    have HT := trimS (some ⟨g, 0, .none⟩) N os wr hrow
    rw [bnorm_bd os r3, hsum, r2] at HT
    have HTT := Lib.hid HT
    have HF := Lib.hid (show ∀ wx, wx = wr → BigP (A * B) w (.returned (.slice (some ⟨g, 0, .none⟩) (bd (A * B)).length N)) wx from fun wx hwx => by
     subst hwx
     refine ⟨_, _, rfl, ?_, hg⟩
     have hb := bnorm_bd os r3
     rw [hsum] at hb
     have := bnorm_take os
     rw [hb] at this
     rw [← this]
     exact hrow.take _)
    clear r1 r2 r3 r4 r5 hsum HT hrow hdb hg HR HD HG hin HDB HGR
    go_wp2_with fail
    refine HTT.out.mono ?_
    rintro e w1 ⟨rfl, hw⟩
    have HE := Lib.hid (HF.out _ hw)
    clear hw
    go_wp2_with fail
    go_ret
    exact HE.out
end Go.Proofs.YtohhkjamddojmaaGreatDoor.Big

namespace Go.Proofs.YtohhkjamddojmaaGreatDoor.Big
open Go.RowKit

theorem orlow {s a b : Nat} (hs : s ≤ 15) (ha : a < 2 ^ s) (hb : b < 65536) : bits .or .i64 (a : Int) ((b : Int) * 2 ^ s) = ((a + b * 2 ^ s : Nat) : Int) := by
 have h16 : 2 ^ s ≤ 2 ^ 15 := Nat.pow_le_pow_right (by decide) hs
 have hle : b * 2 ^ s ≤ b * 2 ^ 15 := Nat.mul_le_mul_left _ h16
 have e : (b : Int) * 2 ^ s = ((b * 2 ^ s : Nat) : Int) := by rw [Int.natCast_mul, Int.natCast_pow]; rfl
 have e2 : (2 : Int) ^ s = ((2 ^ s : Nat) : Int) := by rw [Int.natCast_pow]; rfl
 rw [e, bits_join_low .i64 63 (by decide) (fun n h0 h1 => by rw [IntKind.wrap_i64]; omega) s (a : Int) ((b * 2 ^ s : Nat) : Int) (by omega) (by rw [e2]; omega) (by omega) (by omega) (by rw [e2, ← Int.natCast_emod, Nat.mul_mod_left]; rfl) (by omega)]
 omega
set_option maxHeartbeats 8000000 in
set_option maxRecDepth 100000 in
theorem shiftedS (p : Option Addr) (c : Nat) (A s : Nat) (w : World) (h : RowI w p c (bd A)) (hA : (bd A).length ≤ 1000000) (hs : s ≤ 15) : Calls Tryz.prog 146 #[.slice p (bd A).length c, .int .i64 s] w (BigP (A * 2 ^ s) w) := by
 obtain ⟨i0, hi, hz0, hz1, hz2⟩ := info_parts info3
 obtain ⟨X, hX⟩ : ∃ X, X = bd A := ⟨_, rfl⟩
 have vA : bval X = A := by rw [hX]; exact bval_bd A
 have hwX : Wb X := by rw [hX]; exact bd_words A
 rw [← hX] at h hA ⊢
 obtain ⟨n, hn⟩ : ∃ n, n = X.length := ⟨_, rfl⟩
 have H := Lib.hid (And.intro h (And.intro hA (And.intro vA (And.intro hwX hn))))
 have h0s : (0 : Int) ≤ s := by omega
 have hs1 : (s : Int) ≤ 15 := by omega
 have h16 : 2 ^ s ≤ 32768 := by rw [show 32768 = 2 ^ 15 from rfl]; exact Nat.pow_le_pow_right (by decide) hs
 have HP := Lib.hid (And.intro hs h16)
 rw [← hn]
 clear h hA vA hwX hn hX h16
 go_enter Tryz.func146, Tryz.ntmps146
 go_wp2_with fail
 go_loopw [5, 6, 11] (fun v s6 s11 wr => ∃ (i cy : Nat) (ks : List Nat), s6 = .int .i64 (cy : Nat) ∧ s11 = .int .i64 (i : Nat) ∧ wr.ownsRow w.heap.size 3 1 v i (ks.map i64v) ∧ w.grownBy wr .none ∧ RowKit.Hid (i ≤ n ∧ cy < 2 ^ s ∧ ks.length = i ∧ Wb ks ∧ bval ks + B16 ^ i * cy = bval (X.take i) * 2 ^ s)) (fun _ _ s11 _ => ((n : Int) - intOf s11).toNat)
 case atStart => exact ⟨0, 0, [], rfl, rfl, World.ownsRow_nil _ _ _ _, World.grownBy.refl _ _, ⟨Nat.zero_le _, Nat.pow_pos (by decide), rfl, Wb.nil, by simp [bval]⟩⟩
 case round =>
  obtain ⟨i, cy, ks, rfl, rfl, hown, hg, HR⟩ := hrel
  have HO := Lib.hid hown
  have HG := Lib.hid hg
  have hsz : w.heap.size ≤ wr.heap.size := hg.size
  have hj6 : i + 1 ≤ 1000001 := by have := HR.out; have := H.out; omega
  by_cases hin : i < n
  · have i1 : (i : Int) < n := by omega
    obtain ⟨bk, ok, rfl⟩ := H.out.1.2.2.1 (by have := H.out.2.2.2.2; omega)
    have ck := (H.out.1.kept hg).2.2.2 bk ok rfl i (by have := H.out.2.2.2.2; omega)
    obtain ⟨ki, hki⟩ : ∃ x, x = X.getD i 0 := ⟨_, rfl⟩
    rw [← hki] at ck
    have kB : ki < 65536 := by rw [hki]; exact H.out.2.2.2.1.getD i
    obtain ⟨t, ht⟩ : ∃ t, t = cy + ki * 2 ^ s := ⟨_, rfl⟩
    have tB : t < 65536 * 2 ^ s := by
     have := HR.out.2.1
     have : ki * 2 ^ s ≤ 65535 * 2 ^ s := Nat.mul_le_mul_right _ (by omega)
     omega
    have tB2 : t < 65536 * 32768 := by have := HP.out.2; omega
    have OR := Lib.hid (orlow HP.out.1 HR.out.2.1 kB)
    rw [← ht] at OR
    obtain ⟨dd, hd'⟩ : ∃ d, d = t % 65536 := ⟨_, rfl⟩
    obtain ⟨cq, hq'⟩ : ∃ q, q = t / 65536 := ⟨_, rfl⟩
    have AN := Lib.hid (and16 t (by omega))
    have SH := Lib.hid (show (t : Int) / 65536 = (cq : Int) from by rw [hq']; omega)
    rw [← hd'] at AN
    have HN := Lib.hid (show i + 1 ≤ n ∧ cq < 2 ^ s ∧ (ks ++ [dd]).length = i + 1 ∧ Wb (ks ++ [dd]) ∧ bval (ks ++ [dd]) + B16 ^ (i + 1) * cq = bval (X.take (i + 1)) * 2 ^ s from by
     obtain ⟨r1, r2, r3, r4, r5⟩ := HR.out
     refine ⟨by omega, by rw [hq']; omega, by rw [List.length_append, r3]; rfl, r4.append (Wb.one (by rw [hd']; exact Nat.mod_lt _ B16_pos)), ?_⟩
     rw [hd', hq']
     exact shl_step r3 r5 (by rw [ht, hki]))
    have SHL := Lib.hid (show wrap64 ((ki : Int) * 2 ^ s) = (ki : Int) * 2 ^ s from by
     have e : (ki : Int) * 2 ^ s = ((ki * 2 ^ s : Nat) : Int) := by rw [Int.natCast_mul, Int.natCast_pow]; rfl
     rw [e]
     exact wrapN rfl (by omega))
    have HJ := Lib.hid hj6
    have q4 := SHL.out
    have q5 := OR.out
    have q6 := AN.out
    have q7 := SH.out
    clear hki hown hg HR ht hd' hq' hin tB tB2
    have hga : w.grownBy (wr.alloc (.cells #[Value.int .i64 (dd : Nat)] 3)) .none := grown_trans HG.out (grown_alloc _ _ _)
    have hoa := owns_alloc HO.out (.cells #[Value.int .i64 (dd : Nat)] 3)
    have hsrc : ∀ j u, ([Value.int .i64 (dd : Nat)] : List Value)[j]? = some u → (wr.alloc (.cells #[Value.int .i64 (dd : Nat)] 3)).cell? ((⟨wr.heap.size, 0, .none⟩ : Addr).add j) = some u := fun j u hu => by
     match j, hu with
     | 0, hu => rw [← hu]; exact cell_in (k := 0) (heap_alloc_new wr (.cells #[Value.int .i64 (dd : Nat)] 3)) rfl
     | j + 1, hu => simp at hu

    go_wp2_with (at_builtin; refine wpList_append_own _ rfl (.tmp 20) (.tmp 23) 36 rfl w.heap.size 3 i0 (.int .i64 0) 1 8 Tryz.underlying36 hi hz0 hz1 hz2 rfl (by decide) _ i (ks.map i64v) rfl hoa ⟨wr.heap.size, 0, .none⟩ 1 1 [Value.int .i64 (dd : Nat)] rfl (by simp) hsrc (by intro u hu; rw [List.mem_singleton.1 hu]; rfl) (by unfold maxLen; omega) (by omega) (Nat.le_trans hsz (by show _ ≤ (Array.push _ _).size; rw [Array.size_push]; omega)) ?_; intro v' w1 hown' hgrow hnn)
    have HO' := Lib.hid (show w1.ownsRow w.heap.size 3 1 v' (i + 1) ((ks ++ [dd]).map i64v) by rw [List.map_append]; exact hown')
    have HGR := Lib.hid (And.intro hga hgrow)
    clear hown' hgrow hnn hga hoa hsrc

    go_wp2_with fail
    go_roundw
    case rel =>
     refine ⟨i + 1, cq, ks ++ [dd], by first | rfl | exact congrArg (Value.int .i64) SH.out, by first | rfl | go_num | exact congrArg (Value.int .i64) (wrapN (by omega) (by omega)), HO'.out, own_grown HO.out HGR.out.1 HGR.out.2, HN.out⟩
    case measure =>
     have := HN.out.1
     simp only [intOf]
     first | omega | (rw [show wrap64 ((i : Int) + 1) = ((i + 1 : Nat) : Int) from wrapN (by omega) (by omega)]; omega)
  · have i1 : ¬ (i : Int) < n := by omega
    obtain ⟨r1, r2, r3, r4, r5⟩ := HR.out
    have HSUM := Lib.hid (show bval (ks ++ [cy]) = A * 2 ^ s ∧ Wb (ks ++ [cy]) ∧ (ks ++ [cy]).length = i + 1 from by
     refine ⟨?_, r4.append (Wb.one (by have := HP.out.2; unfold B16; omega)), by rw [List.length_append, r3]; rfl⟩
     rw [bval_snoc, r3, r5, List.take_of_length_le (by have := H.out.2.2.2.2; omega), H.out.2.2.1])
    clear r1 r2 r3 r4 r5 hin hown hg HR
    have hga : w.grownBy (wr.alloc (.cells #[Value.int .i64 (cy : Nat)] 3)) .none := grown_trans HG.out (grown_alloc _ _ _)
    have hoa := owns_alloc HO.out (.cells #[Value.int .i64 (cy : Nat)] 3)
    have hsrc : ∀ j u, ([Value.int .i64 (cy : Nat)] : List Value)[j]? = some u → (wr.alloc (.cells #[Value.int .i64 (cy : Nat)] 3)).cell? ((⟨wr.heap.size, 0, .none⟩ : Addr).add j) = some u := fun j u hu => by
     match j, hu with
     | 0, hu => rw [← hu]; exact cell_in (k := 0) (heap_alloc_new wr (.cells #[Value.int .i64 (cy : Nat)] 3)) rfl
     | j + 1, hu => simp at hu

    go_wp2_with (at_builtin; refine wpList_append_own _ rfl (.tmp 28) (.tmp 30) 36 rfl w.heap.size 3 i0 (.int .i64 0) 1 8 Tryz.underlying36 hi hz0 hz1 hz2 rfl (by decide) _ i (ks.map i64v) rfl hoa ⟨wr.heap.size, 0, .none⟩ 1 1 [Value.int .i64 (cy : Nat)] rfl (by simp) hsrc (by intro u hu; rw [List.mem_singleton.1 hu]; rfl) (by unfold maxLen; omega) (by omega) (Nat.le_trans hsz (by show _ ≤ (Array.push _ _).size; rw [Array.size_push]; omega)) ?_; intro v' w1 hown' hgrow hnn)
    have HO' := Lib.hid (show w1.ownsRow w.heap.size 3 1 v' (i + 1) ((ks ++ [cy]).map i64v) by rw [List.map_append]; exact hown')
    have HGR := Lib.hid (And.intro hga hgrow)
    clear hown' hgrow hnn hga hoa hsrc

    obtain ⟨p', c', hv, hrow⟩ := owned_row HO'.out HSUM.out.2.2.symm
    have HT := trimS p' c' (ks ++ [cy]) w1 hrow
    rw [bnorm_bd _ HSUM.out.2.1, HSUM.out.1, HSUM.out.2.2] at HT
    rw [HSUM.out.2.2] at hv
    have HTT := Lib.hid HT
    have HF := Lib.hid (show ∀ wx, wx = w1 → BigP (A * 2 ^ s) w (.returned (.slice p' (bd (A * 2 ^ s)).length c')) wx from fun wx hwx => by
     subst hwx
     refine ⟨p', c', rfl, ?_, own_grown HO.out HGR.out.1 HGR.out.2⟩
     have hb := bnorm_bd _ HSUM.out.2.1
     rw [HSUM.out.1] at hb
     have := bnorm_take (ks ++ [cy])
     rw [hb] at this
     rw [← this]
     exact hrow.take _)
    subst hv
    clear HT hrow
    go_wp2_with fail
    refine HTT.out.mono ?_
    rintro e w2 ⟨rfl, hw⟩
    have HE := Lib.hid (HF.out _ hw)
    clear hw
    go_wp2_with fail
    go_ret
    exact HE.out
end Go.Proofs.YtohhkjamddojmaaGreatDoor.Big

namespace Go.Proofs.YtohhkjamddojmaaGreatDoor.Big
open Go.RowKit

theorem orhi {s a b : Nat} (hs : s ≤ 16) (ha : a < 2 ^ s) (hb : b < 65536) : bits .or .i64 ((b : Int) * 2 ^ s) (a : Int) = ((a + b * 2 ^ s : Nat) : Int) := by
 have h16 : 2 ^ s ≤ 2 ^ 16 := Nat.pow_le_pow_right (by decide) hs
 have hle : b * 2 ^ s ≤ b * 2 ^ 16 := Nat.mul_le_mul_left _ h16
 have e : (b : Int) * 2 ^ s = ((b * 2 ^ s : Nat) : Int) := by rw [Int.natCast_mul, Int.natCast_pow]; rfl
 have e2 : (2 : Int) ^ s = ((2 ^ s : Nat) : Int) := by rw [Int.natCast_pow]; rfl
 rw [e, bits_join .i64 63 (by decide) (fun n h0 h1 => by rw [IntKind.wrap_i64]; omega) s ((b * 2 ^ s : Nat) : Int) (a : Int) (by omega) (by rw [e2, ← Int.natCast_emod, Nat.mul_mod_left]; rfl) (by omega) (by omega) (by rw [e2]; omega) (by omega)]
 omega
theorem orhi16 {a b : Nat} (ha : a < 65536) (hb : b < 65536) : bits .or .i64 ((b : Int) * 65536) (a : Int) = ((a + b * 65536 : Nat) : Int) := orhi (s := 16) (Nat.le_refl _) ha hb
theorem orlo16 {a b : Nat} (ha : a < 65536) (hb : b < 65536) : bits .or .i64 (a : Int) ((b : Int) * 65536) = ((a + b * 65536 : Nat) : Int) := by
 have e : (b : Int) * 65536 = ((b * 65536 : Nat) : Int) := by rw [Int.natCast_mul]; rfl
 rw [e, bits_join_low .i64 63 (by decide) (fun n h0 h1 => by rw [IntKind.wrap_i64]; omega) 16 (a : Int) ((b * 65536 : Nat) : Int) (by omega) (by omega) (by omega) (by omega) (by omega) (by omega)]
 omega
theorem top_split {M l1 : Nat} (hl : (bd M).length = l1 + 1) : ∃ lo, M = lo + B16 ^ l1 * (bd M).getD l1 0 ∧ lo < B16 ^ l1 := by
 have e := bval_take_succ (bd M) l1
 rw [List.take_of_length_le (by omega), bval_bd] at e
 have h := bval_lt ((bd M).take l1) ((bd_words M).take _)
 rw [List.length_take, Nat.min_eq_left (by omega)] at h
 exact ⟨_, e, h⟩
theorem top_pos {M l1 : Nat} (hl : (bd M).length = l1 + 1) : 1 ≤ (bd M).getD l1 0 := by
 obtain ⟨lo, e, h⟩ := top_split hl
 have hM : M ≠ 0 := fun e0 => by rw [e0, bd_zero] at hl; simp at hl
 have hb := bd_last hM
 rw [hl, Nat.add_sub_cancel] at hb
 rcases Nat.eq_zero_or_pos ((bd M).getD l1 0) with h0 | h0
 · rw [h0] at e; omega
 · exact h0
theorem top_shift {M l1 j : Nat} (hl : (bd M).length = l1 + 1) (h1 : 32768 ≤ (bd M).getD l1 0 * 2 ^ j) (h2 : (bd M).getD l1 0 * 2 ^ j < 65536) (hj : j ≤ 15) :
 (bd (M * 2 ^ j)).length = l1 + 1 ∧ 32768 ≤ (bd (M * 2 ^ j)).getD l1 0 := by
 obtain ⟨lo, e, hlo⟩ := top_split hl
 obtain ⟨T, hT⟩ : ∃ T, T = (bd M).getD l1 0 := ⟨_, rfl⟩
 rw [← hT] at e h1 h2
 obtain ⟨P, hP⟩ : ∃ P, P = B16 ^ l1 := ⟨_, rfl⟩
 rw [← hP] at e hlo
 have hp : 0 < 2 ^ j := Nat.pow_pos (by decide)
 have e2 : M * 2 ^ j = lo * 2 ^ j + P * (T * 2 ^ j) := by rw [e, Nat.add_mul, Nat.mul_assoc]
 have e16 : 2 ^ (16 - j) * 2 ^ j = 65536 := pow16 hj
 have hT1 : T < 2 ^ (16 - j) := by
  apply Nat.lt_of_not_le
  intro hn
  have := Nat.mul_le_mul_right (2 ^ j) hn
  omega
 have h3 : (T + 1) * 2 ^ j ≤ 65536 := by have := Nat.mul_le_mul_right (2 ^ j) hT1; rw [e16] at this; exact this
 have h4 : lo * 2 ^ j < P * 2 ^ j := Nat.mul_lt_mul_of_pos_right hlo hp
 have h5 : P * ((T + 1) * 2 ^ j) ≤ P * 65536 := Nat.mul_le_mul_left _ h3
 have h6 : P * ((T + 1) * 2 ^ j) = P * (T * 2 ^ j) + P * 2 ^ j := by rw [Nat.add_mul, Nat.one_mul, Nat.mul_add]
 have h7 : P * 32768 ≤ P * (T * 2 ^ j) := Nat.mul_le_mul_left _ h1
 have hP0 : 0 < P := by rw [hP]; exact Nat.pow_pos B16_pos
 have hlt : M * 2 ^ j < B16 ^ (l1 + 1) := by
  rw [Nat.pow_succ, ← hP, show B16 = 65536 from rfl]
  omega
 have len : (bd (M * 2 ^ j)).length = l1 + 1 := by
  have a := bd_length.2 hlt
  have b : ¬ (bd (M * 2 ^ j)).length ≤ l1 := fun h => by
   have := bd_length.1 h
   rw [← hP] at this
   omega
  omega
 refine ⟨len, ?_⟩
 obtain ⟨lo', e', hlo'⟩ := top_split len
 rw [← hP] at e' hlo'
 apply Nat.le_of_not_lt
 intro hn
 have := Nat.mul_le_mul_left P (show (bd (M * 2 ^ j)).getD l1 0 + 1 ≤ 32768 by omega)
 rw [Nat.mul_succ] at this
 omega
theorem top_zero {rs : List Nat} {k : Nat} (hl : rs.length = k + 1) (h : bval rs < B16 ^ k) : rs.getD k 0 = 0 ∧ bval (rs.take k) = bval rs := by
 have e := bval_take_succ rs k
 rw [List.take_of_length_le (by omega)] at e
 rcases Nat.eq_zero_or_pos (rs.getD k 0) with h0 | h0
 · rw [h0] at e; exact ⟨h0, by omega⟩
 · have := Nat.mul_le_mul_left (B16 ^ k) h0
   omega
theorem copy_digs {w : World} {g k : Nat} {rs : List Nat} (h : DigB w g rs) (hl : rs.length = k + 1) (c d : Nat) :
 ∃ w1, (∀ ty, (Builtin.copy_ #[36, 36] ty #[.slice (some ⟨g, 1, .none⟩) k c, .slice (some ⟨g, 0, .none⟩) k d]).run Tryz.prog w = .ok (.int .i64 k) w1) ∧ DigB w1 g (rs.getD 0 0 :: rs.take k) ∧ w.grownBy w1 (some g) := by
 have hlen : ((rs.take k).map i64v).length = k := by simp; omega
 refine ⟨w.setRow g (dgs (rs.getD 0 0 :: rs.take k)), fun ty => ?_, ?_, grown_setRow _ _ _⟩
 · have := run_copy_row (P := Tryz.prog) w 36 36 ty 3 g 1 k c ⟨g, 0, .none⟩ k d (dgs rs) 3 ((rs.take k).map i64v) Tryz.underlying36 (by kernel_rfl) h (by rw [hlen]; simp) (fun j v hj => ?_) (by rw [hlen]; simp [dgs]; omega) (by intro v hv; obtain ⟨x, -, rfl⟩ := List.mem_map.1 hv; rfl)
   · rw [this]
     have e : ((dgs rs).toList.take 1 ++ (rs.take k).map i64v ++ (dgs rs).toList.drop (1 + ((rs.take k).map i64v).length)).toArray = dgs (rs.getD 0 0 :: rs.take k) := by
      rw [hlen]
      apply Array.toList_inj.1
      match rs, hl with
      | r :: rs, hl =>
       have : rs.length = k := by simpa using hl
       simp [dgs, List.getD, this]
       omega
     rw [e, hlen]
     rfl
   · have hjl : j < k := by
      apply Nat.lt_of_not_le
      intro e
      rw [List.getElem?_eq_none (by rw [hlen]; exact e)] at hj
      cases hj
     rw [show (⟨g, 0, .none⟩ : Addr).add j = ⟨g, j, .none⟩ from by simp [Addr.add]; intro h; omega, h.cell j (by omega)]
     rw [List.getElem?_map, List.getElem?_take_of_lt hjl, List.getElem?_eq_getElem (by omega)] at hj
     rw [← Option.some.inj hj]
     simp [List.getD, i64v, List.getElem?_eq_getElem (show j < rs.length by omega)]
 · unfold DigB World.setRow
   simp only [Array.getElem?_modify, if_true]
   unfold DigB at h
   rw [h]
   rfl
def celN : Value → Nat
 | .int _ k => k.toNat
 | _ => 0
/-- the number in a block of digits -/
def digN (w : World) (g : Nat) : Nat :=
 match w.heap[g]? with
 | some (.cells cs _ _) => bval (cs.toList.map celN)
 | _ => 0
theorem DigB.num {w : World} {g : Nat} {rs : List Nat} (h : DigB w g rs) : digN w g = bval rs := by
 unfold DigB at h
 unfold digN
 rw [h]
 simp only [dgs]
 congr 1
 rw [List.map_map]
 conv => rhs; rw [← List.map_id rs]
 apply List.map_congr_left
 intro x _
 simp [celN, i64v]
end Go.Proofs.YtohhkjamddojmaaGreatDoor.Big
