/- Products of the specification's great numbers. -/
import Derived.Test.YtohhkjamddojmaaGreatDoorQV
set_option maxHeartbeats 16000000
namespace Go.Proofs.YtohhkjamddojmaaGreatDoor.Big
open Go.RowKit
theorem mkN (w : World) {N : Nat} (hN : N ≤ 4000000) : (Instr.makeSlice 36 (.int .i64 (N : Int)) (.int .i64 (N : Int))).run Tryz.prog w = .ok (.slice (some ⟨w.heap.size, 0, .none⟩) N N) (w.alloc (.cells (dgs (List.replicate N 0)) 3)) := by
 obtain ⟨i0, hi, hz0, hz1, hz2⟩ := info_parts info3
 have h := run_make (P := Tryz.prog) w 36 3 i0 (.int .i64 0) Tryz.underlying36 hi hz0 .i64 .i64 (N : Int) (N : Int) (by omega) (Int.le_refl _) (by rw [hz2]; omega) (by omega)
 have e : madeCells (Value.int .i64 0).cells (Int.toNat (N : Int) * 1) = dgs (List.replicate N 0) := by
  apply Array.toList_inj.1
  rw [Int.toNat_natCast, Nat.mul_one]
  rw [show (madeCells (Value.int IntKind.i64 0).cells N).toList = List.replicate N (i64v 0) from toList_madeCells_one _ _]
  unfold dgs
  rw [List.map_replicate]
 rw [h, hz1, e, Int.toNat_natCast]
theorem dig_new (w : World) (rs : List Nat) : DigB (w.alloc (.cells (dgs rs) 3)) w.heap.size rs := heap_alloc_new w _
theorem Wb.set {l : List Nat} (h : Wb l) {v : Nat} (hv : v < B16) (i : Nat) : Wb (l.set i v) := fun x hx => by
 rcases List.mem_or_eq_of_mem_set hx with h1 | h1
 · exact h x h1
 · rw [h1]; exact hv
theorem getD_set_ne {l : List Nat} {i j v : Nat} (h : i ≠ j) : (l.set i v).getD j 0 = l.getD j 0 := by simp [List.getD, List.getElem?_set_ne h]
theorem bval_zeros : ∀ n, bval (List.replicate n 0) = 0
 | 0 => rfl
 | n + 1 => by rw [List.replicate_succ]; unfold bval; rw [bval_zeros n]; rfl
set_option maxRecDepth 100000 in
theorem productS (p p2 : Option Addr) (c c2 A B : Nat) (w : World) (h : RowI w p c (bd A)) (h2 : RowI w p2 c2 (bd B)) (hA : (bd A).length ≤ 1000000) (hB : (bd B).length ≤ 1000000) : Calls Tryz.prog 111 #[.slice p (bd A).length c, .slice p2 (bd B).length c2] w (BigP (A * B) w) := by
 obtain ⟨i0, hi, hz0, hz1, hz2⟩ := info_parts info3
 obtain ⟨X, hX⟩ : ∃ X, X = bd A := ⟨_, rfl⟩
 obtain ⟨Y, hY⟩ : ∃ Y, Y = bd B := ⟨_, rfl⟩
 have vA : bval X = A := by rw [hX]; exact bval_bd A
 have vB : bval Y = B := by rw [hY]; exact bval_bd B
 have hwX : Wb X := by rw [hX]; exact bd_words A
 have hwY : Wb Y := by rw [hY]; exact bd_words B
 rw [← hX] at h hA ⊢
 rw [← hY] at h2 hB ⊢
 obtain ⟨n, hn⟩ : ∃ n, n = X.length := ⟨_, rfl⟩
 obtain ⟨m, hm⟩ : ∃ m, m = Y.length := ⟨_, rfl⟩
 obtain ⟨N, hN⟩ : ∃ N, N = n + m := ⟨_, rfl⟩
 have H := Lz (And.intro h (And.intro h2 (And.intro hwX (And.intro hwY (And.intro hn hm)))))
 have HV := Lz (And.intro vA vB)
 have HL := Lz (show n ≤ 1000000 ∧ m ≤ 1000000 ∧ N = n + m from ⟨by omega, by omega, hN⟩)
 have W0 := Lz (show wrap64 ((n : Int) + m) = (N : Int) from wrapN (by omega) (by omega))
 rw [← hn, ← hm]
 clear h h2 hA hB vA vB hwX hwY hn hm hX hY hN
 go_enter Tryz.func111, Tryz.ntmps111
 have q0 := W0.out
 have hmk := mkN w (N := N) (by have := HL.out; omega)
 go_wp2_with fail
 clear hmk q0
 have HD := Lz (dig_new w (List.replicate N 0))
 have HG := Lz (zzx w (.cells (dgs (List.replicate N 0)) 3) .none)
 generalize w.alloc (.cells (dgs (List.replicate N 0)) 3) = w2 at *
 have HSZ := Lz (Nat.le_refl w.heap.size)
 generalize hgs : w.heap.size = g at *
 try simp only [W0.out]
 go_loopw [19] (fun s19 wr => ∃ (i : Nat) (os : List Nat), s19 = .int .i64 (i : Nat) ∧ DigB wr g os ∧ w.grownBy wr .none ∧ RowKit.Hid (i ≤ n ∧ os.length = N ∧ Wb os ∧ bval os = bval (X.take i) * bval Y ∧ ∀ j, i + m ≤ j → os.getD j 0 = 0)) (fun s19 _ => ((n : Int) - intOf s19).toNat)
 case atStart => exact ⟨0, _, rfl, HD.out, HG.out, ⟨Nat.zero_le _, List.length_replicate, fun x hx => by rw [List.eq_of_mem_replicate hx]; exact B16_pos, by rw [bval_zeros, List.take_zero, bval_nil, Nat.zero_mul], fun j _ => by simp [List.getD, List.getElem?_replicate]; split <;> rfl⟩⟩
 case round =>
  obtain ⟨i, os, rfl, hdb, hg, HR⟩ := hrel
  have HDB := Lz hdb
  have HGR := Lz hg
  by_cases hin : i < n
  · have i1 : (i : Int) < n := by omega
    obtain ⟨bk, ok, rfl⟩ := H.out.1.2.2.1 (by have := H.out; omega)
    have ck := (H.out.1.kept hg).2.2.2 bk ok rfl i (by have := H.out; omega)
    obtain ⟨x, hx⟩ : ∃ x, x = X.getD i 0 := ⟨_, rfl⟩
    rw [← hx] at ck
    have xB : x < 65536 := by rw [hx]; exact H.out.2.2.1.getD i
    have HX := Lz (And.intro hx xB)
    have HR1 := Lz HR.out
    clear hdb hg HR hin hx
    go_wp2_with fail
    try simp only [W0.out]
    go_loopw [8, 26] (fun s8 s26 wq => ∃ (k cy : Nat) (os2 : List Nat), s8 = .int .i64 (cy : Nat) ∧ s26 = .int .i64 (k : Nat) ∧ DigB wq g os2 ∧ w.grownBy wq .none ∧ RowKit.Hid (k ≤ m ∧ cy < B16 ∧ os2.length = N ∧ Wb os2 ∧ bval os2 + B16 ^ (i + k) * cy = bval os + B16 ^ i * (x * bval (Y.take k)) ∧ ∀ j, i + m ≤ j → os2.getD j 0 = 0)) (fun _ s26 _ => ((m : Int) - intOf s26).toNat)
    case atStart =>
     obtain ⟨r1, r2, r3, r4, r5⟩ := HR1.out
     exact ⟨0, 0, os, rfl, rfl, HDB.out, HGR.out, ⟨Nat.zero_le _, B16_pos, r2, r3, by simp [bval_nil], r5⟩⟩
    case round =>
     obtain ⟨k, cy, os2, rfl, rfl, hdb, hg, HR⟩ := hrel
     have HDQ := Lz hdb
     have HGQ := Lz hg
     have hiN : i + k ≤ 2000000 := by have := HR.out.1; have := HL.out; have := HR1.out.1; omega
     by_cases hkm : k < m
     · have i2 : (k : Int) < m := by omega
       obtain ⟨bl, ol, rfl⟩ := H.out.2.1.2.2.1 (by have := H.out; omega)
       have cl := (H.out.2.1.kept hg).2.2.2 bl ol rfl k (by have := H.out; omega)
       obtain ⟨y, hy⟩ : ∃ y, y = Y.getD k 0 := ⟨_, rfl⟩
       rw [← hy] at cl
       have yB : y < 65536 := by rw [hy]; exact H.out.2.2.2.1.getD k
       have hikN : i + k < N := by have := HL.out; have := H.out; have := HX.out; omega
       have cg := hdb.cell (i + k) (by rw [HR.out.2.2.1]; exact hikN)
       have fg := hdb.free (i + k)
       obtain ⟨o, ho⟩ : ∃ o, o = os2.getD (i + k) 0 := ⟨_, rfl⟩
       rw [← ho] at cg
       have oB : o < 65536 := by rw [ho]; exact HR.out.2.2.2.1.getD (i + k)
       have cB : cy < 65536 := HR.out.2.1
       have xyB : x * y ≤ 65535 * 65535 := Nat.mul_le_mul (by omega) (by omega)
       obtain ⟨xy, hxy⟩ : ∃ xy, xy = x * y := ⟨_, rfl⟩
       obtain ⟨t1, ht1⟩ : ∃ t, t = o + xy := ⟨_, rfl⟩
       obtain ⟨t, ht⟩ : ∃ t, t = cy + t1 := ⟨_, rfl⟩
       have W1 := Lz (show wrap64 ((i : Int) + k) = (i : Int) + k from by unfold wrap64; omega)
       have W2 := Lz (show wrap64 ((x : Int) * y) = (xy : Int) from wrapN (by rw [hxy, Int.natCast_mul]) (by omega))
       have W3 := Lz (show wrap64 ((o : Int) + xy) = (t1 : Int) from wrapN (by omega) (by omega))
       have W4 := Lz (show wrap64 ((cy : Int) + t1) = (t : Int) from wrapN (by omega) (by omega))
       have i3 : (i : Int) + k < N := by omega
       obtain ⟨dd, hd'⟩ : ∃ d, d = t % 65536 := ⟨_, rfl⟩
       obtain ⟨cq, hq'⟩ : ∃ q, q = t / 65536 := ⟨_, rfl⟩
       have AN := Lz (and16 t (by omega))
       have SH := Lz (show (t : Int) / 65536 = (cq : Int) from by rw [hq']; omega)
       rw [← hd'] at AN
       have HN := Lz (show k + 1 ≤ m ∧ cq < B16 ∧ (os2.set (i + k) dd).length = N ∧ Wb (os2.set (i + k) dd) ∧ bval (os2.set (i + k) dd) + B16 ^ (i + (k + 1)) * cq = bval os + B16 ^ i * (x * bval (Y.take (k + 1))) ∧ ∀ j, i + m ≤ j → (os2.set (i + k) dd).getD j 0 = 0 from by
        obtain ⟨r1, r2, r3, r4, r5, r6⟩ := HR.out
        refine ⟨hkm, by rw [hq']; unfold B16; omega, by rw [List.length_set, r3], r4.set (by rw [hd']; exact Nat.mod_lt _ B16_pos) _, ?_, fun j hj => ?_⟩
        · rw [hd', hq']
          exact prod_step (by rw [r3]; exact hikN) r5 (by rw [ht, ht1, hxy, ho, hy]; omega)
        · rw [getD_set_ne (by omega), r6 j hj])
       have HDS := Lz (hdb.set (i + k) dd)
       have HGS := Lz (grown_new hg (zzw wr g (i + k) (.int .i64 (dd : Nat))) (show w.heap.size ≤ g by omega))
       have q2 := W2.out
       have q3 := W3.out
       have q4 := W4.out
       have q5 := AN.out
       have q6 := SH.out
       clear hdb hg HR hy hikN ho hxy ht1 ht hd' hq' xyB oB cB yB hkm
       go_wp2_with fail
       go_roundw
       case rel => exact ⟨k + 1, cq, os2.set (i + k) dd, by first | rfl | exact congrArg (Value.int .i64) SH.out, by first | rfl | go_num | exact congrArg (Value.int .i64) (wrapN (by omega) (by omega)), HDS.out, HGS.out, HN.out⟩
       case measure =>
        have := HN.out.1
        simp only [intOf]
        first | omega | (rw [show wrap64 ((k : Int) + 1) = ((k + 1 : Nat) : Int) from wrapN (by omega) (by omega)]; omega)
     · have i2 : ¬ (k : Int) < m := by omega
       have himN : i + m < N := by have := HL.out; have := H.out; omega
       have cg := hdb.cell (i + m) (by rw [HR.out.2.2.1]; exact himN)
       have fg := hdb.free (i + m)
       have z0 : os2.getD (i + m) 0 = 0 := HR.out.2.2.2.2.2 (i + m) (by omega)
       rw [z0] at cg
       have cB : cy < 65536 := HR.out.2.1
       have W1 := Lz (show wrap64 ((i : Int) + m) = (i : Int) + m from by have := HL.out; unfold wrap64; omega)
       have W2 := Lz (show wrap64 ((0 : Int) + cy) = (cy : Int) from wrapN (by omega) (by omega))
       have i3 : (i : Int) + m < N := by omega
       have HN := Lz (show i + 1 ≤ n ∧ (os2.set (i + m) cy).length = N ∧ Wb (os2.set (i + m) cy) ∧ bval (os2.set (i + m) cy) = bval (X.take (i + 1)) * bval Y ∧ ∀ j, i + 1 + m ≤ j → (os2.set (i + m) cy).getD j 0 = 0 from by
        obtain ⟨r1, r2, r3, r4, r5, r6⟩ := HR.out
        obtain ⟨s1, s2, s3, s4, s5⟩ := HR1.out
        refine ⟨by omega, by rw [List.length_set, r3], r4.set r2 _, ?_, fun j hj => by rw [getD_set_ne (by omega), r6 j (by omega)]⟩
        have hset := bval_set (l := os2) (p := i + m) (v := cy) (by omega)
        rw [z0, Nat.mul_zero, Nat.add_zero] at hset
        have hk : k = m := by omega
        rw [hk, List.take_of_length_le (by have := H.out; omega)] at r5
        rw [hset, r5, s4, zxv, ← HX.out.1, Nat.add_mul, Nat.mul_assoc])
       have HDS := Lz (hdb.set (i + m) cy)
       have HGS := Lz (grown_new hg (zzw wr g (i + m) (.int .i64 (cy : Nat))) (show w.heap.size ≤ g by omega))
       have WC := Lz (show wrap64 (cy : Int) = (cy : Int) from wrapN rfl (by omega))
       clear hdb hg HR himN z0 cB hkm
       go_wp2_with fail
       simp only [WC.out]
       go_roundw
       case rel => exact ⟨i + 1, os2.set (i + m) cy, by first | rfl | go_num | exact congrArg (Value.int .i64) (wrapN (by omega) (by omega)), HDS.out, HGS.out, HN.out⟩
       case measure =>
        have := HN.out.1
        simp only [intOf]
        first | omega | (rw [show wrap64 ((i : Int) + 1) = ((i + 1 : Nat) : Int) from wrapN (by omega) (by omega)]; omega)
  · have i1 : ¬ (i : Int) < n := by omega
    obtain ⟨r1, r2, r3, r4, r5⟩ := HR.out
    have hsum : bval os = A * B := by
     rw [r4, List.take_of_length_le (by have := H.out; omega), HV.out.1, HV.out.2]
    have hrow := hdb.row (c := N) (by omega) (by have := HL.out; unfold maxLen; omega)
    have HT := trimS (some ⟨g, 0, .none⟩) N os wr hrow
    rw [bnorm_bd os r3, hsum, r2] at HT
    have HTT := Lz HT
    have HF := Lz (show ∀ wx, wx = wr → BigP (A * B) w (.returned (.slice (some ⟨g, 0, .none⟩) (bd (A * B)).length N)) wx from fun wx hwx => by
     subst hwx
     refine ⟨_, _, rfl, ?_, hg⟩
     have hb := bnorm_bd os r3
     rw [hsum] at hb
     have := bnorm_take os
     rw [hb] at this
     rw [← this]
     exact hrow.take _)
    clear r1 r2 r3 r4 r5 hsum HT hrow hdb hg HR HD HG hin HDB HGR
    go_wp2_with fail
    refine HTT.out.mono ?_
    rintro e w1 ⟨rfl, hw⟩
    have HE := Lz (HF.out _ hw)
    clear hw
    go_wp2_with fail
    go_ret
    exact HE.out
end Go.Proofs.YtohhkjamddojmaaGreatDoor.Big
