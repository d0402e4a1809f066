/- Differences of the specification's great numbers. Sums of the specification's great numbers. -/
import Derived.Test.YtohhkjamddojmaaGreatDoorBB
import Derived.Test.YtohhkjamddojmaaGreatDoorNN
set_option maxHeartbeats 16000000
namespace Go.Proofs.YtohhkjamddojmaaGreatDoor.Big
open Go.RowKit
theorem info3 : (Tryz.prog.info? 3).map (fun i => (i.zero, i.size, i.bytes)) = some (some (.int .i64 0), 1, 8) := by kernel_rfl
def i64v (k : Nat) : Value := .int .i64 (k : Nat)
theorem RowI.kept {w w' : World} {p : Option Addr} {c : Nat} {xs : List Nat} (h : RowI w p c xs) (hg : w.grownBy w' .none) : RowI w' p c xs :=
 ⟨h.1, h.2.1, h.2.2.1, fun b o e i hi => cell_grown (h.2.2.2 b o e i hi) hg (by simp)⟩
theorem owned_row {w : World} {base n : Nat} {v : Value} {ks : List Nat} (h : w.ownsRow base 3 1 v n (ks.map i64v)) (hn : n = ks.length) : ∃ p c, v = .slice p ks.length c ∧ RowI w p c ks := by
 have h' := h
 subst hn
 rcases h with ⟨hlen, ⟨rfl, hks⟩ | ⟨g, cap, cur, rfl, hb, hblk, hle, hcm, hsz2, htk⟩⟩
 · obtain rfl : ks = [] := List.length_eq_zero_iff.1 hks
   exact ⟨.none, 0, rfl, Nat.le_refl _, by decide, fun h => absurd h (Nat.lt_irrefl _), fun b o e => by cases e⟩
 · refine ⟨_, cap, rfl, hle, hcm, fun _ => ⟨g, 0, rfl⟩, fun b o e i hi => ?_⟩
   cases e
   have hc := h'.cells (g := g) rfl i (i64v (ks.getD i 0)) (by rw [List.getElem?_map, List.getElem?_eq_getElem hi]; simp [List.getD, hi])
   rw [Nat.zero_add]
   unfold Addr.add at hc
   by_cases h0 : i = 0
   · subst h0; exact hc
   · rw [if_neg h0] at hc
     simpa [i64v] using hc
theorem owns_alloc {w : World} {base n : Nat} {v : Value} {xs : List Value} (h : w.ownsRow base 3 1 v n xs) (o : Obj) : (w.alloc o).ownsRow base 3 1 v n xs := by
 rcases h with ⟨hlen, h | ⟨g, cap, cur, hv, hb, hblk, hle, hcm, hsz2, htk⟩⟩
 · exact ⟨hlen, .inl h⟩
 · exact ⟨hlen, .inr ⟨g, cap, cur, hv, hb, ((zzx w o .none).block g (Array.getElem?_eq_some_iff.1 hblk).1 (by simp)).trans hblk, hle, hcm, hsz2, htk⟩⟩
theorem own_grown {w wr wa w1 : World} {v : Value} {n : Nat} {xs : List Value} (hown : wr.ownsRow w.heap.size 3 1 v n xs) (h1 : w.grownBy wa .none) (h2 : wa.grownBy w1 v.ownBlock) : w.grownBy w1 .none := by
 rcases hown with ⟨_, ⟨rfl, _⟩ | ⟨g, cap, cur, rfl, hb, _⟩⟩
 · exact zzy h1 h2
 · exact grown_on h1 h2 hb
def BigP (n : Nat) (w : World) (e : Ending) (w' : World) : Prop := ∃ p c, e = .returned (.slice p (bd n).length c) ∧ RowI w' p c (bd n) ∧ w.grownBy w' .none
set_option maxRecDepth 100000 in
theorem minusS (p p2 : Option Addr) (c c2 A B : Nat) (w : World) (h : RowI w p c (bd A)) (h2 : RowI w p2 c2 (bd B)) (hle : B ≤ A) (hA : (bd A).length ≤ 1000000) : Calls Tryz.prog 23 #[.slice p (bd A).length c, .slice p2 (bd B).length c2] w (BigP (A - B) w) := by
 obtain ⟨i0, hi, hz0, hz1, hz2⟩ := info_parts info3
 obtain ⟨X, hX⟩ : ∃ X, X = bd A := ⟨_, rfl⟩
 obtain ⟨Y, hY⟩ : ∃ Y, Y = bd B := ⟨_, rfl⟩
 have vA : bval X = A := by rw [hX]; exact bval_bd A
 have vB : bval Y = B := by rw [hY]; exact bval_bd B
 have hwX : Wb X := by rw [hX]; exact bd_words A
 have hwY : Wb Y := by rw [hY]; exact bd_words B
 have hYX : Y.length ≤ X.length := by
  rw [hX, hY]
  rcases Nat.lt_or_ge (bd A).length (bd B).length with hl | hl
  · have := bd_lt hl; omega
  · exact hl
 rw [← hX] at h hA ⊢
 rw [← hY] at h2 ⊢
 obtain ⟨n, hn⟩ : ∃ n, n = X.length := ⟨_, rfl⟩
 obtain ⟨m, hm⟩ : ∃ m, m = Y.length := ⟨_, rfl⟩
 have H := Lz (And.intro h (And.intro h2 (And.intro hle (And.intro hA (And.intro vA (And.intro vB (And.intro hwX (And.intro hwY (And.intro hYX (And.intro hn hm))))))))))
 rw [← hn, ← hm]
 clear h h2 hle hA vA vB hwX hwY hYX hn hm hX hY
 go_enter Tryz.func23, Tryz.ntmps23
 go_wp2_with fail
 go_loopw [5, 6, 11] (fun v s6 s11 wr => ∃ (i cy : Nat) (ks : List Nat), s6 = .int .i64 (cy : Nat) ∧ s11 = .int .i64 (i : Nat) ∧ wr.ownsRow w.heap.size 3 1 v i (ks.map i64v) ∧ w.grownBy wr .none ∧ RowKit.Hid (i ≤ n ∧ cy ≤ 1 ∧ ks.length = i ∧ Wb ks ∧ bval ks + bval (Y.take i) = bval (X.take i) + B16 ^ i * cy)) (fun _ _ s11 _ => (n - intOf s11).toNat)
 case atStart => exact ⟨0, 0, [], rfl, rfl, World.ownsRow_nil _ _ _ _, World.grownBy.refl _ _, ⟨Nat.zero_le _, Nat.zero_le _, rfl, Wb.nil, by simp [bval]⟩⟩
 case round =>
  obtain ⟨i, cy, ks, rfl, rfl, hown, hg, HR⟩ := hrel
  have HO := Lz hown
  have HG := Lz hg
  have hsz : w.heap.size ≤ wr.heap.size := hg.size
  obtain ⟨p', c', hv, hrow⟩ := owned_row hown HR.out.2.2.1.symm
  have HROW := Lz hrow
  by_cases he : i = n
  · obtain ⟨r1, r2, r3, r4, r5⟩ := HR.out
    obtain ⟨h, h2, hle, hA, vA, vB, hwX, hwY, hYX, hn, hm⟩ := H.out
    have hend := minus_end (a := X) (b := Y) (o := ks) (c := cy) (by omega) r4 (by rw [List.take_of_length_le (by omega), List.take_of_length_le (by omega)] at r5; rw [r5, he, hn]) (by omega)
    have HT := trimS p' c' ks wr hrow
    rw [bnorm_bd ks r4, hend.2, vA, vB] at HT
    have HTT := Lz HT
    have HF := Lz (show ∀ wx, wx = wr → BigP (A - B) w (.returned (.slice p' (bd (A - B)).length c')) wx from fun wx hwx => by
     subst hwx
     refine ⟨p', c', rfl, ?_, hg⟩
     have hb := bnorm_bd ks r4
     rw [hend.2, vA, vB] at hb
     have := bnorm_take ks
     rw [hb] at this
     rw [← this]
     exact hrow.take _)
    subst hv
    have e2 : ¬ (i : Int) < n := by omega
    clear h h2 hle hA vA vB hwX hwY hYX hn hm r1 r2 r3 r4 r5 hend HT hrow hown hg he HR HO
    go_wp2_with fail
    refine HTT.out.mono ?_
    rintro e w1 ⟨rfl, hw⟩
    have HE := Lz (HF.out _ hw)
    clear hw
    go_wp2_with fail
    go_ret
    exact HE.out
  · have him : i < n := by have := HR.out.1; omega
    obtain ⟨bA, oA, rfl⟩ := H.out.1.2.2.1 (by have := H.out; omega)
    have ca := (H.out.1.kept hg).2.2.2 bA oA rfl i (by have := H.out; omega)
    obtain ⟨xi, hxi⟩ : ∃ x, x = X.getD i 0 := ⟨_, rfl⟩
    rw [← hxi] at ca
    have xB : xi < 65536 := by rw [hxi]; exact H.out.2.2.2.2.2.2.1.getD i
    have hc1 := HR.out.2.1
    have i1 : (i : Int) < n := by omega
    obtain ⟨z1, hz1'⟩ : ∃ z : Int, z = (xi : Int) - cy := ⟨_, rfl⟩
    have W1 := Lz (show wrap64 ((xi : Int) - (cy : Int)) = z1 from by unfold wrap64; omega)
    by_cases hm : i < m
    · have i2 : (i : Int) < m := by omega
      obtain ⟨bB, oB, rfl⟩ := H.out.2.1.2.2.1 (by have := H.out; omega)
      have cb := (H.out.2.1.kept hg).2.2.2 bB oB rfl i (by have := H.out; omega)
      obtain ⟨yi, hyi⟩ : ∃ x, x = Y.getD i 0 := ⟨_, rfl⟩
      rw [← hyi] at cb
      have yB : yi < 65536 := by rw [hyi]; exact H.out.2.2.2.2.2.2.2.1.getD i
      have hy0 : Y.getD i 0 = yi := hyi.symm
      obtain ⟨z2, hz2'⟩ : ∃ z : Int, z = z1 - yi := ⟨_, rfl⟩
      have W2 := Lz (show wrap64 (z1 - (yi : Int)) = z2 from by unfold wrap64; omega)
      by_cases hneg : z2 < 0
      · obtain ⟨dd, hdd'⟩ : ∃ d : Nat, z2 + 65536 = (d : Int) := ⟨(z2 + 65536).toNat, by omega⟩
        have hdB : dd < 65536 := by omega
        have hcB : (1 : Nat) ≤ 1 := Nat.le_refl _
        have hdd : dd + cy + Y.getD i 0 = X.getD i 0 + B16 * 1 := by rw [hy0, ← hxi]; unfold B16; omega
        have W3 := Lz (show wrap64 (z2 + 65536) = (dd : Int) from by rw [← hdd']; unfold wrap64; omega)
        have w1 := W1.out
        have w3 := W3.out
        have w2 := W2.out
        have HDD := Lz (And.intro hdB (And.intro hcB hdd))
        have hga : w.grownBy (wr.alloc (.cells #[Value.int .i64 (dd : Nat)] 3)) .none := zzy HG.out (zzx _ _ _)
        have hoa := owns_alloc HO.out (.cells #[Value.int .i64 (dd : Nat)] 3)
        have hsrc : ∀ j u, ([Value.int .i64 (dd : Nat)] : List Value)[j]? = some u → (wr.alloc (.cells #[Value.int .i64 (dd : Nat)] 3)).cell? ((⟨wr.heap.size, 0, .none⟩ : Addr).add j) = some u := fun j u hu => by
         match j, hu with
         | 0, hu => rw [← hu]; exact zwx (k := 0) (heap_alloc_new wr (.cells #[Value.int .i64 (dd : Nat)] 3)) rfl
         | j + 1, hu => simp at hu
        have HIL := Lz him
        have HRR := Lz HR.out
        have hi6 : i + 1 ≤ 1000001 := by have := HR.out.1; have := H.out; omega
        have HS := Lz hsz
        clear him hdB hcB hdd hown hg hrow hv HR
        clear hdd' hy0 hz1' hc1 xB hm W1 W3 hxi he yB hyi hz2' W2
        go_wp2_with (at_builtin; refine wpList_append_own _ rfl (.tmp 34) (.tmp 36) 36 rfl w.heap.size 3 i0 (.int .i64 0) 1 8 Tryz.underlying36 hi hz0 hz1 hz2 rfl (by decide) _ i (ks.map i64v) rfl hoa ⟨wr.heap.size, 0, .none⟩ 1 1 [Value.int .i64 (dd : Nat)] rfl (by simp) hsrc (by intro u hu; rw [List.mem_singleton.1 hu]; rfl) (by unfold maxLen; omega) (by omega) (Nat.le_trans hsz (by show _ ≤ (Array.push _ _).size; rw [Array.size_push]; omega)) ?_; intro v' w1 hown' hgrow hnn)
        have HO' := Lz (show w1.ownsRow w.heap.size 3 1 v' (i + 1) ((ks ++ [dd]).map i64v) by rw [List.map_append]; exact hown')
        have HGR := Lz (And.intro hga hgrow)
        clear hown' hgrow hnn hga hoa hsrc
        go_wp2_with fail
        go_roundw
        case rel =>
         refine ⟨i + 1, 1, ks ++ [dd], by first | rfl | trivial, by first | rfl | go_num | exact congrArg (Value.int .i64) (wrapN (by omega) (by omega)), HO'.out, own_grown HO.out HGR.out.1 HGR.out.2, ⟨HIL.out, HDD.out.2.1, by rw [List.length_append, HRR.out.2.2.1]; rfl, HRR.out.2.2.2.1.append (Wb.one HDD.out.1), minus_step HRR.out.2.2.1 HRR.out.2.2.2.2 HDD.out.2.2⟩⟩
        case measure =>
         have := HIL.out
         simp only [intOf]
         first | omega | (rw [show wrap64 ((i : Int) + 1) = ((i + 1 : Nat) : Int) from wrapN (by omega) (by omega)]; omega)
      · obtain ⟨dd, hdd'⟩ : ∃ d : Nat, z2 = (d : Int) := ⟨z2.toNat, by omega⟩
        have hdB : dd < 65536 := by omega
        have hcB : (0 : Nat) ≤ 1 := Nat.zero_le _
        have hdd : dd + cy + Y.getD i 0 = X.getD i 0 + B16 * 0 := by rw [hy0, ← hxi]; omega
        have n0 : ¬ (dd : Int) < 0 := by omega
        rw [hdd'] at W2
        have w1 := W1.out
        have w2 := W2.out
        have HDD := Lz (And.intro hdB (And.intro hcB hdd))
        have hga : w.grownBy (wr.alloc (.cells #[Value.int .i64 (dd : Nat)] 3)) .none := zzy HG.out (zzx _ _ _)
        have hoa := owns_alloc HO.out (.cells #[Value.int .i64 (dd : Nat)] 3)
        have hsrc : ∀ j u, ([Value.int .i64 (dd : Nat)] : List Value)[j]? = some u → (wr.alloc (.cells #[Value.int .i64 (dd : Nat)] 3)).cell? ((⟨wr.heap.size, 0, .none⟩ : Addr).add j) = some u := fun j u hu => by
         match j, hu with
         | 0, hu => rw [← hu]; exact zwx (k := 0) (heap_alloc_new wr (.cells #[Value.int .i64 (dd : Nat)] 3)) rfl
         | j + 1, hu => simp at hu
        have HIL := Lz him
        have HRR := Lz HR.out
        have hi6 : i + 1 ≤ 1000001 := by have := HR.out.1; have := H.out; omega
        have HS := Lz hsz
        clear him hdB hcB hdd hown hg hrow hv HR
        clear hneg hdd' hy0 hz1' hc1 xB hm W1 hxi he yB hyi hz2' W2
        go_wp2_with (at_builtin; refine wpList_append_own _ rfl (.tmp 34) (.tmp 36) 36 rfl w.heap.size 3 i0 (.int .i64 0) 1 8 Tryz.underlying36 hi hz0 hz1 hz2 rfl (by decide) _ i (ks.map i64v) rfl hoa ⟨wr.heap.size, 0, .none⟩ 1 1 [Value.int .i64 (dd : Nat)] rfl (by simp) hsrc (by intro u hu; rw [List.mem_singleton.1 hu]; rfl) (by unfold maxLen; omega) (by omega) (Nat.le_trans hsz (by show _ ≤ (Array.push _ _).size; rw [Array.size_push]; omega)) ?_; intro v' w1 hown' hgrow hnn)
        have HO' := Lz (show w1.ownsRow w.heap.size 3 1 v' (i + 1) ((ks ++ [dd]).map i64v) by rw [List.map_append]; exact hown')
        have HGR := Lz (And.intro hga hgrow)
        clear hown' hgrow hnn hga hoa hsrc
        go_wp2_with fail
        go_roundw
        case rel =>
         refine ⟨i + 1, 0, ks ++ [dd], by first | rfl | trivial, by first | rfl | go_num | exact congrArg (Value.int .i64) (wrapN (by omega) (by omega)), HO'.out, own_grown HO.out HGR.out.1 HGR.out.2, ⟨HIL.out, HDD.out.2.1, by rw [List.length_append, HRR.out.2.2.1]; rfl, HRR.out.2.2.2.1.append (Wb.one HDD.out.1), minus_step HRR.out.2.2.1 HRR.out.2.2.2.2 HDD.out.2.2⟩⟩
        case measure =>
         have := HIL.out
         simp only [intOf]
         first | omega | (rw [show wrap64 ((i : Int) + 1) = ((i + 1 : Nat) : Int) from wrapN (by omega) (by omega)]; omega)
    · have i2 : ¬ (i : Int) < m := by omega
      have hy0 : Y.getD i 0 = 0 := by rw [List.getD, List.getElem?_eq_none (by have := H.out.2.2.2.2.2.2.2.2.2.2; omega)]; rfl
      by_cases hneg : z1 < 0
      · obtain ⟨dd, hdd'⟩ : ∃ d : Nat, z1 + 65536 = (d : Int) := ⟨(z1 + 65536).toNat, by omega⟩
        have hdB : dd < 65536 := by omega
        have hcB : (1 : Nat) ≤ 1 := Nat.le_refl _
        have hdd : dd + cy + Y.getD i 0 = X.getD i 0 + B16 * 1 := by rw [hy0, ← hxi]; unfold B16; omega
        have W3 := Lz (show wrap64 (z1 + 65536) = (dd : Int) from by rw [← hdd']; unfold wrap64; omega)
        have w1 := W1.out
        have w3 := W3.out
        have HDD := Lz (And.intro hdB (And.intro hcB hdd))
        have hga : w.grownBy (wr.alloc (.cells #[Value.int .i64 (dd : Nat)] 3)) .none := zzy HG.out (zzx _ _ _)
        have hoa := owns_alloc HO.out (.cells #[Value.int .i64 (dd : Nat)] 3)
        have hsrc : ∀ j u, ([Value.int .i64 (dd : Nat)] : List Value)[j]? = some u → (wr.alloc (.cells #[Value.int .i64 (dd : Nat)] 3)).cell? ((⟨wr.heap.size, 0, .none⟩ : Addr).add j) = some u := fun j u hu => by
         match j, hu with
         | 0, hu => rw [← hu]; exact zwx (k := 0) (heap_alloc_new wr (.cells #[Value.int .i64 (dd : Nat)] 3)) rfl
         | j + 1, hu => simp at hu
        have HIL := Lz him
        have HRR := Lz HR.out
        have hi6 : i + 1 ≤ 1000001 := by have := HR.out.1; have := H.out; omega
        have HS := Lz hsz
        clear him hdB hcB hdd hown hg hrow hv HR
        clear hdd' hy0 hz1' hc1 xB hm W1 W3 hxi he 
        go_wp2_with (at_builtin; refine wpList_append_own _ rfl (.tmp 34) (.tmp 36) 36 rfl w.heap.size 3 i0 (.int .i64 0) 1 8 Tryz.underlying36 hi hz0 hz1 hz2 rfl (by decide) _ i (ks.map i64v) rfl hoa ⟨wr.heap.size, 0, .none⟩ 1 1 [Value.int .i64 (dd : Nat)] rfl (by simp) hsrc (by intro u hu; rw [List.mem_singleton.1 hu]; rfl) (by unfold maxLen; omega) (by omega) (Nat.le_trans hsz (by show _ ≤ (Array.push _ _).size; rw [Array.size_push]; omega)) ?_; intro v' w1 hown' hgrow hnn)
        have HO' := Lz (show w1.ownsRow w.heap.size 3 1 v' (i + 1) ((ks ++ [dd]).map i64v) by rw [List.map_append]; exact hown')
        have HGR := Lz (And.intro hga hgrow)
        clear hown' hgrow hnn hga hoa hsrc
        go_wp2_with fail
        go_roundw
        case rel =>
         refine ⟨i + 1, 1, ks ++ [dd], by first | rfl | trivial, by first | rfl | go_num | exact congrArg (Value.int .i64) (wrapN (by omega) (by omega)), HO'.out, own_grown HO.out HGR.out.1 HGR.out.2, ⟨HIL.out, HDD.out.2.1, by rw [List.length_append, HRR.out.2.2.1]; rfl, HRR.out.2.2.2.1.append (Wb.one HDD.out.1), minus_step HRR.out.2.2.1 HRR.out.2.2.2.2 HDD.out.2.2⟩⟩
        case measure =>
         have := HIL.out
         simp only [intOf]
         first | omega | (rw [show wrap64 ((i : Int) + 1) = ((i + 1 : Nat) : Int) from wrapN (by omega) (by omega)]; omega)
      · obtain ⟨dd, hdd'⟩ : ∃ d : Nat, z1 = (d : Int) := ⟨z1.toNat, by omega⟩
        have hdB : dd < 65536 := by omega
        have hcB : (0 : Nat) ≤ 1 := Nat.zero_le _
        have hdd : dd + cy + Y.getD i 0 = X.getD i 0 + B16 * 0 := by rw [hy0, ← hxi]; omega
        have n0 : ¬ (dd : Int) < 0 := by omega
        rw [hdd'] at W1
        have w1 := W1.out
        have HDD := Lz (And.intro hdB (And.intro hcB hdd))
        have hga : w.grownBy (wr.alloc (.cells #[Value.int .i64 (dd : Nat)] 3)) .none := zzy HG.out (zzx _ _ _)
        have hoa := owns_alloc HO.out (.cells #[Value.int .i64 (dd : Nat)] 3)
        have hsrc : ∀ j u, ([Value.int .i64 (dd : Nat)] : List Value)[j]? = some u → (wr.alloc (.cells #[Value.int .i64 (dd : Nat)] 3)).cell? ((⟨wr.heap.size, 0, .none⟩ : Addr).add j) = some u := fun j u hu => by
         match j, hu with
         | 0, hu => rw [← hu]; exact zwx (k := 0) (heap_alloc_new wr (.cells #[Value.int .i64 (dd : Nat)] 3)) rfl
         | j + 1, hu => simp at hu
        have HIL := Lz him
        have HRR := Lz HR.out
        have hi6 : i + 1 ≤ 1000001 := by have := HR.out.1; have := H.out; omega
        have HS := Lz hsz
        clear him hdB hcB hdd hown hg hrow hv HR
        clear hneg hdd' hy0 hz1' hc1 xB hm W1 hxi he 
        go_wp2_with (at_builtin; refine wpList_append_own _ rfl (.tmp 34) (.tmp 36) 36 rfl w.heap.size 3 i0 (.int .i64 0) 1 8 Tryz.underlying36 hi hz0 hz1 hz2 rfl (by decide) _ i (ks.map i64v) rfl hoa ⟨wr.heap.size, 0, .none⟩ 1 1 [Value.int .i64 (dd : Nat)] rfl (by simp) hsrc (by intro u hu; rw [List.mem_singleton.1 hu]; rfl) (by unfold maxLen; omega) (by omega) (Nat.le_trans hsz (by show _ ≤ (Array.push _ _).size; rw [Array.size_push]; omega)) ?_; intro v' w1 hown' hgrow hnn)
        have HO' := Lz (show w1.ownsRow w.heap.size 3 1 v' (i + 1) ((ks ++ [dd]).map i64v) by rw [List.map_append]; exact hown')
        have HGR := Lz (And.intro hga hgrow)
        clear hown' hgrow hnn hga hoa hsrc
        go_wp2_with fail
        go_roundw
        case rel =>
         refine ⟨i + 1, 0, ks ++ [dd], by first | rfl | trivial, by first | rfl | go_num | exact congrArg (Value.int .i64) (wrapN (by omega) (by omega)), HO'.out, own_grown HO.out HGR.out.1 HGR.out.2, ⟨HIL.out, HDD.out.2.1, by rw [List.length_append, HRR.out.2.2.1]; rfl, HRR.out.2.2.2.1.append (Wb.one HDD.out.1), minus_step HRR.out.2.2.1 HRR.out.2.2.2.2 HDD.out.2.2⟩⟩
        case measure =>
         have := HIL.out
         simp only [intOf]
         first | omega | (rw [show wrap64 ((i : Int) + 1) = ((i + 1 : Nat) : Int) from wrapN (by omega) (by omega)]; omega)
end Go.Proofs.YtohhkjamddojmaaGreatDoor.Big

set_option maxHeartbeats 16000000
namespace Go.Proofs.YtohhkjamddojmaaGreatDoor.Big
open Go.RowKit
theorem and16 (x : Nat) (hx : x < 9223372036854775808) : bits BinOp.and IntKind.i64 (x : Int) 65535 = ((x % 65536 : Nat) : Int) := by
 have e63 : (2 : Int) ^ 63 = 9223372036854775808 := by decide
 have h := bits_mask .i64 63 (by decide) (fun n h0 h1 => by rw [e63] at h1; rw [IntKind.wrap_i64]; omega) 16 (by decide) (x : Int) (by omega) (by rw [e63]; omega)
 have e : ((2 : Int) ^ 16 - 1) = 65535 := by decide
 rw [e] at h
 rw [h]
 omega
set_option maxRecDepth 100000 in
theorem plusS (p p2 : Option Addr) (c c2 A B : Nat) (w : World) (h : RowI w p c (bd A)) (h2 : RowI w p2 c2 (bd B)) (hA : (bd A).length ≤ 1000000) (hB : (bd B).length ≤ 1000000) : Calls Tryz.prog 110 #[.slice p (bd A).length c, .slice p2 (bd B).length c2] w (BigP (A + B) w) := by
 obtain ⟨i0, hi, hz0, hz1, hz2⟩ := info_parts info3
 obtain ⟨X, hX⟩ : ∃ X, X = bd A := ⟨_, rfl⟩
 obtain ⟨Y, hY⟩ : ∃ Y, Y = bd B := ⟨_, rfl⟩
 have vA : bval X = A := by rw [hX]; exact bval_bd A
 have vB : bval Y = B := by rw [hY]; exact bval_bd B
 have hwX : Wb X := by rw [hX]; exact bd_words A
 have hwY : Wb Y := by rw [hY]; exact bd_words B
 rw [← hX] at h hA ⊢
 rw [← hY] at h2 hB ⊢
 obtain ⟨n, hn⟩ : ∃ n, n = X.length := ⟨_, rfl⟩
 obtain ⟨m, hm⟩ : ∃ m, m = Y.length := ⟨_, rfl⟩
 have H := Lz (And.intro h (And.intro h2 (And.intro hB (And.intro hA (And.intro vA (And.intro vB (And.intro hwX (And.intro hwY (And.intro hn hm)))))))))
 rw [← hn, ← hm]
 clear h h2 hA hB vA vB hwX hwY hn hm hX hY
 go_enter Tryz.func110, Tryz.ntmps110
 go_wp2_with fail
 go_loopw [5, 6, 7] (fun v s6 s7 wr => ∃ (i cy : Nat) (ks : List Nat), s6 = .int .i64 (cy : Nat) ∧ s7 = .int .i64 (i : Nat) ∧ wr.ownsRow w.heap.size 3 1 v i (ks.map i64v) ∧ w.grownBy wr .none ∧ RowKit.Hid ((i ≤ n + m + 1 ∧ (cy = 1 → i ≤ n + m)) ∧ cy ≤ 1 ∧ ks.length = i ∧ Wb ks ∧ bval ks + B16 ^ i * cy = bval (X.take i) + bval (Y.take i))) (fun _ _ s7 _ => ((n : Int) + m + 2 - intOf s7).toNat)
 case atStart => exact ⟨0, 0, [], rfl, rfl, World.ownsRow_nil _ _ _ _, World.grownBy.refl _ _, ⟨⟨Nat.zero_le _, fun _ => Nat.zero_le _⟩, Nat.zero_le _, rfl, Wb.nil, by simp [bval]⟩⟩
 case round =>
  obtain ⟨i, cy, ks, rfl, rfl, hown, hg, HR⟩ := hrel
  have HO := Lz hown
  have HG := Lz hg
  have hsz : w.heap.size ≤ wr.heap.size := hg.size
  obtain ⟨p', c', hv, hrow⟩ := owned_row hown HR.out.2.2.1.symm
  have HROW := Lz hrow
  have hc1 := HR.out.2.1
  by_cases hnI : i < n
  · have i1 : (i : Int) < n := by omega
    obtain ⟨bk, ok, rfl⟩ := H.out.1.2.2.1 (by have := H.out; omega)
    have ck := (H.out.1.kept hg).2.2.2 bk ok rfl i (by have := H.out; omega)
    obtain ⟨ki, hki⟩ : ∃ x, x = X.getD i 0 := ⟨_, rfl⟩
    rw [← hki] at ck
    have kB : ki < 65536 := by rw [hki]; exact H.out.2.2.2.2.2.2.1.getD i
    obtain ⟨t1, ht1⟩ : ∃ t, t = cy + ki := ⟨_, rfl⟩
    have W1 := Lz (show wrap64 ((cy : Int) + (ki : Int)) = t1 from wrapN (by omega) (by omega))
    by_cases hmI : i < m
    · have i2 : (i : Int) < m := by omega
      obtain ⟨bl, ol, rfl⟩ := H.out.2.1.2.2.1 (by have := H.out; omega)
      have cl := (H.out.2.1.kept hg).2.2.2 bl ol rfl i (by have := H.out; omega)
      obtain ⟨li, hli⟩ : ∃ x, x = Y.getD i 0 := ⟨_, rfl⟩
      rw [← hli] at cl
      have lB : li < 65536 := by rw [hli]; exact H.out.2.2.2.2.2.2.2.1.getD i
      obtain ⟨t, ht⟩ : ∃ t, t = t1 + li := ⟨_, rfl⟩
      have W2 := Lz (show wrap64 ((t1 : Int) + (li : Int)) = t from wrapN (by omega) (by omega))
      have htv : t = cy + X.getD i 0 + Y.getD i 0 := by rw [← hki, ← hli]; omega
      have tB : t < 131072 := by omega
      obtain ⟨dd, hd'⟩ : ∃ d, d = t % 65536 := ⟨_, rfl⟩
      obtain ⟨cq, hq'⟩ : ∃ q, q = t / 65536 := ⟨_, rfl⟩
      have AN := Lz (and16 t (by omega))
      have SH := Lz (show (t : Int) / 65536 = (cq : Int) from by rw [hq']; omega)
      rw [← hd'] at AN
      have HDD := Lz (show dd < B16 ∧ cq ≤ 1 ∧ bval (ks ++ [dd]) + B16 ^ (i + 1) * cq = bval (X.take (i + 1)) + bval (Y.take (i + 1)) from ⟨by rw [hd']; exact Nat.mod_lt _ B16_pos, by omega, by rw [hd', hq']; exact plus_step HR.out.2.2.1 HR.out.2.2.2.2 htv⟩)
      have HTB := Lz tB
      have hga : w.grownBy (wr.alloc (.cells #[Value.int .i64 (dd : Nat)] 3)) .none := zzy HG.out (zzx _ _ _)
      have hoa := owns_alloc HO.out (.cells #[Value.int .i64 (dd : Nat)] 3)
      have hsrc : ∀ j u, ([Value.int .i64 (dd : Nat)] : List Value)[j]? = some u → (wr.alloc (.cells #[Value.int .i64 (dd : Nat)] 3)).cell? ((⟨wr.heap.size, 0, .none⟩ : Addr).add j) = some u := fun j u hu => by
       match j, hu with
       | 0, hu => rw [← hu]; exact zwx (k := 0) (heap_alloc_new wr (.cells #[Value.int .i64 (dd : Nat)] 3)) rfl
       | j + 1, hu => simp at hu
      have hi6 : i + 1 ≤ 2000002 := by have := HR.out.1; have := H.out; omega
      have HIL := Lz (show i + 1 ≤ n + m + 1 ∧ (cq = 1 → i + 1 ≤ n + m) from ⟨by have := HR.out.1; omega, fun h => by have := HR.out.1; omega⟩)
      have HRR := Lz HR.out
      have q1 := W1.out
      have q2 := W2.out
      have an := AN.out
      have sh := SH.out
      clear tB hd' hq' hown hg hrow hv HR htv ht1 ht hki hli kB lB hc1 hnI hmI
      go_wp2_with (at_builtin; refine wpList_append_own _ rfl (.tmp 44) (.tmp 47) 36 rfl w.heap.size 3 i0 (.int .i64 0) 1 8 Tryz.underlying36 hi hz0 hz1 hz2 rfl (by decide) _ i (ks.map i64v) rfl hoa ⟨wr.heap.size, 0, .none⟩ 1 1 [Value.int .i64 (dd : Nat)] rfl (by simp) hsrc (by intro u hu; rw [List.mem_singleton.1 hu]; rfl) (by unfold maxLen; omega) (by omega) (Nat.le_trans hsz (by show _ ≤ (Array.push _ _).size; rw [Array.size_push]; omega)) ?_; intro v' w1 hown' hgrow hnn)
      have HO' := Lz (show w1.ownsRow w.heap.size 3 1 v' (i + 1) ((ks ++ [dd]).map i64v) by rw [List.map_append]; exact hown')
      have HGR := Lz (And.intro hga hgrow)
      clear hown' hgrow hnn hga hoa hsrc an q1 q2
      go_wp2_with fail
      go_roundw
      case rel =>
       refine ⟨i + 1, cq, ks ++ [dd], by first | rfl | exact congrArg (Value.int .i64) SH.out, by first | rfl | go_num | exact congrArg (Value.int .i64) (wrapN (by omega) (by omega)), HO'.out, own_grown HO.out HGR.out.1 HGR.out.2, ⟨HIL.out, HDD.out.2.1, by rw [List.length_append, HRR.out.2.2.1]; rfl, HRR.out.2.2.2.1.append (Wb.one HDD.out.1), HDD.out.2.2⟩⟩
      case measure =>
       have := HIL.out
       simp only [intOf]
       first | omega | (rw [show wrap64 ((i : Int) + 1) = ((i + 1 : Nat) : Int) from wrapN (by omega) (by omega)]; omega)
    · have i2 : ¬ (i : Int) < m := by omega
      have hli : 0 = Y.getD i 0 := by rw [List.getD, List.getElem?_eq_none (by have := H.out.2.2.2.2.2.2.2.2.2; omega)]; rfl
      obtain ⟨t, ht⟩ : ∃ t, t = t1 := ⟨_, rfl⟩
      have htv : t = cy + X.getD i 0 + Y.getD i 0 := by rw [← hki, ← hli]; omega
      rw [← ht] at W1
      have tB : t < 131072 := by omega
      obtain ⟨dd, hd'⟩ : ∃ d, d = t % 65536 := ⟨_, rfl⟩
      obtain ⟨cq, hq'⟩ : ∃ q, q = t / 65536 := ⟨_, rfl⟩
      have AN := Lz (and16 t (by omega))
      have SH := Lz (show (t : Int) / 65536 = (cq : Int) from by rw [hq']; omega)
      rw [← hd'] at AN
      have HDD := Lz (show dd < B16 ∧ cq ≤ 1 ∧ bval (ks ++ [dd]) + B16 ^ (i + 1) * cq = bval (X.take (i + 1)) + bval (Y.take (i + 1)) from ⟨by rw [hd']; exact Nat.mod_lt _ B16_pos, by omega, by rw [hd', hq']; exact plus_step HR.out.2.2.1 HR.out.2.2.2.2 htv⟩)
      have HTB := Lz tB
      have hga : w.grownBy (wr.alloc (.cells #[Value.int .i64 (dd : Nat)] 3)) .none := zzy HG.out (zzx _ _ _)
      have hoa := owns_alloc HO.out (.cells #[Value.int .i64 (dd : Nat)] 3)
      have hsrc : ∀ j u, ([Value.int .i64 (dd : Nat)] : List Value)[j]? = some u → (wr.alloc (.cells #[Value.int .i64 (dd : Nat)] 3)).cell? ((⟨wr.heap.size, 0, .none⟩ : Addr).add j) = some u := fun j u hu => by
       match j, hu with
       | 0, hu => rw [← hu]; exact zwx (k := 0) (heap_alloc_new wr (.cells #[Value.int .i64 (dd : Nat)] 3)) rfl
       | j + 1, hu => simp at hu
      have hi6 : i + 1 ≤ 2000002 := by have := HR.out.1; have := H.out; omega
      have HIL := Lz (show i + 1 ≤ n + m + 1 ∧ (cq = 1 → i + 1 ≤ n + m) from ⟨by have := HR.out.1; omega, fun h => by have := HR.out.1; omega⟩)
      have HRR := Lz HR.out
      have q1 := W1.out
      have an := AN.out
      have sh := SH.out
      clear tB hd' hq' hown hg hrow hv HR htv ht1 ht hki hli kB hc1 hnI hmI
      go_wp2_with (at_builtin; refine wpList_append_own _ rfl (.tmp 44) (.tmp 47) 36 rfl w.heap.size 3 i0 (.int .i64 0) 1 8 Tryz.underlying36 hi hz0 hz1 hz2 rfl (by decide) _ i (ks.map i64v) rfl hoa ⟨wr.heap.size, 0, .none⟩ 1 1 [Value.int .i64 (dd : Nat)] rfl (by simp) hsrc (by intro u hu; rw [List.mem_singleton.1 hu]; rfl) (by unfold maxLen; omega) (by omega) (Nat.le_trans hsz (by show _ ≤ (Array.push _ _).size; rw [Array.size_push]; omega)) ?_; intro v' w1 hown' hgrow hnn)
      have HO' := Lz (show w1.ownsRow w.heap.size 3 1 v' (i + 1) ((ks ++ [dd]).map i64v) by rw [List.map_append]; exact hown')
      have HGR := Lz (And.intro hga hgrow)
      clear hown' hgrow hnn hga hoa hsrc an q1
      go_wp2_with fail
      go_roundw
      case rel =>
       refine ⟨i + 1, cq, ks ++ [dd], by first | rfl | exact congrArg (Value.int .i64) SH.out, by first | rfl | go_num | exact congrArg (Value.int .i64) (wrapN (by omega) (by omega)), HO'.out, own_grown HO.out HGR.out.1 HGR.out.2, ⟨HIL.out, HDD.out.2.1, by rw [List.length_append, HRR.out.2.2.1]; rfl, HRR.out.2.2.2.1.append (Wb.one HDD.out.1), HDD.out.2.2⟩⟩
      case measure =>
       have := HIL.out
       simp only [intOf]
       first | omega | (rw [show wrap64 ((i : Int) + 1) = ((i + 1 : Nat) : Int) from wrapN (by omega) (by omega)]; omega)
  · have i1 : ¬ (i : Int) < n := by omega
    have hki : 0 = X.getD i 0 := by rw [List.getD, List.getElem?_eq_none (by have := H.out.2.2.2.2.2.2.2.2.1; omega)]; rfl
    by_cases hmI : i < m
    · have i2 : (i : Int) < m := by omega
      obtain ⟨bl, ol, rfl⟩ := H.out.2.1.2.2.1 (by have := H.out; omega)
      have cl := (H.out.2.1.kept hg).2.2.2 bl ol rfl i (by have := H.out; omega)
      obtain ⟨li, hli⟩ : ∃ x, x = Y.getD i 0 := ⟨_, rfl⟩
      rw [← hli] at cl
      have lB : li < 65536 := by rw [hli]; exact H.out.2.2.2.2.2.2.2.1.getD i
      obtain ⟨t, ht⟩ : ∃ t, t = cy + li := ⟨_, rfl⟩
      have W2 := Lz (show wrap64 ((cy : Int) + (li : Int)) = t from wrapN (by omega) (by omega))
      have htv : t = cy + X.getD i 0 + Y.getD i 0 := by rw [← hki, ← hli]; omega
      have tB : t < 131072 := by omega
      obtain ⟨dd, hd'⟩ : ∃ d, d = t % 65536 := ⟨_, rfl⟩
      obtain ⟨cq, hq'⟩ : ∃ q, q = t / 65536 := ⟨_, rfl⟩
      have AN := Lz (and16 t (by omega))
      have SH := Lz (show (t : Int) / 65536 = (cq : Int) from by rw [hq']; omega)
      rw [← hd'] at AN
      have HDD := Lz (show dd < B16 ∧ cq ≤ 1 ∧ bval (ks ++ [dd]) + B16 ^ (i + 1) * cq = bval (X.take (i + 1)) + bval (Y.take (i + 1)) from ⟨by rw [hd']; exact Nat.mod_lt _ B16_pos, by omega, by rw [hd', hq']; exact plus_step HR.out.2.2.1 HR.out.2.2.2.2 htv⟩)
      have HTB := Lz tB
      have hga : w.grownBy (wr.alloc (.cells #[Value.int .i64 (dd : Nat)] 3)) .none := zzy HG.out (zzx _ _ _)
      have hoa := owns_alloc HO.out (.cells #[Value.int .i64 (dd : Nat)] 3)
      have hsrc : ∀ j u, ([Value.int .i64 (dd : Nat)] : List Value)[j]? = some u → (wr.alloc (.cells #[Value.int .i64 (dd : Nat)] 3)).cell? ((⟨wr.heap.size, 0, .none⟩ : Addr).add j) = some u := fun j u hu => by
       match j, hu with
       | 0, hu => rw [← hu]; exact zwx (k := 0) (heap_alloc_new wr (.cells #[Value.int .i64 (dd : Nat)] 3)) rfl
       | j + 1, hu => simp at hu
      have hi6 : i + 1 ≤ 2000002 := by have := HR.out.1; have := H.out; omega
      have HIL := Lz (show i + 1 ≤ n + m + 1 ∧ (cq = 1 → i + 1 ≤ n + m) from ⟨by have := HR.out.1; omega, fun h => by have := HR.out.1; omega⟩)
      have HRR := Lz HR.out
      have q2 := W2.out
      have an := AN.out
      have sh := SH.out
      clear tB hd' hq' hown hg hrow hv HR htv ht hki hli lB hc1 hnI hmI
      go_wp2_with (at_builtin; refine wpList_append_own _ rfl (.tmp 44) (.tmp 47) 36 rfl w.heap.size 3 i0 (.int .i64 0) 1 8 Tryz.underlying36 hi hz0 hz1 hz2 rfl (by decide) _ i (ks.map i64v) rfl hoa ⟨wr.heap.size, 0, .none⟩ 1 1 [Value.int .i64 (dd : Nat)] rfl (by simp) hsrc (by intro u hu; rw [List.mem_singleton.1 hu]; rfl) (by unfold maxLen; omega) (by omega) (Nat.le_trans hsz (by show _ ≤ (Array.push _ _).size; rw [Array.size_push]; omega)) ?_; intro v' w1 hown' hgrow hnn)
      have HO' := Lz (show w1.ownsRow w.heap.size 3 1 v' (i + 1) ((ks ++ [dd]).map i64v) by rw [List.map_append]; exact hown')
      have HGR := Lz (And.intro hga hgrow)
      clear hown' hgrow hnn hga hoa hsrc an q2
      go_wp2_with fail
      go_roundw
      case rel =>
       refine ⟨i + 1, cq, ks ++ [dd], by first | rfl | exact congrArg (Value.int .i64) SH.out, by first | rfl | go_num | exact congrArg (Value.int .i64) (wrapN (by omega) (by omega)), HO'.out, own_grown HO.out HGR.out.1 HGR.out.2, ⟨HIL.out, HDD.out.2.1, by rw [List.length_append, HRR.out.2.2.1]; rfl, HRR.out.2.2.2.1.append (Wb.one HDD.out.1), HDD.out.2.2⟩⟩
      case measure =>
       have := HIL.out
       simp only [intOf]
       first | omega | (rw [show wrap64 ((i : Int) + 1) = ((i + 1 : Nat) : Int) from wrapN (by omega) (by omega)]; omega)
    · have i2 : ¬ (i : Int) < m := by omega
      have hli : 0 = Y.getD i 0 := by rw [List.getD, List.getElem?_eq_none (by have := H.out.2.2.2.2.2.2.2.2.2; omega)]; rfl
      by_cases hcy : cy = 0
      · obtain ⟨r1, r2, r3, r4, r5⟩ := HR.out
        obtain ⟨h, h2, hB, hA, vA, vB, hwX, hwY, hn, hm⟩ := H.out
        have hsum : bval ks = A + B := by
         rw [List.take_of_length_le (by omega), List.take_of_length_le (by omega), hcy, Nat.mul_zero, Nat.add_zero, vA, vB] at r5
         exact r5
        have HT := trimS p' c' ks wr hrow
        rw [bnorm_bd ks r4, hsum] at HT
        have HTT := Lz HT
        have HF := Lz (show ∀ wx, wx = wr → BigP (A + B) w (.returned (.slice p' (bd (A + B)).length c')) wx from fun wx hwx => by
         subst hwx
         refine ⟨p', c', rfl, ?_, hg⟩
         have hb := bnorm_bd ks r4
         rw [hsum] at hb
         have := bnorm_take ks
         rw [hb] at this
         rw [← this]
         exact hrow.take _)
        subst hv hcy
        clear h h2 hA hB vA vB hwX hwY hn hm r1 r2 r3 r4 r5 hsum HT hrow hown hg HR HO hki hli hc1 hnI hmI
        go_wp2_with fail
        refine HTT.out.mono ?_
        rintro e w1 ⟨rfl, hw⟩
        have HE := Lz (HF.out _ hw)
        clear hw
        go_wp2_with fail
        go_ret
        exact HE.out
      · obtain ⟨t, ht⟩ : ∃ t, t = cy := ⟨_, rfl⟩
        have htv : t = cy + X.getD i 0 + Y.getD i 0 := by rw [← hki, ← hli]; omega
        have i3 : (0 : Int) < cy := by omega
        have tB : t < 131072 := by omega
        obtain ⟨dd, hd'⟩ : ∃ d, d = t % 65536 := ⟨_, rfl⟩
        obtain ⟨cq, hq'⟩ : ∃ q, q = t / 65536 := ⟨_, rfl⟩
        have AN := Lz (and16 t (by omega))
        have SH := Lz (show (t : Int) / 65536 = (cq : Int) from by rw [hq']; omega)
        rw [← hd'] at AN
        have HDD := Lz (show dd < B16 ∧ cq ≤ 1 ∧ bval (ks ++ [dd]) + B16 ^ (i + 1) * cq = bval (X.take (i + 1)) + bval (Y.take (i + 1)) from ⟨by rw [hd']; exact Nat.mod_lt _ B16_pos, by omega, by rw [hd', hq']; exact plus_step HR.out.2.2.1 HR.out.2.2.2.2 htv⟩)
        have HTB := Lz tB
        have hga : w.grownBy (wr.alloc (.cells #[Value.int .i64 (dd : Nat)] 3)) .none := zzy HG.out (zzx _ _ _)
        have hoa := owns_alloc HO.out (.cells #[Value.int .i64 (dd : Nat)] 3)
        have hsrc : ∀ j u, ([Value.int .i64 (dd : Nat)] : List Value)[j]? = some u → (wr.alloc (.cells #[Value.int .i64 (dd : Nat)] 3)).cell? ((⟨wr.heap.size, 0, .none⟩ : Addr).add j) = some u := fun j u hu => by
         match j, hu with
         | 0, hu => rw [← hu]; exact zwx (k := 0) (heap_alloc_new wr (.cells #[Value.int .i64 (dd : Nat)] 3)) rfl
         | j + 1, hu => simp at hu
        have hi6 : i + 1 ≤ 2000002 := by have := HR.out.1; have := H.out; omega
        have HIL := Lz (show i + 1 ≤ n + m + 1 ∧ (cq = 1 → i + 1 ≤ n + m) from ⟨by have := HR.out.1; omega, fun h => by have := HR.out.1; omega⟩)
        have HRR := Lz HR.out
        rw [ht] at AN
        have an := AN.out
        have sh : (cy : Int) / 65536 = (cq : Int) := by have := SH.out; rwa [ht] at this
        clear tB hd' hq' hown hg hrow hv HR htv hki hli hc1 hnI hmI
        go_wp2_with (at_builtin; refine wpList_append_own _ rfl (.tmp 44) (.tmp 47) 36 rfl w.heap.size 3 i0 (.int .i64 0) 1 8 Tryz.underlying36 hi hz0 hz1 hz2 rfl (by decide) _ i (ks.map i64v) rfl hoa ⟨wr.heap.size, 0, .none⟩ 1 1 [Value.int .i64 (dd : Nat)] rfl (by simp) hsrc (by intro u hu; rw [List.mem_singleton.1 hu]; rfl) (by unfold maxLen; omega) (by omega) (Nat.le_trans hsz (by show _ ≤ (Array.push _ _).size; rw [Array.size_push]; omega)) ?_; intro v' w1 hown' hgrow hnn)
        have HO' := Lz (show w1.ownsRow w.heap.size 3 1 v' (i + 1) ((ks ++ [dd]).map i64v) by rw [List.map_append]; exact hown')
        have HGR := Lz (And.intro hga hgrow)
        clear hown' hgrow hnn hga hoa hsrc an
        go_wp2_with fail
        go_roundw
        case rel =>
         refine ⟨i + 1, cq, ks ++ [dd], by first | rfl | exact congrArg (Value.int .i64) SH.out, by first | rfl | go_num | exact congrArg (Value.int .i64) (wrapN (by omega) (by omega)), HO'.out, own_grown HO.out HGR.out.1 HGR.out.2, ⟨HIL.out, HDD.out.2.1, by rw [List.length_append, HRR.out.2.2.1]; rfl, HRR.out.2.2.2.1.append (Wb.one HDD.out.1), HDD.out.2.2⟩⟩
        case measure =>
         have := HIL.out
         simp only [intOf]
         first | omega | (rw [show wrap64 ((i : Int) + 1) = ((i + 1 : Nat) : Int) from wrapN (by omega) (by omega)]; omega)
end Go.Proofs.YtohhkjamddojmaaGreatDoor.Big
