/- Remainders by a word, with memory from the stack: rem. -/
import Derived.Test.YtohhkjamddojmaaGreatDoorEE
import Derived.Test.YtohhkjamddojmaaGreatDoorKC
import Derived.Lib.AppendZerosOnto
namespace Go.Proofs.YtohhkjamddojmaaGreatDoor.Big
open Go.RowKit
attribute [local go_sem] ptr

theorem zeros_words (k n : Nat) : Builtin.zeroCells (Value.int .u64 0).cells k ++ Builtin.zeroCells (Value.int .u64 0).cells n = wds (List.replicate (k + n) 0) := by
  apply Array.ext'
  simp [Builtin.zeroCells, wds, wd, Value.cells]
  have h : ∀ m, List.map (fun i => [Value.int IntKind.u64 0][i % 1]?.getD default) (List.range m) = List.replicate m (Value.int .u64 0) := fun m => by
    rw [List.eq_replicate_iff]
    refine ⟨by simp, fun x hx => ?_⟩
    obtain ⟨i, -, rfl⟩ := List.mem_map.1 hx
    rw [Nat.mod_one]
    rfl
  rw [h, h, List.replicate_append_replicate]
set_option maxHeartbeats 2000000 in
set_option maxRecDepth 100000 in
theorem growNil (w : World) : Calls Tryz.prog 231 #[.slice .none 0 0, .int .i64 1] w (fun e w' => ∃ (b : Nat) (zs : List Nat), 1 ≤ zs.length ∧ zs.length ≤ maxLen ∧ e = .returned (.slice (some ⟨b, 0, .none⟩) 0 zs.length) ∧ NatB w' b zs ∧ w.heap.size ≤ b ∧ w.grownBy w' .none) := by
  obtain ⟨i0, hi, hz0, hz1, hz2⟩ := info_parts info199
  obtain ⟨c, hc⟩ : ∃ c, c = grownCap w 1 0 199 := ⟨_, rfl⟩
  have h1 : 1 ≤ c := by rw [hc]; exact grownCap_ge w 1 0 199
  have h2 : c ≤ maxLen := by rw [hc]; exact grownCap_le_maxLen w 1 0 199 (by decide)
  have HC := Lib.hid hc
  clear hc
  go_enter Tryz.func231, Tryz.ntmps231
  go_wp2_with fail
  go_ret
  have hz : Builtin.zeroCells (Value.int .u64 0).cells 1 ++ Builtin.zeroCells (Value.int .u64 0).cells (c - 1) = wds (List.replicate c 0) := by rw [zeros_words]; congr 2; omega
  have hN : NatB (w.drew.alloc (.cells (wds (List.replicate c 0)) 199)) w.heap.size (List.replicate c 0) := heap_alloc_new _ _
  have hG : w.grownBy (w.drew.alloc (.cells (wds (List.replicate c 0)) 199)) .none := grown_trans (grown_drewN w 1 _) (grown_alloc _ _ _)
  rw [← hz, HC.out] at hN hG
  have hl : (List.replicate c 0).length = c := List.length_replicate
  refine ⟨w.heap.size, List.replicate c 0, by rw [hl]; exact h1, by rw [hl]; exact h2, ?_, ?_, Nat.le_refl _, ?_⟩
  · rw [hl, HC.out]; rfl
  · rw [HC.out]; exact hN
  · exact hG
set_option maxHeartbeats 2000000 in
set_option maxRecDepth 100000 in
/-- one word from an empty stack -/
theorem stackNat1 (s : Nat) (w : World) (hs : w.cell? ⟨s, 0, .none⟩ = some (.pointer .none)) :
    Calls Tryz.prog 209 #[.pointer (some ⟨s, 0, .none⟩), .int .i64 1] w (fun e w' => ∃ (b : Nat) (zs : List Nat), e = .returned (.slice (some ⟨b, 0, .none⟩) 1 zs.length) ∧ NatB w' b zs ∧ 1 ≤ zs.length ∧ zs.length ≤ maxLen ∧ w.heap.size ≤ b ∧ w.grownBy w' .none) := by
  have HG := Lib.hid (growNil w)
  go_enter Tryz.func209, Tryz.ntmps209
  go_wp2_with fail
  refine HG.out.mono ?_
  rintro e w1 ⟨b, zs, h1, h2, rfl, hb, hbs, hg⟩
  have hcm : zs.length ≤ 9223372036854775807 := h2
  have hc0 := hb.cell 0 h1
  have hf0 := hb.free 0
  have HS := Lib.hid (hb.set 0 11259375)
  have HSZ := Lib.hid (grown_new hg (grown_set w1 b 0 (wd 11259375)) hbs)
  have HBS := Lib.hid hbs
  have HMX := Lib.hid h2
  clear hb HG hg hbs h2
  go_wp2_with fail
  go_ret
  refine ⟨b, zs.set 0 11259375, ?_, HS.out, by rw [List.length_set]; exact h1, by rw [List.length_set]; exact HMX.out, HBS.out, HSZ.out⟩
  rw [List.length_set]
  rfl
set_option maxHeartbeats 1000000 in
theorem norm1 (b c v : Nat) (w : World) (hc : w.cell? ⟨b, 0, .none⟩ = some (wd v)) (h1 : 1 ≤ c) (h2 : c ≤ maxLen) :
    Calls Tryz.prog 171 #[.slice (some ⟨b, 0, .none⟩) 1 c] w (fun e w' => ∃ l, e = .returned (.slice (some ⟨b, 0, .none⟩) l c) ∧ w = w') := by
  have hcm : c ≤ 9223372036854775807 := h2
  unfold wd at hc
  by_cases h0 : v = 0
  · have hb : ((v : Int) == 0) = true := by rw [h0]; rfl
    clear h0
    go_enter Tryz.func171, Tryz.ntmps171
    go_wp2_with fail
    refine wp_loop_rounds 2 ?_
    rw [rounds_succ]
    go_wp2_with fail
    rw [rounds_succ]
    go_wp2_with fail
    go_ret
    exact ⟨0, rfl, rfl⟩
  · have hb : ((v : Int) == 0) = false := by rw [beq_eq_false_iff_ne]; omega
    clear h0
    go_enter Tryz.func171, Tryz.ntmps171
    go_wp2_with fail
    refine wp_loop_rounds 1 ?_
    rw [rounds_succ]
    go_wp2_with fail
    go_ret
    exact ⟨1, rfl, rfl⟩
set_option maxHeartbeats 1000000 in
theorem make1 (b l c : Nat) (w : World) (h1 : 1 ≤ c) (h2 : c ≤ maxLen) : Calls Tryz.prog 167 #[.slice (some ⟨b, 0, .none⟩) l c, .int .i64 1] w (fun e w' => e = .returned (.slice (some ⟨b, 0, .none⟩) 1 c) ∧ w = w') := by
  have hcm : c ≤ 9223372036854775807 := h2
  go_enter Tryz.func167, Tryz.ntmps167
  go_wp2_with fail
  go_ret
  exact ⟨rfl, rfl⟩
set_option maxHeartbeats 1000000 in
set_option maxRecDepth 100000 in
/-- a word by a word; the quotient's memory is of whatever size -/
theorem divW1 (b l a y : Nat) (zs ds : List Nat) (q : Option Addr) (w : World) (hz : NatB w b zs) (h1 : 1 ≤ zs.length) (h2 : zs.length ≤ maxLen) (hx : Num w q (dg a) ds) (hX : (dg a).length = 1) (hy : y < B64) (hy2 : 2 ≤ y) :
    Calls Tryz.prog 211 #[.slice (some ⟨b, 0, .none⟩) l zs.length, .slice q 1 ds.length, wd y] w (fun e w' => ∃ l', e = .returned (.tuple #[.slice (some ⟨b, 0, .none⟩) l' zs.length, wd (a % y)]) ∧ w.grownBy w' (some b)) := by
  obtain ⟨bx, rfl, hxN, -⟩ := hx.cell (by omega)
  have hD := divWVW b 1 zs.length bx ds.length zs ds y w hz hxN h1 (by have := hx.le; omega) hx.buf.2.1 hy (by omega) (Nat.le_refl _) (by decide)
  rw [show ds.take 1 = dg a by rw [← hX]; exact hx.take] at hD
  have HD := Lib.hid hD
  have HM := Lib.hid (make1 b l zs.length w h1 h2)
  have hy0 : ((y : Int) == 0) = false := by rw [beq_eq_false_iff_ne]; omega
  have hy1 : ((y : Int) == 1) = false := by rw [beq_eq_false_iff_ne]; omega
  have HY := Lib.hid (show 0 < y by omega)
  have HV := Lib.hid (val_dg a)
  have H12 := Lib.hid (And.intro h1 h2)
  clear hz hx hX hy hy2 hD hxN h1 h2
  unfold wd at *
  go_enter Tryz.func211, Tryz.ntmps211
  go_wp2_with fail
  refine HM.out.mono ?_
  rintro e w1 ⟨rfl, rfl⟩
  go_wp2_with fail
  refine HD.out.mono ?_
  rintro e w2 ⟨ks, r, rfl, hN2, hkl, hkw, hkv, hr, hG2⟩
  have HR := Lib.hid (show r = a % y by rw [HV.out] at hkv; rw [← hkv, Nat.add_comm, Nat.add_mul_mod_self_right, Nat.mod_eq_of_lt hr])
  have hl5 : (spl zs 0 ks).length = zs.length := spl_length (by have := H12.out.1; omega)
  have HN := Lib.hid (norm1 b zs.length _ w2 (hN2.cell 0 (by rw [hl5]; exact H12.out.1)) H12.out.1 H12.out.2)
  have HG := Lib.hid hG2
  clear hN2 hkl hkw hkv hr hG2 hl5
  unfold wd at *
  go_wp2_with fail
  refine HN.out.mono ?_
  rintro e w3 ⟨l', rfl, rfl⟩
  go_wp2_with fail
  go_ret2
  exact ⟨l', by rw [← HR.out]; rfl, HG.out⟩
set_option maxHeartbeats 1000000 in
set_option maxRecDepth 100000 in
theorem div1 (b l l2 a y : Nat) (s : Value) (p2 : Option Addr) (zs cs2 ds es : List Nat) (q q2 : Option Addr) (w : World) (hz : NatB w b zs) (h1 : 1 ≤ zs.length) (h2 : zs.length ≤ maxLen) (hb2 : Buf w p2 cs2) (hap : ∀ c, blk p2 = some c → c ≠ b) (hx : Num w q (dg a) ds) (hX : (dg a).length = 1) (hy : Num w q2 (dg y) es) (hyB : y < B64) (hy2 : 2 ≤ y) :
    Calls Tryz.prog 178 #[.slice (some ⟨b, 0, .none⟩) l zs.length, s, .slice p2 l2 cs2.length, .slice q 1 ds.length, .slice q2 1 es.length] w (fun e w' => ∃ l' p' cs', e = .returned (.tuple #[.slice (some ⟨b, 0, .none⟩) l' zs.length, .slice p' (dg (a % y)).length cs'.length]) ∧ Num w' p' (dg (a % y)) cs' ∧ Grow w w' (fun k => b = k ∨ blk p2 = some k) ∧ Fresh w p2 p') := by
  have hly : (dg y).length = 1 := by rw [dg_one hyB]; unfold word1; rw [if_neg (by omega)]; rfl
  obtain ⟨by', rfl, -, hyc⟩ := hy.cell (by omega)
  have hc := hyc 0 (by omega)
  rw [(dg_of_one hly).1] at hc
  have HS := Lib.hid (divW1 b l a y zs ds q w hz h1 h2 hx hX hyB hy2)
  have HM := Lib.hid (Nat.lt_trans (Nat.mod_lt a (show 0 < y by omega)) hyB)
  have HH2 := Lib.hid hb2
  have HAP := Lib.hid hap
  clear hz h1 h2 hb2 hap hx hX hy hyB hy2 hly hyc
  unfold wd at *
  go_enter Tryz.func178, Tryz.ntmps178
  go_wp2_with fail
  refine HS.out.mono ?_
  rintro e w1 ⟨l', rfl, hg⟩
  have HW := Lib.hid (nat_setWord p2 l2 (a % y) cs2 w1 (HH2.out.kept hg (fun c hc e => HAP.out c hc (Option.some.inj e).symm)) HM.out)
  have HG := Lib.hid hg
  clear hg
  unfold wd at *
  go_wp2_with fail
  refine HW.out.mono ?_
  rintro e w2 ⟨q', ds', rfl, hn2, hg2, hf2⟩
  have HN2 := Lib.hid hn2
  have HGG := Lib.hid (((Grow.of HG.out).weaken (fun _ _ e => .inl (Option.some.inj e))).trans ((Grow.of hg2).weaken (fun _ _ e => .inr e)) : Grow w w2 (fun k => b = k ∨ blk p2 = some k))
  have HF2 := Lib.hid (Fresh.older HG.out.size hf2)
  have HD := Lib.hid (dg_one HM.out)
  clear hn2 hg2 hf2
  go_wp2_with fail
  go_ret2
  exact ⟨l', q', ds', by rw [HD.out]; rfl, by rw [HD.out]; exact HN2.out, HGG.out, HF2.out⟩
theorem save0 (s : Nat) (w : World) (hs : w.cell? ⟨s, 0, .none⟩ = some (.pointer .none)) : Calls Tryz.prog 208 #[.pointer (some ⟨s, 0, .none⟩)] w (fun e w' => e = .returned (.int .i64 0) ∧ w = w') := by
  go_enter Tryz.func208, Tryz.ntmps208
  go_wp2_with fail
  go_ret
  exact ⟨rfl, rfl⟩
theorem restore0 (s : Nat) (n : Int) (u : FrameMode) (w : World) (hs : w.cell? ⟨s, 0, .none⟩ = some (.pointer .none)) : CallsD Tryz.prog 207 #[.pointer (some ⟨s, 0, .none⟩), .int .i64 n] u w fun e u' w' => u' = u ∧ (e = .returned (.tuple #[]) ∧ w' = w) := by
  go_enter_d Tryz.func207, Tryz.ntmps207
  go_wp2
  first | go_end0 | refine bodyPost_ret (results_none rfl _ _ _) rfl ?_
  exact ⟨rfl, rfl⟩
set_option maxHeartbeats 4000000 in
set_option maxRecDepth 100000 in
theorem rem1 (p px : Option Addr) (bm s l a y : Nat) (cs dx dm : List Nat) (w : World) (h : Buf w p cs) (hx : Num w px (dg a) dx) (hX : (dg a).length = 1) (hm : Num w (some ⟨bm, 0, .none⟩) (dg y) dm) (hal : al p px cs = false) (hs : w.cell? ⟨s, 0, .none⟩ = some (.pointer .none)) (hps : blk p ≠ some s) (hyB : y < B64) (hy2 : 2 ≤ y) :
    Calls Tryz.prog 213 #[.slice p l cs.length, .pointer (some ⟨s, 0, .none⟩), .slice px 1 dx.length, .slice (some ⟨bm, 0, .none⟩) 1 dm.length] w (NumP p (dg (a % y)) w) := by
  have hal1 := nat_alias p px l 1 cs dx w h hx.buf
  rw [hal] at hal1
  have HA := Lib.hid hal1
  have HB := Lib.hid h
  have HX := Lib.hid hx
  have HM := Lib.hid hm
  have H1 := Lib.hid hX
  have HY := Lib.hid (And.intro hyB hy2)
  have HPS := Lib.hid hps
  clear h hx hX hm hal hal1 hyB hy2 hps
  go_enter_defers Tryz.func213, Tryz.ntmps213
  go_wp2_with fail
  refine HA.out.mono ?_
  rintro e w1 ⟨rfl, n, rfl⟩
  have hs1 : (w.drewN n).cell? ⟨s, 0, .none⟩ = some (.pointer .none) := hs
  go_wp2_with fail
  refine (save0 s _ hs1).mono ?_
  rintro e w1 ⟨rfl, rfl⟩
  have HN := Lib.hid (stackNat1 s (w.drewN n) hs1)
  go_wp2_with fail
  refine HN.out.mono ?_
  rintro e w2 ⟨b, zs, rfl, hz, z1, z2, hbs, hg⟩
  have hbs' : w.heap.size ≤ b := hbs
  have hg' : w.grownBy w2 .none := grown_trans (grown_drewN w n _) hg
  have HD := Lib.hid (div1 b 1 l a y (.pointer (some ⟨s, 0, .none⟩)) p zs cs dx dm px _ w2 hz z1 z2 (HB.out.kept hg' (fun _ _ => by simp)) (fun c hc e => by have := HB.out.lt c hc; omega) (HX.out.kept hg' (fun _ _ => by simp)) H1.out (HM.out.kept hg' (fun _ _ => by simp)) HY.out.1 HY.out.2)
  have HG := Lib.hid hg'
  have HBS := Lib.hid hbs'
  have hs2 := hg'.cell hs (by simp)
  have hsl : s < w.heap.size := World.block_lt_of_cell? _ _ hs
  clear hz z1 z2 hbs hg hg' hbs' HN
  go_wp2_with fail
  refine HD.out.mono ?_
  rintro e w3 ⟨l', p', cs', rfl, hn, hgg, hf⟩
  have hs3 : w3.cell? ⟨s, 0, .none⟩ = some (.pointer .none) := by
    rw [World.cell?_of_block (hgg.block s (Nat.lt_of_lt_of_le hsl HG.out.size) (by
      rintro (e | e)
      · have := HBS.out; omega
      · exact HPS.out e))]
    exact hs2
  have HF := Lib.hid (show NumP p (dg (a % y)) w (.returned (.slice p' (dg (a % y)).length cs'.length)) w3 from
    ⟨p', cs', rfl, hn, ⟨hgg.os.trans HG.out.os, hgg.tape.trans HG.out.tape, hgg.output.trans HG.out.output, Nat.le_trans HG.out.size hgg.size, fun k hk hr => (hgg.block k (Nat.lt_of_lt_of_le hk HG.out.size) (by
      rintro (e | e)
      · have := HBS.out; omega
      · exact hr e.symm)).trans (HG.out.block k hk (by simp))⟩, Fresh.older HG.out.size hf⟩)
  clear hn hgg hf HD
  go_wp2_with fail
  refine leaves_cons (f := 207) (args := #[.pointer (some ⟨s, 0, .none⟩), .int .i64 0]) (by simp) (by simp [go_sem]) ?_
  refine (restore0 s 0 .returning _ hs3).mono ?_
  rintro e9 u9 w9 ⟨rfl, rfl, rfl⟩
  refine ⟨_, results_tmp rfl _ _ _, ?_⟩
  exact HF.out
end Go.Proofs.YtohhkjamddojmaaGreatDoor.Big
