/- Powers modulo a word, of natural numbers. Powers modulo a word, of natural numbers. -/
import Derived.Test.YtohhkjamddojmaaGreatDoorGA
import Derived.Defers
namespace Go.Proofs.YtohhkjamddojmaaGreatDoor.Big
open Go.RowKit
attribute [local go_sem] ptr

theorem stackFree (b : Nat) (u : FrameMode) (w : World) (hs : w.cell? ⟨b, 0, .none⟩ = some (.pointer .none)) : CallsD Tryz.prog 202 #[.pointer (some ⟨b, 0, .none⟩)] u w fun e u' w' => u' = u ∧ (e = .returned (.tuple #[]) ∧ w' = w) := by
  go_enter_d Tryz.func202, Tryz.ntmps202
  go_wp2
  go_end0
  exact ⟨rfl, rfl⟩
theorem dg_one_one : dg 1 = [1] := by rw [dg_one (by decide)]; rfl
theorem apart_none (q : Option Addr) : Apart .none q := fun b hb => by cases hb
theorem norm_dgs (n : Nat) : norm (dg n) = dg n := by rw [norm_dg _ (dg_words n), val_dg]
theorem getStack (w : World) : Calls Tryz.prog 201 #[] w fun e w' => e = .returned (ptr w.heap.size) ∧ w.alloc (.cells #[.pointer .none] 285) = w' := by
  go_enter Tryz.func201, Tryz.ntmps201
  go_wp2
  go_ret
  exact ⟨rfl, rfl⟩

set_option maxHeartbeats 4000000 in
set_option maxRecDepth 100000 in
theorem expNN_wordA (p px py pm : Option Addr) (l a e m : Nat) (cs dx dy dm : List Nat) (w : World) (h : Buf w p cs) (hx : Num w px (dg a) dx) (hy : Num w py (dg e) dy) (hm : Num w pm (dg m) dm) (hap : Apart p pm) (hal : al p px cs = false) (hal2 : al p py cs = false) (ha : a < B64) (ha2 : 2 ≤ a) (he : e < B64) (he2 : 2 ≤ e) (hmB : m < B64) (hm2 : 2 ≤ m) (htab : Tab w) (h8 : ∀ b, blk p = some b → 8 ≤ b) :
    Calls Tryz.prog 179 #[.slice p l cs.length, .pointer .none, .slice px (dg a).length dx.length, .slice py (dg e).length dy.length, .slice pm (dg m).length dm.length, .bool false] w (NumP p (dg (a ^ e % m)) w) := by
  have hal1 := nat_alias p px l (dg a).length cs dx w h hx.buf
  rw [hal] at hal1
  have HA1 := Lib.hid hal1
  have hal3 := fun n => nat_alias p py l 1 cs dy (w.drewN n) (h.kept (grown_drewN _ _ .none) (fun _ _ => by simp)) (hy.buf.kept (grown_drewN _ _ .none) (fun _ _ => by simp))
  rw [hal2] at hal3
  have HA2 := Lib.hid hal3
  have hB0 : Buf w p cs ∧ Apart p px ∧ Apart p py ∧ Apart p pm := ⟨h, al_false h hx.buf (Nat.lt_of_lt_of_le (dg_pos_length (by omega)) hx.le) hal, al_false h hy.buf (Nat.lt_of_lt_of_le (dg_pos_length (by omega)) hy.le) hal2, hap⟩
  have HB0 := Lib.hid hB0
  have hlm : (dg m).length = 1 := by rw [dg_one hmB]; unfold word1; rw [if_neg (by omega)]; rfl
  have hle : (dg e).length = 1 := by rw [dg_one he]; unfold word1; rw [if_neg (by omega)]; rfl
  obtain ⟨bm, rfl, -, hmc⟩ := hm.cell (by omega)
  obtain ⟨be, rfl, -, hec⟩ := hy.cell (by omega)
  have hmc := hmc 0 (by omega)
  have hec := hec 0 (by omega)
  rw [(dg_of_one hlm).1] at hmc
  rw [(dg_of_one hle).1] at hec
  have hcm := hm.le
  have hce := hy.le
  rw [hlm] at hcm
  rw [hle] at hce
  have HX := Lib.hid hx
  have HY := Lib.hid hy
  have HM := Lib.hid hm
  have AB := Lib.hid ha
  have A2 := Lib.hid ha2
  have EB := Lib.hid he
  have E2 := Lib.hid he2
  have MB := Lib.hid hmB
  have M2 := Lib.hid hm2
  have HT := Lib.hid htab
  have H8 : RowKit.Hid (∀ b, blk (p : Option Addr) = some b → 8 ≤ b) := Lib.hid (h8)
  have HLM := Lib.hid hlm
  have HLE := Lib.hid hle
  rw [hlm, hle]
  have hlx : (dg a).length = 1 := by rw [dg_one AB.out]; unfold word1; rw [if_neg (by have := A2.out; omega)]; rfl
  obtain ⟨bx, rfl, -, hxc⟩ := HX.out.cell (by omega)
  have hxc := hxc 0 (by omega)
  rw [(dg_of_one hlx).1] at hxc
  have hcx := HX.out.le
  rw [hlx] at hcx HA1
  have HLX := Lib.hid hlx
  rw [hlx]
  clear hlx
  have hx1 : ((a : Int) == 1) = false := by rw [beq_eq_false_iff_ne]; have := A2.out; omega
  have hm1 : ((m : Int) == 1) = false := by rw [beq_eq_false_iff_ne]; omega
  have he1 : ((e : Int) == 1) = false := by rw [beq_eq_false_iff_ne]; omega
  clear h hx hy hm hap hal hal1 ha ha2 he he2 hmB hm2 htab hB0 hlm hle h8 hal2 hal3
  go_enter_defers Tryz.func179, Tryz.ntmps179
  go_wp2_with fail
  refine HA1.out.mono ?_
  rintro en w1 ⟨rfl, n1, rfl⟩
  go_wp2_with fail
  refine (HA2.out n1).mono ?_
  rintro en w2 ⟨rfl, n2, rfl⟩
  go_wp2_with fail
  refine (getStack _).mono ?_
  rintro en W ⟨rfl, hW⟩
  have hgW : w.grownBy W .none := by rw [← hW]; exact grown_trans (grown_drewN _ _ _) (grown_alloc _ _ _)
  have hsW : W.cell? ⟨w.heap.size, 0, .none⟩ = some (.pointer .none) := by rw [← hW]; exact cell_new _ _ _
  have hszW : w.heap.size < W.heap.size := by rw [← hW]; show _ < (Array.push _ _).size; rw [Array.size_push]; exact Nat.lt_succ_self _
  have HGW := Lib.hid hgW
  have HSW := Lib.hid hsW
  have HZW := Lib.hid hszW
  have KX := Lib.hid (HX.out.kept HGW.out (fun _ _ => by simp))
  have KY := Lib.hid (HY.out.kept HGW.out (fun _ _ => by simp))
  have KM := Lib.hid (HM.out.kept HGW.out (fun _ _ => by simp))
  have KT := Lib.hid (HT.out.kept HGW.out (fun _ e => by cases e))
  have KB := Lib.hid (HB0.out.1.kept HGW.out (fun _ _ => by simp))
  clear hW hgW hszW hmc hec hxc hsW
  have hecW := KY.out.word (by have := E2.out; omega) EB.out
  go_wp2_with fail
  refine (nat_make p l 1 cs W KB.out (by omega)).mono ?_
  rintro en w4 ⟨p1, cs1, rfl, hb1, hn1, hg1, hor1⟩
  have KX4 := KX.out.kept hg1 (fun _ _ => by simp)
  have hS := nat_set p1 (some ⟨bx, 0, .none⟩) 1 cs1 (dg a) dx w4 hb1 KX4 (by rw [HLX.out]; decide)
  rw [HLX.out] at hS
  have HS := Lib.hid hS
  have HG1 := Lib.hid hg1
  have HF1 := Lib.hid (MakeP.or hor1)
  clear hb1 hn1 hg1 hor1 KX4 hS
  go_wp2_with fail
  refine HS.out.mono ?_
  rintro en w5 ⟨p2, cs2, rfl, hn2, hg2, hf2⟩
  have pool : Pool4 W w5 p p2 .none .none .none cs2 [] [] [] := by
    have nb : ∀ (q : Option Addr), Apart .none q := fun q b hb => by cases hb
    have nb' : ∀ (q : Option Addr), Apart q .none := fun q b _ hb => by cases hb
    have ff : Fresh W p .none := .inr (fun b hb => by cases hb)
    exact ⟨hn2.buf, Buf.nil _, Buf.nil _, Buf.nil _, HF1.out.trans HG1.out.size hf2, ff, ff, ff, nb' _, nb' _, nb' _, nb _, nb _, nb _, grown_or (grown_none HG1.out _) hg2 HF1.out⟩
  have ax : Apart p (some ⟨bx, 0, .none⟩) := HB0.out.2.1
  have ay : Apart p (some ⟨be, 0, .none⟩) := HB0.out.2.2.1
  have am : Apart p (some ⟨bm, 0, .none⟩) := HB0.out.2.2.2
  have hn2' : Num w5 p2 (dg a) cs2 := hn2
  have he5 := (KY.out.apart pool.g ay).word (by have := E2.out; omega) EB.out
  have HPL := Lib.hid pool
  have HN2 := Lib.hid hn2'
  have HAX := Lib.hid ax
  have HAM := Lib.hid am
  clear hn2 hg2 hf2 pool hn2' HS HG1 HF1 ax am ay
  go_wp2_with fail
  refine (nlz e EB.out (by have := E2.out; omega) w5).mono ?_
  rintro en w6 ⟨rfl, hw6⟩
  obtain rfl : w5 = w6 := hw6.symm
  obtain ⟨hlz, hlz2, hlz3⟩ := lz_facts EB.out (by have := E2.out; omega : e ≠ 0)
  have HL3 := Lib.hid hlz3
  have hlzI : (lz e : Int) ≤ 63 := by omega
  have hlz0 : (0 : Int) ≤ (lz e : Int) := by omega
  clear hlz hlz3
  obtain ⟨K, r, v, hK1, hK, hv, hbw⟩ := Bitwise.start (m := m) AB.out EB.out E2.out
  have HBW := Lib.hid hbw
  clear hbw
  go_wp2_with fail
  clear hv hlz2 hlzI hlz0
  go_loopw [0, 15, 17, 19, 20, 21] (fun s0 s15 s17 s19 s20 s21 wr => ∃ (j k E r v c : Nat) (pz pzz pr pq : Option Addr) (cz czz cr cq : List Nat) (lzz lr lq : Nat), s0 = .slice pz (dg c).length cz.length ∧ s15 = .int .u64 v ∧ s17 = .slice pq lq cq.length ∧ s19 = .slice pzz lzz czz.length ∧ s20 = .slice pr lr cr.length ∧ s21 = .int .i64 j ∧ RowKit.Hid (Bitwise a e m K j k E r v c ∧ Pool4 W wr p pz pzz pr pq cz czz cr cq ∧ Num wr pz (dg c) cz)) (fun _ _ _ _ _ s21 _ => K - (intOf s21).toNat)
  case atStart => exact ⟨0, K, 1, r, v, a, p2, .none, .none, .none, cs2, [], [], [], 0, 0, 0, rfl, rfl, rfl, rfl, rfl, rfl, ⟨HBW.out, HPL.out, HN2.out⟩⟩
  case round =>
    clear hK1
    obtain ⟨j, k, E, r, v, c, pz, pzz, pr, pq, cz, czz, cr, cq, lzz, lr, lq, rfl, rfl, rfl, rfl, rfl, rfl, HR⟩ := hrel
    obtain ⟨hb, hp, hnz⟩ := HR.out
    cases k with
    | zero =>
      have hge : (K : Int) ≤ (j : Int) := by have := hb.jk; omega
      have HC := Lib.hid (hb.fin E2.out)
      have HP := Lib.hid hp
      have HNZ := Lib.hid hnz
      clear hb hp hnz HR
      go_wp2_with fail
      refine wp_loop_rounds 1 ?_
      rw [rounds_succ]
      go_wp2_with fail
      refine (nat_norm pz (dg c).length cz wr HP.out.ba HNZ.out.le).mono ?_
      rintro en w7 ⟨rfl, hw7⟩
      obtain rfl : wr = w7 := hw7
      rw [HNZ.out.take, norm_dgs]
      go_wp2_with fail
      refine leaves_cons (f := 202) (args := #[.pointer (some ⟨w.heap.size, 0, .none⟩)]) (by simp) (by simp [go_sem]) ?_
      refine (stackFree w.heap.size .returning _ ?_).mono ?_
      · refine cell_grown HSW.out HP.out.g ?_
        intro e8
        have h1 := HB0.out.1.lt _ e8
        exact Nat.lt_irrefl _ h1
      rintro e9 u9 w9 ⟨rfl, rfl, rfl⟩
      refine ⟨_, results_tmp rfl _ _ _, ?_⟩
      rw [← HC.out]
      exact ⟨pz, cz, rfl, HNZ.out, grown_trans (grown_none HGW.out _) HP.out.g, Fresh.older HGW.out.size HP.out.fa⟩
    | succ k =>
      have hlt : (j : Int) < (K : Int) := by have := hb.jk; omega
      have hm0 : 0 < m := by have := M2.out; omega
      have hcB := hb.cB
      have hlc : (dg c).length ≤ 1 := dg_length.2 (by rw [Nat.pow_one]; exact hcB)
      have HSQ := Lib.hid (nat_sqr pzz pz (.pointer (some ⟨w.heap.size, 0, .none⟩)) lzz c czz cz wr hp.bb hnz (by omega) (KT.out.kept hp.g H8.out))
      have HST := Lib.hid (hb.step hm0 MB.out)
      have HCB := Lib.hid hcB
      have HP := Lib.hid hp
      clear hb hp hnz HR hm0 hcB hlc
      go_wp2_with fail
      refine HSQ.out.mono ?_
      rintro en w7 ⟨p3, cs3, rfl, hn3, hg3, hf3⟩
      have HP3 := Lib.hid (HP.out.swap.write hn3.buf hg3 hf3)
      have HN3 := Lib.hid hn3
      clear hn3 hg3 hf3 HSQ
      go_upto_region 39 with fail
      rcases HST.out with ⟨-, hA, v', hv', hb'⟩ | ⟨-, hA, v', hv', hb'⟩
      · have HB' := Lib.hid hb'
        clear hb' HST
        go_wp2_with fail
        have hcB := HCB.out
        have hdv := nat_div_word pz pr p3 (some ⟨bm, 0, .none⟩) (.pointer (some ⟨w.heap.size, 0, .none⟩)) (dg c).length lr (c * c) m cz cr cs3 dm w7 HP3.out.bb HP3.out.bc HP3.out.bc' HN3.out (KM.out.apart HP3.out.g HAM.out) (Nat.le_trans (dg_length.2 (by rw [Nat.pow_succ, Nat.pow_succ, Nat.pow_one]; exact Nat.lt_of_lt_of_le (Nat.mul_lt_mul'' hcB hcB) (Nat.le_mul_of_pos_right _ B64_pos))) (by decide : 3 ≤ 80000)) HLM.out
        rw [HLM.out] at hdv
        have HDV := Lib.hid hdv
        clear hdv hcB
        refine HDV.out.mono ?_
        rintro en w8 ⟨p5, cs5, q5, ds5, rfl, hq5, hr5, hg5, hf5, hf5', ha5⟩
        have HP5 := Lib.hid ((HP3.out.swap.s23.write2 hq5.buf hr5.buf hg5 hf5 hf5' ha5).swap.s24)
        have HR5 := Lib.hid hr5
        clear hq5 hr5 hg5 hf5 hf5' ha5 HDV
        go_wp2_with fail
        go_roundw
        case rel => exact ⟨j + 1, k, _, _, v', _, q5, pq, p3, p5, ds5, cq, cs3, cs5, lq, _, _, rfl, rfl, rfl, rfl, rfl, by go_num, ⟨HB'.out, HP5.out, HR5.out⟩⟩
        case measure => simp [intOf]; omega
      · have HB' := Lib.hid hb'
        clear hb' HST
        go_wp2_with fail
        have hcB := HCB.out
        have hml := nat_mul pz p3 (some ⟨bx, 0, .none⟩) (.pointer (some ⟨w.heap.size, 0, .none⟩)) (dg c).length (c * c) a cz cs3 dx w7 HP3.out.bb HN3.out (KX.out.apart HP3.out.g HAX.out) (Nat.le_trans (dg_length.2 (by rw [Nat.pow_succ, Nat.pow_one]; exact Nat.mul_lt_mul'' hcB hcB)) (by decide : 2 ≤ 39)) (by rw [HLX.out]; decide) (KT.out.kept HP3.out.g H8.out)
        rw [HLX.out] at hml
        have HML := Lib.hid hml
        clear hml hcB
        refine HML.out.mono ?_
        rintro en w9 ⟨p4, cs4, rfl, hn4, hg4, hf4⟩
        have HP4 := Lib.hid (HP3.out.swap.write hn4.buf hg4 hf4)
        have HN4 := Lib.hid hn4
        clear hn4 hg4 hf4 HML
        go_wp2_with fail
        have hcB := HCB.out
        have hdv := nat_div_word p3 pr p4 (some ⟨bm, 0, .none⟩) (.pointer (some ⟨w.heap.size, 0, .none⟩)) (dg (c * c)).length lr (c * c * a) m cs3 cr cs4 dm w9 HP4.out.bb HP4.out.bc HP4.out.bc' HN4.out (KM.out.apart HP4.out.g HAM.out) (Nat.le_trans (dg_length.2 (by rw [Nat.pow_succ, Nat.pow_succ, Nat.pow_one]; exact Nat.mul_lt_mul'' (Nat.mul_lt_mul'' hcB hcB) AB.out)) (by decide : 3 ≤ 80000)) HLM.out
        rw [HLM.out] at hdv
        have HDV := Lib.hid hdv
        clear hdv hcB
        refine HDV.out.mono ?_
        rintro en w8 ⟨p5, cs5, q5, ds5, rfl, hq5, hr5, hg5, hf5, hf5', ha5⟩
        have HP5 := Lib.hid ((HP4.out.swap.s23.write2 hq5.buf hr5.buf hg5 hf5 hf5' ha5).swap.s24)
        have HR5 := Lib.hid hr5
        clear hq5 hr5 hg5 hf5 hf5' ha5 HDV
        go_wp2_with fail
        go_roundw
        case rel => exact ⟨j + 1, k, _, _, v', _, q5, pq, p4, p5, ds5, cq, cs4, cs5, lq, _, _, rfl, rfl, rfl, rfl, rfl, by go_num, ⟨HB'.out, HP5.out, HR5.out⟩⟩
        case measure => simp [intOf]; omega
end Go.Proofs.YtohhkjamddojmaaGreatDoor.Big

namespace Go.Proofs.YtohhkjamddojmaaGreatDoor.Big
open Go.RowKit
attribute [local go_sem] ptr

set_option maxHeartbeats 4000000 in
set_option maxRecDepth 100000 in
theorem expNN_wordB (p px py pm : Option Addr) (l a e m : Nat) (cs dx dy dm : List Nat) (w : World) (h : Buf w p cs) (hx : Num w px (dg a) dx) (hy : Num w py (dg e) dy) (hm : Num w pm (dg m) dm) (hap : Apart p pm) (hal : al p px cs = true) (ha : a < B64) (ha2 : 2 ≤ a) (he : e < B64) (he2 : 2 ≤ e) (hmB : m < B64) (hm2 : 2 ≤ m) (htab : Tab w) (_h8 : ∀ b, blk p = some b → 8 ≤ b) :
    Calls Tryz.prog 179 #[.slice p l cs.length, .pointer .none, .slice px (dg a).length dx.length, .slice py (dg e).length dy.length, .slice pm (dg m).length dm.length, .bool false] w (NumP p (dg (a ^ e % m)) w) := by
  have hal1 := nat_alias p px l (dg a).length cs dx w h hx.buf
  rw [hal] at hal1
  have HA1 := Lib.hid hal1
  have hB0 : Buf w .none [] ∧ Apart .none px ∧ Apart .none py ∧ Apart .none pm := ⟨Buf.nil w, apart_none _, apart_none _, apart_none _⟩
  have HB0 := Lib.hid hB0
  have hlm : (dg m).length = 1 := by rw [dg_one hmB]; unfold word1; rw [if_neg (by omega)]; rfl
  have hle : (dg e).length = 1 := by rw [dg_one he]; unfold word1; rw [if_neg (by omega)]; rfl
  obtain ⟨bm, rfl, -, hmc⟩ := hm.cell (by omega)
  obtain ⟨be, rfl, -, hec⟩ := hy.cell (by omega)
  have hmc := hmc 0 (by omega)
  have hec := hec 0 (by omega)
  rw [(dg_of_one hlm).1] at hmc
  rw [(dg_of_one hle).1] at hec
  have hcm := hm.le
  have hce := hy.le
  rw [hlm] at hcm
  rw [hle] at hce
  have HX := Lib.hid hx
  have HY := Lib.hid hy
  have HM := Lib.hid hm
  have AB := Lib.hid ha
  have A2 := Lib.hid ha2
  have EB := Lib.hid he
  have E2 := Lib.hid he2
  have MB := Lib.hid hmB
  have M2 := Lib.hid hm2
  have HT := Lib.hid htab
  have H8 : RowKit.Hid (∀ b, blk (.none : Option Addr) = some b → 8 ≤ b) := Lib.hid ((fun b hb => by cases hb))
  have HLM := Lib.hid hlm
  have HLE := Lib.hid hle
  rw [hlm, hle]
  have hlx : (dg a).length = 1 := by rw [dg_one AB.out]; unfold word1; rw [if_neg (by have := A2.out; omega)]; rfl
  obtain ⟨bx, rfl, -, hxc⟩ := HX.out.cell (by omega)
  have hxc := hxc 0 (by omega)
  rw [(dg_of_one hlx).1] at hxc
  have hcx := HX.out.le
  rw [hlx] at hcx HA1
  have HLX := Lib.hid hlx
  rw [hlx]
  clear hlx
  have hx1 : ((a : Int) == 1) = false := by rw [beq_eq_false_iff_ne]; have := A2.out; omega
  have hm1 : ((m : Int) == 1) = false := by rw [beq_eq_false_iff_ne]; omega
  have he1 : ((e : Int) == 1) = false := by rw [beq_eq_false_iff_ne]; omega
  clear h hx hy hm hap hal hal1 ha ha2 he he2 hmB hm2 htab hB0 hlm hle _h8
  go_enter_defers Tryz.func179, Tryz.ntmps179
  go_wp2_with fail
  refine HA1.out.mono ?_
  rintro en w1 ⟨rfl, n1, rfl⟩
  go_wp2_with fail
  refine (getStack _).mono ?_
  rintro en W ⟨rfl, hW⟩
  have hgW : w.grownBy W .none := by rw [← hW]; exact grown_trans (grown_drewN _ _ _) (grown_alloc _ _ _)
  have hsW : W.cell? ⟨w.heap.size, 0, .none⟩ = some (.pointer .none) := by rw [← hW]; exact cell_new _ _ _
  have hszW : w.heap.size < W.heap.size := by rw [← hW]; show _ < (Array.push _ _).size; rw [Array.size_push]; exact Nat.lt_succ_self _
  have HGW := Lib.hid hgW
  have HSW := Lib.hid hsW
  have HZW := Lib.hid hszW
  have KX := Lib.hid (HX.out.kept HGW.out (fun _ _ => by simp))
  have KY := Lib.hid (HY.out.kept HGW.out (fun _ _ => by simp))
  have KM := Lib.hid (HM.out.kept HGW.out (fun _ _ => by simp))
  have KT := Lib.hid (HT.out.kept HGW.out (fun _ e => by cases e))
  have KB := Lib.hid (HB0.out.1.kept HGW.out (fun _ _ => by simp))
  clear hW hgW hszW hmc hec hxc hsW
  have hecW := KY.out.word (by have := E2.out; omega) EB.out
  go_wp2_with fail
  refine (nat_make .none 0 1 [] W KB.out (by omega)).mono ?_
  rintro en w4 ⟨p1, cs1, rfl, hb1, hn1, hg1, hor1⟩
  have KX4 := KX.out.kept hg1 (fun _ _ => by simp)
  have hS := nat_set p1 (some ⟨bx, 0, .none⟩) 1 cs1 (dg a) dx w4 hb1 KX4 (by rw [HLX.out]; decide)
  rw [HLX.out] at hS
  have HS := Lib.hid hS
  have HG1 := Lib.hid hg1
  have HF1 := Lib.hid (MakeP.or hor1)
  clear hb1 hn1 hg1 hor1 KX4 hS
  go_wp2_with fail
  refine HS.out.mono ?_
  rintro en w5 ⟨p2, cs2, rfl, hn2, hg2, hf2⟩
  have pool : Pool4 W w5 .none p2 .none .none .none cs2 [] [] [] := by
    have nb : ∀ (q : Option Addr), Apart .none q := fun q b hb => by cases hb
    have nb' : ∀ (q : Option Addr), Apart q .none := fun q b _ hb => by cases hb
    have ff : Fresh W .none .none := .inr (fun b hb => by cases hb)
    exact ⟨hn2.buf, Buf.nil _, Buf.nil _, Buf.nil _, HF1.out.trans HG1.out.size hf2, ff, ff, ff, nb' _, nb' _, nb' _, nb _, nb _, nb _, grown_or (grown_none HG1.out _) hg2 HF1.out⟩
  have ax : Apart .none (some ⟨bx, 0, .none⟩) := HB0.out.2.1
  have ay : Apart .none (some ⟨be, 0, .none⟩) := HB0.out.2.2.1
  have am : Apart .none (some ⟨bm, 0, .none⟩) := HB0.out.2.2.2
  have hn2' : Num w5 p2 (dg a) cs2 := hn2
  have he5 := (KY.out.apart pool.g ay).word (by have := E2.out; omega) EB.out
  have HPL := Lib.hid pool
  have HN2 := Lib.hid hn2'
  have HAX := Lib.hid ax
  have HAM := Lib.hid am
  clear hn2 hg2 hf2 pool hn2' HS HG1 HF1 ax am ay
  go_wp2_with fail
  refine (nlz e EB.out (by have := E2.out; omega) w5).mono ?_
  rintro en w6 ⟨rfl, hw6⟩
  obtain rfl : w5 = w6 := hw6.symm
  obtain ⟨hlz, hlz2, hlz3⟩ := lz_facts EB.out (by have := E2.out; omega : e ≠ 0)
  have HL3 := Lib.hid hlz3
  have hlzI : (lz e : Int) ≤ 63 := by omega
  have hlz0 : (0 : Int) ≤ (lz e : Int) := by omega
  clear hlz hlz3
  obtain ⟨K, r, v, hK1, hK, hv, hbw⟩ := Bitwise.start (m := m) AB.out EB.out E2.out
  have HBW := Lib.hid hbw
  clear hbw
  go_wp2_with fail
  clear hv hlz2 hlzI hlz0
  go_loopw [0, 15, 17, 19, 20, 21] (fun s0 s15 s17 s19 s20 s21 wr => ∃ (j k E r v c : Nat) (pz pzz pr pq : Option Addr) (cz czz cr cq : List Nat) (lzz lr lq : Nat), s0 = .slice pz (dg c).length cz.length ∧ s15 = .int .u64 v ∧ s17 = .slice pq lq cq.length ∧ s19 = .slice pzz lzz czz.length ∧ s20 = .slice pr lr cr.length ∧ s21 = .int .i64 j ∧ RowKit.Hid (Bitwise a e m K j k E r v c ∧ Pool4 W wr .none pz pzz pr pq cz czz cr cq ∧ Num wr pz (dg c) cz)) (fun _ _ _ _ _ s21 _ => K - (intOf s21).toNat)
  case atStart => exact ⟨0, K, 1, r, v, a, p2, .none, .none, .none, cs2, [], [], [], 0, 0, 0, rfl, rfl, rfl, rfl, rfl, rfl, ⟨HBW.out, HPL.out, HN2.out⟩⟩
  case round =>
    clear hK1
    obtain ⟨j, k, E, r, v, c, pz, pzz, pr, pq, cz, czz, cr, cq, lzz, lr, lq, rfl, rfl, rfl, rfl, rfl, rfl, HR⟩ := hrel
    obtain ⟨hb, hp, hnz⟩ := HR.out
    cases k with
    | zero =>
      have hge : (K : Int) ≤ (j : Int) := by have := hb.jk; omega
      have HC := Lib.hid (hb.fin E2.out)
      have HP := Lib.hid hp
      have HNZ := Lib.hid hnz
      clear hb hp hnz HR
      go_wp2_with fail
      refine wp_loop_rounds 1 ?_
      rw [rounds_succ]
      go_wp2_with fail
      refine (nat_norm pz (dg c).length cz wr HP.out.ba HNZ.out.le).mono ?_
      rintro en w7 ⟨rfl, hw7⟩
      obtain rfl : wr = w7 := hw7
      rw [HNZ.out.take, norm_dgs]
      go_wp2_with fail
      refine leaves_cons (f := 202) (args := #[.pointer (some ⟨w.heap.size, 0, .none⟩)]) (by simp) (by simp [go_sem]) ?_
      refine (stackFree w.heap.size .returning _ ?_).mono ?_
      · refine cell_grown HSW.out HP.out.g ?_
        intro e8
        have h1 := HB0.out.1.lt _ e8
        exact Nat.lt_irrefl _ h1
      rintro e9 u9 w9 ⟨rfl, rfl, rfl⟩
      refine ⟨_, results_tmp rfl _ _ _, ?_⟩
      rw [← HC.out]
      exact NumP.from_none (p := p) ⟨pz, cz, rfl, HNZ.out, grown_trans (grown_none HGW.out _) HP.out.g, Fresh.older HGW.out.size HP.out.fa⟩
    | succ k =>
      have hlt : (j : Int) < (K : Int) := by have := hb.jk; omega
      have hm0 : 0 < m := by have := M2.out; omega
      have hcB := hb.cB
      have hlc : (dg c).length ≤ 1 := dg_length.2 (by rw [Nat.pow_one]; exact hcB)
      have HSQ := Lib.hid (nat_sqr pzz pz (.pointer (some ⟨w.heap.size, 0, .none⟩)) lzz c czz cz wr hp.bb hnz (by omega) (KT.out.kept hp.g H8.out))
      have HST := Lib.hid (hb.step hm0 MB.out)
      have HCB := Lib.hid hcB
      have HP := Lib.hid hp
      clear hb hp hnz HR hm0 hcB hlc
      go_wp2_with fail
      refine HSQ.out.mono ?_
      rintro en w7 ⟨p3, cs3, rfl, hn3, hg3, hf3⟩
      have HP3 := Lib.hid (HP.out.swap.write hn3.buf hg3 hf3)
      have HN3 := Lib.hid hn3
      clear hn3 hg3 hf3 HSQ
      go_upto_region 39 with fail
      rcases HST.out with ⟨-, hA, v', hv', hb'⟩ | ⟨-, hA, v', hv', hb'⟩
      · have HB' := Lib.hid hb'
        clear hb' HST
        go_wp2_with fail
        have hcB := HCB.out
        have hdv := nat_div_word pz pr p3 (some ⟨bm, 0, .none⟩) (.pointer (some ⟨w.heap.size, 0, .none⟩)) (dg c).length lr (c * c) m cz cr cs3 dm w7 HP3.out.bb HP3.out.bc HP3.out.bc' HN3.out (KM.out.apart HP3.out.g HAM.out) (Nat.le_trans (dg_length.2 (by rw [Nat.pow_succ, Nat.pow_succ, Nat.pow_one]; exact Nat.lt_of_lt_of_le (Nat.mul_lt_mul'' hcB hcB) (Nat.le_mul_of_pos_right _ B64_pos))) (by decide : 3 ≤ 80000)) HLM.out
        rw [HLM.out] at hdv
        have HDV := Lib.hid hdv
        clear hdv hcB
        refine HDV.out.mono ?_
        rintro en w8 ⟨p5, cs5, q5, ds5, rfl, hq5, hr5, hg5, hf5, hf5', ha5⟩
        have HP5 := Lib.hid ((HP3.out.swap.s23.write2 hq5.buf hr5.buf hg5 hf5 hf5' ha5).swap.s24)
        have HR5 := Lib.hid hr5
        clear hq5 hr5 hg5 hf5 hf5' ha5 HDV
        go_wp2_with fail
        go_roundw
        case rel => exact ⟨j + 1, k, _, _, v', _, q5, pq, p3, p5, ds5, cq, cs3, cs5, lq, _, _, rfl, rfl, rfl, rfl, rfl, by go_num, ⟨HB'.out, HP5.out, HR5.out⟩⟩
        case measure => simp [intOf]; omega
      · have HB' := Lib.hid hb'
        clear hb' HST
        go_wp2_with fail
        have hcB := HCB.out
        have hml := nat_mul pz p3 (some ⟨bx, 0, .none⟩) (.pointer (some ⟨w.heap.size, 0, .none⟩)) (dg c).length (c * c) a cz cs3 dx w7 HP3.out.bb HN3.out (KX.out.apart HP3.out.g HAX.out) (Nat.le_trans (dg_length.2 (by rw [Nat.pow_succ, Nat.pow_one]; exact Nat.mul_lt_mul'' hcB hcB)) (by decide : 2 ≤ 39)) (by rw [HLX.out]; decide) (KT.out.kept HP3.out.g H8.out)
        rw [HLX.out] at hml
        have HML := Lib.hid hml
        clear hml hcB
        refine HML.out.mono ?_
        rintro en w9 ⟨p4, cs4, rfl, hn4, hg4, hf4⟩
        have HP4 := Lib.hid (HP3.out.swap.write hn4.buf hg4 hf4)
        have HN4 := Lib.hid hn4
        clear hn4 hg4 hf4 HML
        go_wp2_with fail
        have hcB := HCB.out
        have hdv := nat_div_word p3 pr p4 (some ⟨bm, 0, .none⟩) (.pointer (some ⟨w.heap.size, 0, .none⟩)) (dg (c * c)).length lr (c * c * a) m cs3 cr cs4 dm w9 HP4.out.bb HP4.out.bc HP4.out.bc' HN4.out (KM.out.apart HP4.out.g HAM.out) (Nat.le_trans (dg_length.2 (by rw [Nat.pow_succ, Nat.pow_succ, Nat.pow_one]; exact Nat.mul_lt_mul'' (Nat.mul_lt_mul'' hcB hcB) AB.out)) (by decide : 3 ≤ 80000)) HLM.out
        rw [HLM.out] at hdv
        have HDV := Lib.hid hdv
        clear hdv hcB
        refine HDV.out.mono ?_
        rintro en w8 ⟨p5, cs5, q5, ds5, rfl, hq5, hr5, hg5, hf5, hf5', ha5⟩
        have HP5 := Lib.hid ((HP4.out.swap.s23.write2 hq5.buf hr5.buf hg5 hf5 hf5' ha5).swap.s24)
        have HR5 := Lib.hid hr5
        clear hq5 hr5 hg5 hf5 hf5' ha5 HDV
        go_wp2_with fail
        go_roundw
        case rel => exact ⟨j + 1, k, _, _, v', _, q5, pq, p4, p5, ds5, cq, cs4, cs5, lq, _, _, rfl, rfl, rfl, rfl, rfl, by go_num, ⟨HB'.out, HP5.out, HR5.out⟩⟩
        case measure => simp [intOf]; omega
end Go.Proofs.YtohhkjamddojmaaGreatDoor.Big
