/- Powers modulo a word, of Ints, for every exponent of a word. BitLen of a number of 16 bits. -/
import Derived.Test.YtohhkjamddojmaaGreatDoorXB
import Derived.Test.YtohhkjamddojmaaGreatDoorIJ
import Derived.Lib.EndianBits
namespace Go.Proofs.YtohhkjamddojmaaGreatDoor.Big
open Go.RowKit
attribute [local go_sem] ptr

section
variable {R : Nat → Prop} {w0 w : World} {L : List (Nat × Int)}
set_option maxHeartbeats 4000000 in
set_option maxRecDepth 100000 in
theorem expAnyO (h : Own R w0 w L) (i j k o : Nat) {z x y m : Nat} {v : Int} (a e n : Nat) (hi : L[i]? = some (z, v)) (hj : L[j]? = some (x, (a : Int))) (hk : L[k]? = some (y, (e : Int))) (ho : L[o]? = some (m, (n : Int))) (hio : i ≠ o) (hR : ¬ R z)
    (ha : a < B64) (he : e < B64) (hn : n < B64) (hn2 : 2 ≤ n) :
    Calls Tryz.prog 158 #[ptr z, ptr x, ptr y, ptr m, .bool false] w (OpP R w0 z (L.set i (z, ((a ^ e % n : Nat) : Int)))) := by
  obtain ⟨ps, qs, hf⟩ := h.ints
  obtain ⟨v', p, q, hv, hp, hq, oz⟩ := hf.at (at1 hi)
  obtain ⟨a', px, dx, ha', hpx, hqx, ox⟩ := hf.at (at1 hj)
  obtain ⟨e', py, dy, he', hpy, hqy, oy⟩ := hf.at (at1 hk)
  obtain ⟨n', pm, dm, hn', hpm, hqm, om⟩ := hf.at (at1 ho)
  obtain rfl : v = v' := by rw [at2 hi] at hv; exact Option.some.inj hv
  obtain rfl : (a : Int) = a' := by rw [at2 hj] at ha'; exact Option.some.inj ha'
  obtain rfl : (e : Int) = e' := by rw [at2 hk] at he'; exact Option.some.inj he'
  obtain rfl : (n : Int) = n' := by rw [at2 ho] at hn'; exact Option.some.inj hn'
  have hpz : blk p ≠ some z := hf.zp i i z p (at1 hi) hp
  have hap : Apart p pm := fun c h1 h2 => hio (hf.pp i o p pm c hp hpm h1 h2)
  have h8 : ∀ b, blk p = some b → 8 ≤ b := fun b hb => by
    rcases Nat.lt_or_ge b 8 with h1 | h1
    · exact absurd (h.low b h1) (hf.own i z p (at1 hi) hp hR b hb)
    · exact h1
  have nx := ox.num
  have ny := oy.num
  have nm := om.num
  have hx1 := ox.str.cell1
  have hy1 := oy.str.cell1
  have hm1 := om.str.cell1
  rw [Int.natAbs_natCast] at nx ny nm hx1 hy1 hm1
  have HOP := Lib.hid fun d => expNN_any p px py pm (dg v.natAbs).length a e n q dx dy dm (w.drewN d) (oz.num.buf.kept (grown_drewN _ _ .none) (fun _ _ => by simp)) (nx.kept (grown_drewN _ _ .none) (fun _ _ => by simp)) (ny.kept (grown_drewN _ _ .none) (fun _ _ => by simp)) (nm.kept (grown_drewN _ _ .none) (fun _ _ => by simp)) hap ha he hn hn2 (h.tab.kept (grown_drewN _ _ .none) (fun _ e => by cases e)) h8
  have hee := fun d => eq_int_other (w := w.drewN d) oz.str om.str (h.inj hi ho hio)
  have hal := fun d => nat_alias p pm (dg v.natAbs).length (dg n).length q dm (w.drewN d) (oz.num.buf.kept (grown_drewN _ _ .none) (fun _ _ => by simp)) (nm.buf.kept (grown_drewN _ _ .none) (fun _ _ => by simp))
  rw [al_apart oz.num.buf hap] at hal
  have HAL := Lib.hid fun d => Calls.quiet_of (w := w) (n := d) (hal d)
  have hz1 := oz.str.cell1
  have hy0 := oy.str.cell0
  have dy0 : decide ((e : Int) < 0) = false := by simp
  rw [dy0] at hy0
  have da0 : decide ((a : Int) < 0) = false := by simp
  have hx0 : ∀ wx, AbsDone w z p (decide (v < 0)) (a ^ e % n) wx → wx.cell? ⟨x, 0, .none⟩ = some (.bool false) := by
    rintro wx ⟨p', q', h1, h2, h3, h4, h5⟩
    by_cases hxz : x = z
    · subst hxz
      have e := ox.str.cell0
      rw [oz.str.cell0, da0] at e
      rw [h1.cell0, Option.some.inj e]
    · rw [(ox.str.grow h3 (by rintro (e | e); exact hxz e; exact hf.zp j i x p (at1 hj) hp e)).cell0, da0]
  have HX0 := Lib.hid hx0
  have HS := Lib.hid h
  have HF := Lib.hid hf
  have HSZ := Lib.hid oz.str
  have HPZ := Lib.hid hpz
  have HHI := Lib.hid hi
  have HHP := Lib.hid hp
  have HHR := Lib.hid hR
  have hmle : (1 : Int) ≤ ((dg n).length : Int) := by have := dg_pos_length (a := n) (by omega); omega
  clear h hi hj hk ho hio hR ha he hn hn2 hf hv hp hq oz ha' hpx hqx ox he' hpy hqy oy hn' hpm hqm om hpz hap h8 nx ny nm hal dy0 da0 hx0
  unfold ptr at *
  go_enter Tryz.func158, Tryz.ntmps158
  go_wp2_with fail
  go_quiet ((go_at_call 156; exact HAL.out _))
  go_upto_region 15 with fail
  clear hee
  go_cut [] from 15 (fun wx => AbsDone w z p (decide (v < 0)) (a ^ e % n) wx)
  case first =>
    go_wp2_with fail
    refine (HOP.out _).mono ?_
    rintro en w1 ⟨p', q', rfl, hn, hg, hf⟩
    have hsz := HSZ.out.grow ((Grow.none (grown_drewN w _ .none) _).trans (Grow.of hg)) HPZ.out
    have hc1 := hsz.cell1
    have hf1 := hsz.free 1
    have HN := Lib.hid hn
    have HG := Lib.hid hg
    have HFr := Lib.hid hf
    clear hn hg hf hsz
    go_wp2_with fail
    go_meet
    case rel => exact AbsDone.of HSZ.out HPZ.out (grown_drewN _ _ _) HN.out HG.out HFr.out
  case rest =>
    have HA := Lib.hid hcut
    have hx0 := HX0.out _ hcut
    obtain ⟨p', q', h1, h2, h3, h4, h5⟩ := hcut
    have hc0 := h1.cell0
    have hc1 := h1.cell1
    have hf0 := h1.free 0
    clear h1 h2 h3 h4 h5 hz1 hx1 hy1 hm1 hy0
    have fin : ∀ wx', wx' = wc.setCell ⟨z, 0, .none⟩ (.bool false) → OpP R w0 z (L.set i (z, ((a ^ e % n : Nat) : Int))) (.returned (ptr z)) wx' := by
      rintro _ rfl
      have := HA.out.finish (v := ((a ^ e % n : Nat) : Int)) (b := false) HF.out (at1 HHI.out) HHP.out HHR.out (by rw [Int.natAbs_natCast]) (decide_eq_false (Int.not_lt.2 (Int.natCast_nonneg _))).symm
      exact ⟨rfl, HS.out.step this.1 this.2 (set1 HHI.out _) (set2 L i z _)⟩
    have FIN := Lib.hid fin
    clear fin
    generalize (dg (a ^ e % n)).length = len at *
    by_cases hl : 0 < len
    · go_wp2_with fail
      go_ret
      exact FIN.out _ rfl
    · go_wp2_with fail
      go_ret
      exact FIN.out _ rfl
set_option maxHeartbeats 1000000 in
theorem ExpAnyO (h : Own R w0 w L) (i j k o : Nat) {z x y m : Nat} {v : Int} (a e n : Nat) (hi : L[i]? = some (z, v)) (hj : L[j]? = some (x, (a : Int))) (hk : L[k]? = some (y, (e : Int))) (ho : L[o]? = some (m, (n : Int))) (hio : i ≠ o) (hR : ¬ R z)
    (ha : a < B64) (he : e < B64) (hn : n < B64) (hn2 : 2 ≤ n) :
    Calls Tryz.prog 126 #[ptr z, ptr x, ptr y, ptr m] w (OpP R w0 z (L.set i (z, ((a ^ e % n : Nat) : Int)))) := by
  have HC := Lib.hid (expAnyO h i j k o a e n hi hj hk ho hio hR ha he hn hn2)
  clear h hi hj hk ho hio hR ha he hn hn2
  unfold ptr at *
  go_enter Tryz.func126, Tryz.ntmps126
  go_wp2_with fail
  refine HC.out.mono ?_
  rintro en w1 ⟨rfl, h1⟩
  have H1 := Lib.hid h1
  clear h1
  go_wp2_with fail
  go_ret
  exact ⟨rfl, H1.out⟩
end
end Go.Proofs.YtohhkjamddojmaaGreatDoor.Big

namespace Go.Proofs.YtohhkjamddojmaaGreatDoor.Big
open Go.RowKit
attribute [local go_sem] ptr

theorem or16 (t d : Nat) (h : 32768 ≤ t ∧ t < 65536) : ∃ t' : Nat, bits .or .u64 (t : Int) (((t / d : Nat)) : Int) = (t' : Int) ∧ 32768 ≤ t' ∧ t' < 65536 := by
  have hd : t / d < 65536 := Nat.lt_of_le_of_lt (Nat.div_le_self _ _) h.2
  refine ⟨t ||| (t / d), (bits_nat .u64 64 (by decide) (fun n h₀ h₁ => wraps_u64 n h₀ h₁) t (t / d) (by omega) (by omega)).2, Nat.le_trans h.1 Nat.left_le_or, ?_⟩
  exact Nat.or_lt_two_pow (n := 16) h.2 hd
theorem len16 {t : Nat} (h : 32768 ≤ t ∧ t < 65536) : Lib.bitLen t = 16 := by
  rw [Lib.bitLen_shift 15 t (by omega) (by omega), show t / 2 ^ 15 = 1 by omega]
  rfl
set_option maxHeartbeats 2000000 in
set_option maxRecDepth 100000 in
theorem nat_bitLen16 (p : Option Addr) (q : Nat) (ds : List Nat) (w : World) (hx : Num w p (dg q) ds) (h : 32768 ≤ q ∧ q < 65536) :
    Calls Tryz.prog 154 #[.slice p (dg q).length ds.length] w (fun e w' => e = .returned (.int .i64 16) ∧ w = w') := by
  have hl : (dg q).length = 1 := by rw [dg_one (by unfold B64; omega)]; unfold word1; rw [if_neg (by omega)]; rfl
  obtain ⟨b, rfl, -, hc⟩ := hx.cell (by omega)
  have hc := hc 0 (by omega)
  rw [(dg_of_one hl).1] at hc
  have hcc := hx.le
  rw [hl] at hcc ⊢
  obtain ⟨t1, e1, r1⟩ := or16 q 2 h
  obtain ⟨t2, e2, r2⟩ := or16 t1 4 r1
  obtain ⟨t3, e3, r3⟩ := or16 t2 16 r2
  obtain ⟨t4, e4, r4⟩ := or16 t3 256 r3
  obtain ⟨t5, e5, r5⟩ := or16 t4 65536 r4
  obtain ⟨t6, e6, r6⟩ := or16 t5 (65536 * 65536) r5
  have HL := Lib.hid (Tryz.bits_Len (t6 : Int) w (by omega) (by omega))
  rw [Int.toNat_natCast, len16 r6] at HL
  have e6' : bits .or .u64 (t5 : Int) ((t5 : Int) / 65536 / 65536) = (t6 : Int) := by rw [Int.ediv_ediv_of_nonneg (by decide)]; exact e6
  have e1' : bits .or .u64 (q : Int) ((q : Int) / 2) = (t1 : Int) := e1
  have e2' : bits .or .u64 (t1 : Int) ((t1 : Int) / 4) = (t2 : Int) := e2
  have e3' : bits .or .u64 (t2 : Int) ((t2 : Int) / 16) = (t3 : Int) := e3
  have e4' : bits .or .u64 (t3 : Int) ((t3 : Int) / 256) = (t4 : Int) := e4
  have e5' : bits .or .u64 (t4 : Int) ((t4 : Int) / 65536) = (t5 : Int) := e5
  clear e1 e2 e3 e4 e5
  clear hx hl r1 r2 r3 r4 r5 r6 e6 h
  unfold wd at *
  go_enter Tryz.func154, Tryz.ntmps154
  go_wp2_with fail
  refine HL.out.mono ?_
  rintro e w1 ⟨rfl, rfl⟩
  go_wp2_with fail
  go_ret
  exact ⟨rfl, rfl⟩
section
variable {R : Nat → Prop} {w0 w : World} {L : List (Nat × Int)}
set_option maxHeartbeats 1000000 in
theorem bitLen16O (h : Own R w0 w L) (j q : Nat) {x : Nat} (hj : L[j]? = some (x, (q : Int))) (hq : 32768 ≤ q ∧ q < 65536) :
    Calls Tryz.prog 123 #[ptr x] w (fun e w' => e = .returned (.int .i64 16) ∧ w = w') := by
  obtain ⟨ps, qs, hf⟩ := h.ints
  obtain ⟨a', px, dx, ha', hpx, hqx, ox⟩ := hf.at (at1 hj)
  obtain rfl : (q : Int) = a' := by rw [at2 hj] at ha'; exact Option.some.inj ha'
  have hx1 := ox.str.cell1
  have hn := ox.num
  rw [Int.natAbs_natCast] at hx1 hn
  have HB := Lib.hid (nat_bitLen16 px q dx w hn hq)
  clear h hf hj ha' hpx hqx ox hn hq
  unfold ptr
  go_enter Tryz.func123, Tryz.ntmps123
  go_wp2_with fail
  refine HB.out.mono ?_
  rintro e w1 ⟨rfl, rfl⟩
  go_wp2_with fail
  go_ret
  exact ⟨rfl, rfl⟩
end
end Go.Proofs.YtohhkjamddojmaaGreatDoor.Big
