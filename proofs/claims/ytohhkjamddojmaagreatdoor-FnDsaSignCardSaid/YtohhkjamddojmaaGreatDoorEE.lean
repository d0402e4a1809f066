/- Powers modulo a word, of natural numbers: all cases. Powers modulo a word, of Ints. -/
import Derived.Test.YtohhkjamddojmaaGreatDoorExpA
import Derived.Test.YtohhkjamddojmaaGreatDoorExpC
namespace Go.Proofs.YtohhkjamddojmaaGreatDoor.Big
open Go.RowKit

theorem expNN (p px py pm : Option Addr) (l a e m : Nat) (cs dx dy dm : List Nat) (w : World) (h : Buf w p cs) (hx : Num w px (dg a) dx) (hy : Num w py (dg e) dy) (hm : Num w pm (dg m) dm) (hap : Apart p pm) (ha : a < B64) (he : e < B64) (he2 : 2 ≤ e) (hmB : m < B64) (hm2 : 2 ≤ m) (htab : Tab w) (h8 : ∀ b, blk p = some b → 8 ≤ b) :
    Calls Tryz.prog 179 #[.slice p l cs.length, .pointer .none, .slice px (dg a).length dx.length, .slice py (dg e).length dy.length, .slice pm (dg m).length dm.length, .bool false] w (NumP p (dg (a ^ e % m)) w) := by
  match a, ha, hx with
  | 0, _, hx =>
    cases h1 : al p px cs with
    | true => exact expNN_wordB0 p px py pm l e m cs dx dy dm w h hx hy hm h1 he he2 hmB hm2
    | false =>
      cases h2 : al p py cs with
      | true => exact expNN_wordC0 p px py pm l e m cs dx dy dm w h hx hy hm h1 h2 he he2 hmB hm2
      | false => exact expNN_wordA0 p px py pm l e m cs dx dy dm w h hx hy hm h1 h2 he he2 hmB hm2
  | 1, _, hx =>
    cases h1 : al p px cs with
    | true => exact expNN_wordB1 p px py pm l e m cs dx dy dm w h hx hy hm h1 he he2 hmB hm2
    | false =>
      cases h2 : al p py cs with
      | true => exact expNN_wordC1 p px py pm l e m cs dx dy dm w h hx hy hm h1 h2 he he2 hmB hm2
      | false => exact expNN_wordA1 p px py pm l e m cs dx dy dm w h hx hy hm h1 h2 he he2 hmB hm2
  | a + 2, ha, hx =>
    cases h1 : al p px cs with
    | true => exact expNN_wordB p px py pm l (a + 2) e m cs dx dy dm w h hx hy hm hap h1 ha (by omega) he he2 hmB hm2 htab h8
    | false =>
      cases h2 : al p py cs with
      | true => exact expNN_wordC p px py pm l (a + 2) e m cs dx dy dm w h hx hy hm hap h1 h2 ha (by omega) he he2 hmB hm2 htab h8
      | false => exact expNN_wordA p px py pm l (a + 2) e m cs dx dy dm w h hx hy hm hap h1 h2 ha (by omega) he he2 hmB hm2 htab h8
end Go.Proofs.YtohhkjamddojmaaGreatDoor.Big

namespace Go.Proofs.YtohhkjamddojmaaGreatDoor.Big
open Go.RowKit

section
variable {R : Nat → Prop} {w0 w : World} {L : List (Nat × Int)}
set_option maxHeartbeats 4000000 in
set_option maxRecDepth 100000 in
theorem expO (h : Own R w0 w L) (i j k o : Nat) {z x y m : Nat} {v : Int} (a e n : Nat) (hi : L[i]? = some (z, v)) (hj : L[j]? = some (x, (a : Int))) (hk : L[k]? = some (y, (e : Int))) (ho : L[o]? = some (m, (n : Int))) (hio : i ≠ o) (hR : ¬ R z)
    (ha : a < B64) (he : e < B64) (he2 : 2 ≤ e) (hn : n < B64) (hn2 : 2 ≤ n) :
    Calls Tryz.prog 158 #[ptr z, ptr x, ptr y, ptr m, .bool false] w (OpP R w0 z (L.set i (z, ((a ^ e % n : Nat) : Int)))) := by
  obtain ⟨ps, qs, hf⟩ := h.ints
  obtain ⟨v', p, q, hv, hp, hq, oz⟩ := hf.at (at1 hi)
  obtain ⟨a', px, dx, ha', hpx, hqx, ox⟩ := hf.at (at1 hj)
  obtain ⟨e', py, dy, he', hpy, hqy, oy⟩ := hf.at (at1 hk)
  obtain ⟨n', pm, dm, hn', hpm, hqm, om⟩ := hf.at (at1 ho)
  obtain rfl : v = v' := by rw [at2 hi] at hv; exact Option.some.inj hv
  obtain rfl : (a : Int) = a' := by rw [at2 hj] at ha'; exact Option.some.inj ha'
  obtain rfl : (e : Int) = e' := by rw [at2 hk] at he'; exact Option.some.inj he'
  obtain rfl : (n : Int) = n' := by rw [at2 ho] at hn'; exact Option.some.inj hn'
  have hpz : blk p ≠ some z := hf.zp i i z p (at1 hi) hp
  have hap : Apart p pm := fun c h1 h2 => hio (hf.pp i o p pm c hp hpm h1 h2)
  have h8 : ∀ b, blk p = some b → 8 ≤ b := fun b hb => by
    rcases Nat.lt_or_ge b 8 with h1 | h1
    · exact absurd (h.low b h1) (hf.own i z p (at1 hi) hp hR b hb)
    · exact h1
  have nx := ox.num
  have ny := oy.num
  have nm := om.num
  have hx1 := ox.str.cell1
  have hy1 := oy.str.cell1
  have hm1 := om.str.cell1
  rw [Int.natAbs_natCast] at nx ny nm hx1 hy1 hm1
  have HOP := Lib.hid fun d => expNN p px py pm (dg v.natAbs).length a e n q dx dy dm (w.drewN d) (oz.num.buf.kept (grown_drewN _ _ .none) (fun _ _ => by simp)) (nx.kept (grown_drewN _ _ .none) (fun _ _ => by simp)) (ny.kept (grown_drewN _ _ .none) (fun _ _ => by simp)) (nm.kept (grown_drewN _ _ .none) (fun _ _ => by simp)) hap ha he he2 hn hn2 (h.tab.kept (grown_drewN _ _ .none) (fun _ e => by cases e)) h8
  have hee := fun d => eq_int_other (w := w.drewN d) oz.str om.str (h.inj hi ho hio)
  have hal := fun d => nat_alias p pm (dg v.natAbs).length (dg n).length q dm (w.drewN d) (oz.num.buf.kept (grown_drewN _ _ .none) (fun _ _ => by simp)) (nm.buf.kept (grown_drewN _ _ .none) (fun _ _ => by simp))
  rw [al_apart oz.num.buf hap] at hal
  have HAL := Lib.hid fun d => Calls.quiet_of (w := w) (n := d) (hal d)
  have hz1 := oz.str.cell1
  have hy0 := oy.str.cell0
  have dy0 : decide ((e : Int) < 0) = false := by simp
  rw [dy0] at hy0
  have da0 : decide ((a : Int) < 0) = false := by simp
  have hx0 : ∀ wx, AbsDone w z p (decide (v < 0)) (a ^ e % n) wx → wx.cell? ⟨x, 0, .none⟩ = some (.bool false) := by
    rintro wx ⟨p', q', h1, h2, h3, h4, h5⟩
    by_cases hxz : x = z
    · subst hxz
      have e := ox.str.cell0
      rw [oz.str.cell0, da0] at e
      rw [h1.cell0, Option.some.inj e]
    · rw [(ox.str.grow h3 (by rintro (e | e); exact hxz e; exact hf.zp j i x p (at1 hj) hp e)).cell0, da0]
  have HX0 := Lib.hid hx0
  have HS := Lib.hid h
  have HF := Lib.hid hf
  have HSZ := Lib.hid oz.str
  have HPZ := Lib.hid hpz
  have HHI := Lib.hid hi
  have HHP := Lib.hid hp
  have HHR := Lib.hid hR
  have hmle : (1 : Int) ≤ ((dg n).length : Int) := by have := dg_pos_length (a := n) (by omega); omega
  clear h hi hj hk ho hio hR ha he he2 hn hn2 hf hv hp hq oz ha' hpx hqx ox he' hpy hqy oy hn' hpm hqm om hpz hap h8 nx ny nm hal dy0 da0 hx0
  unfold ptr at *
  go_enter Tryz.func158, Tryz.ntmps158
  go_wp2_with fail
  go_quiet ((go_at_call 156; exact HAL.out _))
  go_upto_region 15 with fail
  clear hee
  go_cut [] from 15 (fun wx => AbsDone w z p (decide (v < 0)) (a ^ e % n) wx)
  case first =>
    go_wp2_with fail
    refine (HOP.out _).mono ?_
    rintro en w1 ⟨p', q', rfl, hn, hg, hf⟩
    have hsz := HSZ.out.grow ((Grow.none (grown_drewN w _ .none) _).trans (Grow.of hg)) HPZ.out
    have hc1 := hsz.cell1
    have hf1 := hsz.free 1
    have HN := Lib.hid hn
    have HG := Lib.hid hg
    have HFr := Lib.hid hf
    clear hn hg hf hsz
    go_wp2_with fail
    go_meet
    case rel => exact AbsDone.of HSZ.out HPZ.out (grown_drewN _ _ _) HN.out HG.out HFr.out
  case rest =>
    have HA := Lib.hid hcut
    have hx0 := HX0.out _ hcut
    obtain ⟨p', q', h1, h2, h3, h4, h5⟩ := hcut
    have hc0 := h1.cell0
    have hc1 := h1.cell1
    have hf0 := h1.free 0
    clear h1 h2 h3 h4 h5 hz1 hx1 hy1 hm1 hy0
    have fin : ∀ wx', wx' = wc.setCell ⟨z, 0, .none⟩ (.bool false) → OpP R w0 z (L.set i (z, ((a ^ e % n : Nat) : Int))) (.returned (ptr z)) wx' := by
      rintro _ rfl
      have := HA.out.finish (v := ((a ^ e % n : Nat) : Int)) (b := false) HF.out (at1 HHI.out) HHP.out HHR.out (by rw [Int.natAbs_natCast]) (decide_eq_false (Int.not_lt.2 (Int.natCast_nonneg _))).symm
      exact ⟨rfl, HS.out.step this.1 this.2 (set1 HHI.out _) (set2 L i z _)⟩
    have FIN := Lib.hid fin
    clear fin
    generalize (dg (a ^ e % n)).length = len at *
    by_cases hl : 0 < len
    · go_wp2_with fail
      go_ret
      exact FIN.out _ rfl
    · go_wp2_with fail
      go_ret
      exact FIN.out _ rfl
set_option maxHeartbeats 1000000 in
theorem ExpO (h : Own R w0 w L) (i j k o : Nat) {z x y m : Nat} {v : Int} (a e n : Nat) (hi : L[i]? = some (z, v)) (hj : L[j]? = some (x, (a : Int))) (hk : L[k]? = some (y, (e : Int))) (ho : L[o]? = some (m, (n : Int))) (hio : i ≠ o) (hR : ¬ R z)
    (ha : a < B64) (he : e < B64) (he2 : 2 ≤ e) (hn : n < B64) (hn2 : 2 ≤ n) :
    Calls Tryz.prog 126 #[ptr z, ptr x, ptr y, ptr m] w (OpP R w0 z (L.set i (z, ((a ^ e % n : Nat) : Int)))) := by
  have HC := Lib.hid (expO h i j k o a e n hi hj hk ho hio hR ha he he2 hn hn2)
  clear h hi hj hk ho hio hR ha he he2 hn hn2
  unfold ptr at *
  go_enter Tryz.func126, Tryz.ntmps126
  go_wp2_with fail
  refine HC.out.mono ?_
  rintro en w1 ⟨rfl, h1⟩
  have H1 := Lib.hid h1
  clear h1
  go_wp2_with fail
  go_ret
  exact ⟨rfl, H1.out⟩
end
end Go.Proofs.YtohhkjamddojmaaGreatDoor.Big
