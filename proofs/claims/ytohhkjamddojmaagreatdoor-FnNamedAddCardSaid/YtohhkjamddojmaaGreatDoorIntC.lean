/- Sums of Ints. Sums and differences of Ints. Differences of Ints. -/
import Derived.Test.YtohhkjamddojmaaGreatDoorWU
set_option maxHeartbeats 16000000
namespace Go.Proofs.YtohhkjamddojmaaGreatDoor.Big
open Go.RowKit
set_option maxRecDepth 100000 in
theorem add_same (R : Nat → Prop) (w : World) (zs : List Nat) (vs : List Int) (ps : List (Option Addr)) (qs : List (List Nat)) (h : Fam R w zs vs ps qs) (i j k z x y : Nat) (a b : Int) (hi : zs[i]? = some z) (hj : zs[j]? = some x) (hk : zs[k]? = some y) (hR : ¬ R z)
 (ha : vs[j]? = some a) (hb : vs[k]? = some b) (hla : (dg a.natAbs).length ≤ 80000) (hlb : (dg b.natAbs).length ≤ 80000) (hs : a < 0 ↔ b < 0) :
 Calls Tryz.prog 130 #[ptr z, ptr x, ptr y] w (IntP R zs (vs.set i (a + b)) z w) := by
 obtain ⟨v, p, q, hv, hp, hq, oz⟩ := h.at hi
 obtain ⟨a', px, dx, ha', hpx, hqx, ox⟩ := h.at hj
 obtain ⟨b', py, dy, hb', hpy, hqy, oy⟩ := h.at hk
 obtain rfl : a = a' := by rw [ha] at ha'; exact Option.some.inj ha'
 obtain rfl : b = b' := by rw [hb] at hb'; exact Option.some.inj hb'
 have hpz : blk p ≠ some z := h.zp i i z p hi hp
 have HOP := Lz fun n => nat_add p px py (dg v.natAbs).length a.natAbs b.natAbs q dx dy (w.drewN n) (oz.num.buf.kept (zzz _ _ .none) (fun _ _ => by simp)) (ox.num.kept (zzz _ _ .none) (fun _ _ => by simp)) (oy.num.kept (zzz _ _ .none) (fun _ _ => by simp)) hla hlb
 have hz1 := oz.str.cell1
 have hx0 := ox.str.cell0
 have hx1 := ox.str.cell1
 have hy0 := oy.str.cell0
 have hy1 := oy.str.cell1
 obtain ⟨na, hna⟩ : ∃ na, na = decide (a < 0) := ⟨_, rfl⟩
 have hd : decide (b < 0) = na := by rw [hna]; by_cases hb0 : b < 0 <;> simp [hs, hb0]
 rw [← hna] at hx0
 rw [hd] at hy0
 have hbb : (na == na) = true := by cases na <;> rfl
 have HF := Lz h
 have HSZ := Lz oz.str
 have HPZ := Lz hpz
 have HHI := Lz hi
 have HHP := Lz hp
 have HHR := Lz hR
 have HR := Lz (show (a + b).natAbs = a.natAbs + b.natAbs by omega)
 have HNB := Lz (show a.natAbs + b.natAbs ≠ 0 → (na) = decide (a + b < 0) by intro h0; rw [hna]; by_cases ha0 : a < 0 <;> simp [ha0] <;> omega)
 clear h hi hj hk hR ha hb ha' hb' hv hp hq hpx hqx hpy hqy oz ox oy hpz hla hlb hna hd hs
 unfold ptr
 go_enter Tryz.func130, Tryz.ntmps130
 go_wp2_with fail
 go_quiet (fail)
 go_wp2_with fail
 go_cut [] from 21 (fun wx => zxz w z p (decide (v < 0)) (a.natAbs + b.natAbs) wx)
 case first =>
  go_region_with (go_at_call 160; refine (HOP.out _).mono ?_; rintro e w1 ⟨p', q', rfl, hn, hg, hf⟩; have hsz := HSZ.out.grow ((Grow.none (zzz w _ .none) _).trans (Grow.of hg)) HPZ.out; have hc1 := hsz.cell1; have hf1 := hsz.free 1; have HN := Lz hn; have HG := Lz hg; have HFr := Lz hf; clear hn hg hf hsz)
  all_goals
   go_wp2_with fail
   go_meet
   case rel => exact zxz.of HSZ.out HPZ.out (zzz _ _ _) HN.out HG.out HFr.out
 case rest =>
  have HA := Lz hcut
  obtain ⟨p', q', h1, h2, h3, h4, h5⟩ := hcut
  have hc0 := h1.cell0
  have hc1 := h1.cell1
  have hf0 := h1.free 0
  clear h1 h2 h3 h4 h5 hz1 hx0 hx1 hy0 hy1 hbb
  have HL := Lz (fun h0 => zyx h0 : a.natAbs + b.natAbs ≠ 0 → 0 < (dg (a.natAbs + b.natAbs)).length)
  generalize (na) = nb at *
  by_cases hr0 : a.natAbs + b.natAbs = 0
  · have e2 : false = decide (a + b < 0) := by have := HR.out; simp; omega
    have E2 := Lz e2
    have hl0 : (dg (a.natAbs + b.natAbs)).length = 0 := by rw [hr0, zyw]; rfl
    rw [hl0] at hc1
    clear e2 hr0 hl0
    go_wp2_with fail
    go_ret
    exact ⟨rfl, HA.out.finish HF.out HHI.out HHP.out HHR.out HR.out E2.out⟩
  · have hl2 : (0 : Int) < ((dg (a.natAbs + b.natAbs)).length : Int) := by have := HL.out hr0; omega
    have E2 := Lz (HNB.out hr0)
    clear hr0
    generalize (dg (a.natAbs + b.natAbs)).length = len at *
    go_wp2_with fail
    go_ret
    exact ⟨rfl, HA.out.finish HF.out HHI.out HHP.out HHR.out HR.out E2.out⟩
set_option maxRecDepth 100000 in
theorem add_ge (R : Nat → Prop) (w : World) (zs : List Nat) (vs : List Int) (ps : List (Option Addr)) (qs : List (List Nat)) (h : Fam R w zs vs ps qs) (i j k z x y : Nat) (a b : Int) (hi : zs[i]? = some z) (hj : zs[j]? = some x) (hk : zs[k]? = some y) (hR : ¬ R z)
 (ha : vs[j]? = some a) (hb : vs[k]? = some b) (hla : (dg a.natAbs).length ≤ 80000) (_hlb : (dg b.natAbs).length ≤ 80000) (hs : a < 0 ↔ ¬ b < 0) (hle : b.natAbs ≤ a.natAbs) :
 Calls Tryz.prog 130 #[ptr z, ptr x, ptr y] w (IntP R zs (vs.set i (a + b)) z w) := by
 obtain ⟨v, p, q, hv, hp, hq, oz⟩ := h.at hi
 obtain ⟨a', px, dx, ha', hpx, hqx, ox⟩ := h.at hj
 obtain ⟨b', py, dy, hb', hpy, hqy, oy⟩ := h.at hk
 obtain rfl : a = a' := by rw [ha] at ha'; exact Option.some.inj ha'
 obtain rfl : b = b' := by rw [hb] at hb'; exact Option.some.inj hb'
 have hpz : blk p ≠ some z := h.zp i i z p hi hp
 have HOP := Lz fun n => nat_sub p px py (dg v.natAbs).length a.natAbs b.natAbs q dx dy (w.drewN n) (oz.num.buf.kept (zzz _ _ .none) (fun _ _ => by simp)) (ox.num.kept (zzz _ _ .none) (fun _ _ => by simp)) (oy.num.kept (zzz _ _ .none) (fun _ _ => by simp)) hla hle
 have hcmp := fun n m => Calls.quiet_of (w := w.drewN n) (n := m) (nat_cmp px py a.natAbs b.natAbs dx dy ((w.drewN n).drewN m) ((ox.num.kept (zzz _ _ .none) (fun _ _ => by simp)).kept (zzz _ _ .none) (fun _ _ => by simp)) ((oy.num.kept (zzz _ _ .none) (fun _ _ => by simp)).kept (zzz _ _ .none) (fun _ _ => by simp)) hla)
 simp only [drewN_drewN] at hcmp
 have HCMP := Lz hcmp
 clear hcmp
 have hsg : 0 ≤ sgn a.natAbs b.natAbs := by unfold sgn; split; omega; split <;> omega
 have hz1 := oz.str.cell1
 have hx0 := ox.str.cell0
 have hx1 := ox.str.cell1
 have hy0 := oy.str.cell0
 have hy1 := oy.str.cell1
 obtain ⟨na, hna⟩ : ∃ na, na = decide (a < 0) := ⟨_, rfl⟩
 have hd : decide (b < 0) = !na := by rw [hna]; by_cases hb0 : b < 0 <;> simp [hs, hb0]
 rw [← hna] at hx0
 rw [hd] at hy0
 have hbb : (na == !na) = false := by cases na <;> rfl
 have HF := Lz h
 have HSZ := Lz oz.str
 have HPZ := Lz hpz
 have HHI := Lz hi
 have HHP := Lz hp
 have HHR := Lz hR
 have HR := Lz (show (a + b).natAbs = a.natAbs - b.natAbs by omega)
 have HNB := Lz (show a.natAbs - b.natAbs ≠ 0 → (na) = decide (a + b < 0) by intro h0; rw [hna]; by_cases ha0 : a < 0 <;> simp [ha0] <;> omega)
 clear h hi hj hk hR ha hb ha' hb' hv hp hq hpx hqx hpy hqy oz ox oy hpz hla _hlb hna hd hs hle
 unfold ptr
 go_enter Tryz.func130, Tryz.ntmps130
 go_wp2_with fail
 go_quiet (fail)
 go_wp2_with fail
 go_quiet ((go_at_call 131; exact HCMP.out _ _))
 go_wp2_with fail
 go_cut [] from 47 (fun wx => zxz w z p (decide (v < 0)) (a.natAbs - b.natAbs) wx)
 case first =>
  go_region_with (go_at_call 161; refine (HOP.out _).mono ?_; rintro e w1 ⟨p', q', rfl, hn, hg, hf⟩; have hsz := HSZ.out.grow ((Grow.none (zzz w _ .none) _).trans (Grow.of hg)) HPZ.out; have hc1 := hsz.cell1; have hf1 := hsz.free 1; have HN := Lz hn; have HG := Lz hg; have HFr := Lz hf; clear hn hg hf hsz)
  all_goals
   go_wp2_with fail
   go_meet
   case rel => exact zxz.of HSZ.out HPZ.out (zzz _ _ _) HN.out HG.out HFr.out
 case rest =>
  have HA := Lz hcut
  obtain ⟨p', q', h1, h2, h3, h4, h5⟩ := hcut
  have hc0 := h1.cell0
  have hc1 := h1.cell1
  have hf0 := h1.free 0
  clear h1 h2 h3 h4 h5 hz1 hx0 hx1 hy0 hy1 hbb
  have HL := Lz (fun h0 => zyx h0 : a.natAbs - b.natAbs ≠ 0 → 0 < (dg (a.natAbs - b.natAbs)).length)
  generalize (na) = nb at *
  by_cases hr0 : a.natAbs - b.natAbs = 0
  · have e2 : false = decide (a + b < 0) := by have := HR.out; simp; omega
    have E2 := Lz e2
    have hl0 : (dg (a.natAbs - b.natAbs)).length = 0 := by rw [hr0, zyw]; rfl
    rw [hl0] at hc1
    clear e2 hr0 hl0
    go_wp2_with fail
    go_ret
    exact ⟨rfl, HA.out.finish HF.out HHI.out HHP.out HHR.out HR.out E2.out⟩
  · have hl2 : (0 : Int) < ((dg (a.natAbs - b.natAbs)).length : Int) := by have := HL.out hr0; omega
    have E2 := Lz (HNB.out hr0)
    clear hr0
    generalize (dg (a.natAbs - b.natAbs)).length = len at *
    go_wp2_with fail
    go_ret
    exact ⟨rfl, HA.out.finish HF.out HHI.out HHP.out HHR.out HR.out E2.out⟩
end Go.Proofs.YtohhkjamddojmaaGreatDoor.Big
namespace Go.Proofs.YtohhkjamddojmaaGreatDoor.Big
open Go.RowKit
set_option maxRecDepth 100000 in
theorem add_lt (R : Nat → Prop) (w : World) (zs : List Nat) (vs : List Int) (ps : List (Option Addr)) (qs : List (List Nat)) (h : Fam R w zs vs ps qs) (i j k z x y : Nat) (a b : Int) (hi : zs[i]? = some z) (hj : zs[j]? = some x) (hk : zs[k]? = some y) (hR : ¬ R z)
 (ha : vs[j]? = some a) (hb : vs[k]? = some b) (hla : (dg a.natAbs).length ≤ 80000) (hlb : (dg b.natAbs).length ≤ 80000) (hs : a < 0 ↔ ¬ b < 0) (hle : a.natAbs < b.natAbs) :
 Calls Tryz.prog 130 #[ptr z, ptr x, ptr y] w (IntP R zs (vs.set i (a + b)) z w) := by
 obtain ⟨v, p, q, hv, hp, hq, oz⟩ := h.at hi
 obtain ⟨a', px, dx, ha', hpx, hqx, ox⟩ := h.at hj
 obtain ⟨b', py, dy, hb', hpy, hqy, oy⟩ := h.at hk
 obtain rfl : a = a' := by rw [ha] at ha'; exact Option.some.inj ha'
 obtain rfl : b = b' := by rw [hb] at hb'; exact Option.some.inj hb'
 have hpz : blk p ≠ some z := h.zp i i z p hi hp
 have HOP := Lz fun n => nat_sub p py px (dg v.natAbs).length b.natAbs a.natAbs q dy dx (w.drewN n) (oz.num.buf.kept (zzz _ _ .none) (fun _ _ => by simp)) (oy.num.kept (zzz _ _ .none) (fun _ _ => by simp)) (ox.num.kept (zzz _ _ .none) (fun _ _ => by simp)) hlb (Nat.le_of_lt hle)
 have hcmp := fun n m => Calls.quiet_of (w := w.drewN n) (n := m) (nat_cmp px py a.natAbs b.natAbs dx dy ((w.drewN n).drewN m) ((ox.num.kept (zzz _ _ .none) (fun _ _ => by simp)).kept (zzz _ _ .none) (fun _ _ => by simp)) ((oy.num.kept (zzz _ _ .none) (fun _ _ => by simp)).kept (zzz _ _ .none) (fun _ _ => by simp)) hla)
 simp only [drewN_drewN] at hcmp
 have HCMP := Lz hcmp
 clear hcmp
 have hsg : ¬ 0 ≤ sgn a.natAbs b.natAbs := by unfold sgn; rw [if_pos hle]; decide
 have hz1 := oz.str.cell1
 have hx0 := ox.str.cell0
 have hx1 := ox.str.cell1
 have hy0 := oy.str.cell0
 have hy1 := oy.str.cell1
 obtain ⟨na, hna⟩ : ∃ na, na = decide (a < 0) := ⟨_, rfl⟩
 have hd : decide (b < 0) = !na := by rw [hna]; by_cases hb0 : b < 0 <;> simp [hs, hb0]
 rw [← hna] at hx0
 rw [hd] at hy0
 have hbb : (na == !na) = false := by cases na <;> rfl
 have HF := Lz h
 have HSZ := Lz oz.str
 have HPZ := Lz hpz
 have HHI := Lz hi
 have HHP := Lz hp
 have HHR := Lz hR
 have HR := Lz (show (a + b).natAbs = b.natAbs - a.natAbs by omega)
 have HNB := Lz (show b.natAbs - a.natAbs ≠ 0 → (!na) = decide (a + b < 0) by intro h0; rw [hna]; by_cases ha0 : a < 0 <;> simp [ha0] <;> omega)
 clear h hi hj hk hR ha hb ha' hb' hv hp hq hpx hqx hpy hqy oz ox oy hpz hla hlb hna hd hs hle
 unfold ptr
 go_enter Tryz.func130, Tryz.ntmps130
 go_wp2_with fail
 go_quiet (fail)
 go_wp2_with fail
 go_quiet ((go_at_call 131; exact HCMP.out _ _))
 go_wp2_with fail
 go_cut [] from 65 (fun wx => zxz w z p (decide (v < 0)) (b.natAbs - a.natAbs) wx)
 case first =>
  go_region_with (go_at_call 161; refine (HOP.out _).mono ?_; rintro e w1 ⟨p', q', rfl, hn, hg, hf⟩; have hsz := HSZ.out.grow ((Grow.none (zzz w _ .none) _).trans (Grow.of hg)) HPZ.out; have hc1 := hsz.cell1; have hf1 := hsz.free 1; have HN := Lz hn; have HG := Lz hg; have HFr := Lz hf; clear hn hg hf hsz)
  all_goals
   go_wp2_with fail
   go_meet
   case rel => exact zxz.of HSZ.out HPZ.out (zzz _ _ _) HN.out HG.out HFr.out
 case rest =>
  have HA := Lz hcut
  obtain ⟨p', q', h1, h2, h3, h4, h5⟩ := hcut
  have hc0 := h1.cell0
  have hc1 := h1.cell1
  have hf0 := h1.free 0
  clear h1 h2 h3 h4 h5 hz1 hx0 hx1 hy0 hy1 hbb
  have HL := Lz (fun h0 => zyx h0 : b.natAbs - a.natAbs ≠ 0 → 0 < (dg (b.natAbs - a.natAbs)).length)
  generalize (!na) = nb at *
  by_cases hr0 : b.natAbs - a.natAbs = 0
  · have e2 : false = decide (a + b < 0) := by have := HR.out; simp; omega
    have E2 := Lz e2
    have hl0 : (dg (b.natAbs - a.natAbs)).length = 0 := by rw [hr0, zyw]; rfl
    rw [hl0] at hc1
    clear e2 hr0 hl0
    go_wp2_with fail
    go_ret
    exact ⟨rfl, HA.out.finish HF.out HHI.out HHP.out HHR.out HR.out E2.out⟩
  · have hl2 : (0 : Int) < ((dg (b.natAbs - a.natAbs)).length : Int) := by have := HL.out hr0; omega
    have E2 := Lz (HNB.out hr0)
    clear hr0
    generalize (dg (b.natAbs - a.natAbs)).length = len at *
    go_wp2_with fail
    go_ret
    exact ⟨rfl, HA.out.finish HF.out HHI.out HHP.out HHR.out HR.out E2.out⟩
set_option maxRecDepth 100000 in
theorem sub_opp (R : Nat → Prop) (w : World) (zs : List Nat) (vs : List Int) (ps : List (Option Addr)) (qs : List (List Nat)) (h : Fam R w zs vs ps qs) (i j k z x y : Nat) (a b : Int) (hi : zs[i]? = some z) (hj : zs[j]? = some x) (hk : zs[k]? = some y) (hR : ¬ R z)
 (ha : vs[j]? = some a) (hb : vs[k]? = some b) (hla : (dg a.natAbs).length ≤ 80000) (hlb : (dg b.natAbs).length ≤ 80000) (hs : a < 0 ↔ ¬ b < 0) :
 Calls Tryz.prog 142 #[ptr z, ptr x, ptr y] w (IntP R zs (vs.set i (a - b)) z w) := by
 obtain ⟨v, p, q, hv, hp, hq, oz⟩ := h.at hi
 obtain ⟨a', px, dx, ha', hpx, hqx, ox⟩ := h.at hj
 obtain ⟨b', py, dy, hb', hpy, hqy, oy⟩ := h.at hk
 obtain rfl : a = a' := by rw [ha] at ha'; exact Option.some.inj ha'
 obtain rfl : b = b' := by rw [hb] at hb'; exact Option.some.inj hb'
 have hpz : blk p ≠ some z := h.zp i i z p hi hp
 have HOP := Lz fun n => nat_add p px py (dg v.natAbs).length a.natAbs b.natAbs q dx dy (w.drewN n) (oz.num.buf.kept (zzz _ _ .none) (fun _ _ => by simp)) (ox.num.kept (zzz _ _ .none) (fun _ _ => by simp)) (oy.num.kept (zzz _ _ .none) (fun _ _ => by simp)) hla hlb
 have hz1 := oz.str.cell1
 have hx0 := ox.str.cell0
 have hx1 := ox.str.cell1
 have hy0 := oy.str.cell0
 have hy1 := oy.str.cell1
 obtain ⟨na, hna⟩ : ∃ na, na = decide (a < 0) := ⟨_, rfl⟩
 have hd : decide (b < 0) = !na := by rw [hna]; by_cases hb0 : b < 0 <;> simp [hs, hb0]
 rw [← hna] at hx0
 rw [hd] at hy0
 have hbb : (na == !na) = false := by cases na <;> rfl
 have HF := Lz h
 have HSZ := Lz oz.str
 have HPZ := Lz hpz
 have HHI := Lz hi
 have HHP := Lz hp
 have HHR := Lz hR
 have HR := Lz (show (a - b).natAbs = a.natAbs + b.natAbs by omega)
 have HNB := Lz (show a.natAbs + b.natAbs ≠ 0 → (na) = decide (a - b < 0) by intro h0; rw [hna]; by_cases ha0 : a < 0 <;> simp [ha0] <;> omega)
 clear h hi hj hk hR ha hb ha' hb' hv hp hq hpx hqx hpy hqy oz ox oy hpz hla hlb hna hd hs
 unfold ptr
 go_enter Tryz.func142, Tryz.ntmps142
 go_wp2_with fail
 go_quiet (fail)
 go_wp2_with fail
 go_cut [] from 21 (fun wx => zxz w z p (decide (v < 0)) (a.natAbs + b.natAbs) wx)
 case first =>
  go_region_with (go_at_call 160; refine (HOP.out _).mono ?_; rintro e w1 ⟨p', q', rfl, hn, hg, hf⟩; have hsz := HSZ.out.grow ((Grow.none (zzz w _ .none) _).trans (Grow.of hg)) HPZ.out; have hc1 := hsz.cell1; have hf1 := hsz.free 1; have HN := Lz hn; have HG := Lz hg; have HFr := Lz hf; clear hn hg hf hsz)
  all_goals
   go_wp2_with fail
   go_meet
   case rel => exact zxz.of HSZ.out HPZ.out (zzz _ _ _) HN.out HG.out HFr.out
 case rest =>
  have HA := Lz hcut
  obtain ⟨p', q', h1, h2, h3, h4, h5⟩ := hcut
  have hc0 := h1.cell0
  have hc1 := h1.cell1
  have hf0 := h1.free 0
  clear h1 h2 h3 h4 h5 hz1 hx0 hx1 hy0 hy1 hbb
  have HL := Lz (fun h0 => zyx h0 : a.natAbs + b.natAbs ≠ 0 → 0 < (dg (a.natAbs + b.natAbs)).length)
  generalize (na) = nb at *
  by_cases hr0 : a.natAbs + b.natAbs = 0
  · have e2 : false = decide (a - b < 0) := by have := HR.out; simp; omega
    have E2 := Lz e2
    have hl0 : (dg (a.natAbs + b.natAbs)).length = 0 := by rw [hr0, zyw]; rfl
    rw [hl0] at hc1
    clear e2 hr0 hl0
    go_wp2_with fail
    go_ret
    exact ⟨rfl, HA.out.finish HF.out HHI.out HHP.out HHR.out HR.out E2.out⟩
  · have hl2 : (0 : Int) < ((dg (a.natAbs + b.natAbs)).length : Int) := by have := HL.out hr0; omega
    have E2 := Lz (HNB.out hr0)
    clear hr0
    generalize (dg (a.natAbs + b.natAbs)).length = len at *
    go_wp2_with fail
    go_ret
    exact ⟨rfl, HA.out.finish HF.out HHI.out HHP.out HHR.out HR.out E2.out⟩
end Go.Proofs.YtohhkjamddojmaaGreatDoor.Big
namespace Go.Proofs.YtohhkjamddojmaaGreatDoor.Big
open Go.RowKit
set_option maxRecDepth 100000 in
theorem sub_ge (R : Nat → Prop) (w : World) (zs : List Nat) (vs : List Int) (ps : List (Option Addr)) (qs : List (List Nat)) (h : Fam R w zs vs ps qs) (i j k z x y : Nat) (a b : Int) (hi : zs[i]? = some z) (hj : zs[j]? = some x) (hk : zs[k]? = some y) (hR : ¬ R z)
 (ha : vs[j]? = some a) (hb : vs[k]? = some b) (hla : (dg a.natAbs).length ≤ 80000) (_hlb : (dg b.natAbs).length ≤ 80000) (hs : a < 0 ↔ b < 0) (hle : b.natAbs ≤ a.natAbs) :
 Calls Tryz.prog 142 #[ptr z, ptr x, ptr y] w (IntP R zs (vs.set i (a - b)) z w) := by
 obtain ⟨v, p, q, hv, hp, hq, oz⟩ := h.at hi
 obtain ⟨a', px, dx, ha', hpx, hqx, ox⟩ := h.at hj
 obtain ⟨b', py, dy, hb', hpy, hqy, oy⟩ := h.at hk
 obtain rfl : a = a' := by rw [ha] at ha'; exact Option.some.inj ha'
 obtain rfl : b = b' := by rw [hb] at hb'; exact Option.some.inj hb'
 have hpz : blk p ≠ some z := h.zp i i z p hi hp
 have HOP := Lz fun n => nat_sub p px py (dg v.natAbs).length a.natAbs b.natAbs q dx dy (w.drewN n) (oz.num.buf.kept (zzz _ _ .none) (fun _ _ => by simp)) (ox.num.kept (zzz _ _ .none) (fun _ _ => by simp)) (oy.num.kept (zzz _ _ .none) (fun _ _ => by simp)) hla hle
 have hcmp := fun n m => Calls.quiet_of (w := w.drewN n) (n := m) (nat_cmp px py a.natAbs b.natAbs dx dy ((w.drewN n).drewN m) ((ox.num.kept (zzz _ _ .none) (fun _ _ => by simp)).kept (zzz _ _ .none) (fun _ _ => by simp)) ((oy.num.kept (zzz _ _ .none) (fun _ _ => by simp)).kept (zzz _ _ .none) (fun _ _ => by simp)) hla)
 simp only [drewN_drewN] at hcmp
 have HCMP := Lz hcmp
 clear hcmp
 have hsg : 0 ≤ sgn a.natAbs b.natAbs := by unfold sgn; split; omega; split <;> omega
 have hz1 := oz.str.cell1
 have hx0 := ox.str.cell0
 have hx1 := ox.str.cell1
 have hy0 := oy.str.cell0
 have hy1 := oy.str.cell1
 obtain ⟨na, hna⟩ : ∃ na, na = decide (a < 0) := ⟨_, rfl⟩
 have hd : decide (b < 0) = na := by rw [hna]; by_cases hb0 : b < 0 <;> simp [hs, hb0]
 rw [← hna] at hx0
 rw [hd] at hy0
 have hbb : (na == na) = true := by cases na <;> rfl
 have HF := Lz h
 have HSZ := Lz oz.str
 have HPZ := Lz hpz
 have HHI := Lz hi
 have HHP := Lz hp
 have HHR := Lz hR
 have HR := Lz (show (a - b).natAbs = a.natAbs - b.natAbs by omega)
 have HNB := Lz (show a.natAbs - b.natAbs ≠ 0 → (na) = decide (a - b < 0) by intro h0; rw [hna]; by_cases ha0 : a < 0 <;> simp [ha0] <;> omega)
 clear h hi hj hk hR ha hb ha' hb' hv hp hq hpx hqx hpy hqy oz ox oy hpz hla _hlb hna hd hs hle
 unfold ptr
 go_enter Tryz.func142, Tryz.ntmps142
 go_wp2_with fail
 go_quiet (fail)
 go_wp2_with fail
 go_quiet ((go_at_call 131; exact HCMP.out _ _))
 go_wp2_with fail
 go_cut [] from 47 (fun wx => zxz w z p (decide (v < 0)) (a.natAbs - b.natAbs) wx)
 case first =>
  go_region_with (go_at_call 161; refine (HOP.out _).mono ?_; rintro e w1 ⟨p', q', rfl, hn, hg, hf⟩; have hsz := HSZ.out.grow ((Grow.none (zzz w _ .none) _).trans (Grow.of hg)) HPZ.out; have hc1 := hsz.cell1; have hf1 := hsz.free 1; have HN := Lz hn; have HG := Lz hg; have HFr := Lz hf; clear hn hg hf hsz)
  all_goals
   go_wp2_with fail
   go_meet
   case rel => exact zxz.of HSZ.out HPZ.out (zzz _ _ _) HN.out HG.out HFr.out
 case rest =>
  have HA := Lz hcut
  obtain ⟨p', q', h1, h2, h3, h4, h5⟩ := hcut
  have hc0 := h1.cell0
  have hc1 := h1.cell1
  have hf0 := h1.free 0
  clear h1 h2 h3 h4 h5 hz1 hx0 hx1 hy0 hy1 hbb
  have HL := Lz (fun h0 => zyx h0 : a.natAbs - b.natAbs ≠ 0 → 0 < (dg (a.natAbs - b.natAbs)).length)
  generalize (na) = nb at *
  by_cases hr0 : a.natAbs - b.natAbs = 0
  · have e2 : false = decide (a - b < 0) := by have := HR.out; simp; omega
    have E2 := Lz e2
    have hl0 : (dg (a.natAbs - b.natAbs)).length = 0 := by rw [hr0, zyw]; rfl
    rw [hl0] at hc1
    clear e2 hr0 hl0
    go_wp2_with fail
    go_ret
    exact ⟨rfl, HA.out.finish HF.out HHI.out HHP.out HHR.out HR.out E2.out⟩
  · have hl2 : (0 : Int) < ((dg (a.natAbs - b.natAbs)).length : Int) := by have := HL.out hr0; omega
    have E2 := Lz (HNB.out hr0)
    clear hr0
    generalize (dg (a.natAbs - b.natAbs)).length = len at *
    go_wp2_with fail
    go_ret
    exact ⟨rfl, HA.out.finish HF.out HHI.out HHP.out HHR.out HR.out E2.out⟩
set_option maxRecDepth 100000 in
theorem sub_lt (R : Nat → Prop) (w : World) (zs : List Nat) (vs : List Int) (ps : List (Option Addr)) (qs : List (List Nat)) (h : Fam R w zs vs ps qs) (i j k z x y : Nat) (a b : Int) (hi : zs[i]? = some z) (hj : zs[j]? = some x) (hk : zs[k]? = some y) (hR : ¬ R z)
 (ha : vs[j]? = some a) (hb : vs[k]? = some b) (hla : (dg a.natAbs).length ≤ 80000) (hlb : (dg b.natAbs).length ≤ 80000) (hs : a < 0 ↔ b < 0) (hle : a.natAbs < b.natAbs) :
 Calls Tryz.prog 142 #[ptr z, ptr x, ptr y] w (IntP R zs (vs.set i (a - b)) z w) := by
 obtain ⟨v, p, q, hv, hp, hq, oz⟩ := h.at hi
 obtain ⟨a', px, dx, ha', hpx, hqx, ox⟩ := h.at hj
 obtain ⟨b', py, dy, hb', hpy, hqy, oy⟩ := h.at hk
 obtain rfl : a = a' := by rw [ha] at ha'; exact Option.some.inj ha'
 obtain rfl : b = b' := by rw [hb] at hb'; exact Option.some.inj hb'
 have hpz : blk p ≠ some z := h.zp i i z p hi hp
 have HOP := Lz fun n => nat_sub p py px (dg v.natAbs).length b.natAbs a.natAbs q dy dx (w.drewN n) (oz.num.buf.kept (zzz _ _ .none) (fun _ _ => by simp)) (oy.num.kept (zzz _ _ .none) (fun _ _ => by simp)) (ox.num.kept (zzz _ _ .none) (fun _ _ => by simp)) hlb (Nat.le_of_lt hle)
 have hcmp := fun n m => Calls.quiet_of (w := w.drewN n) (n := m) (nat_cmp px py a.natAbs b.natAbs dx dy ((w.drewN n).drewN m) ((ox.num.kept (zzz _ _ .none) (fun _ _ => by simp)).kept (zzz _ _ .none) (fun _ _ => by simp)) ((oy.num.kept (zzz _ _ .none) (fun _ _ => by simp)).kept (zzz _ _ .none) (fun _ _ => by simp)) hla)
 simp only [drewN_drewN] at hcmp
 have HCMP := Lz hcmp
 clear hcmp
 have hsg : ¬ 0 ≤ sgn a.natAbs b.natAbs := by unfold sgn; rw [if_pos hle]; decide
 have hz1 := oz.str.cell1
 have hx0 := ox.str.cell0
 have hx1 := ox.str.cell1
 have hy0 := oy.str.cell0
 have hy1 := oy.str.cell1
 obtain ⟨na, hna⟩ : ∃ na, na = decide (a < 0) := ⟨_, rfl⟩
 have hd : decide (b < 0) = na := by rw [hna]; by_cases hb0 : b < 0 <;> simp [hs, hb0]
 rw [← hna] at hx0
 rw [hd] at hy0
 have hbb : (na == na) = true := by cases na <;> rfl
 have HF := Lz h
 have HSZ := Lz oz.str
 have HPZ := Lz hpz
 have HHI := Lz hi
 have HHP := Lz hp
 have HHR := Lz hR
 have HR := Lz (show (a - b).natAbs = b.natAbs - a.natAbs by omega)
 have HNB := Lz (show b.natAbs - a.natAbs ≠ 0 → (!na) = decide (a - b < 0) by intro h0; rw [hna]; by_cases ha0 : a < 0 <;> simp [ha0] <;> omega)
 clear h hi hj hk hR ha hb ha' hb' hv hp hq hpx hqx hpy hqy oz ox oy hpz hla hlb hna hd hs hle
 unfold ptr
 go_enter Tryz.func142, Tryz.ntmps142
 go_wp2_with fail
 go_quiet (fail)
 go_wp2_with fail
 go_quiet ((go_at_call 131; exact HCMP.out _ _))
 go_wp2_with fail
 go_cut [] from 65 (fun wx => zxz w z p (decide (v < 0)) (b.natAbs - a.natAbs) wx)
 case first =>
  go_region_with (go_at_call 161; refine (HOP.out _).mono ?_; rintro e w1 ⟨p', q', rfl, hn, hg, hf⟩; have hsz := HSZ.out.grow ((Grow.none (zzz w _ .none) _).trans (Grow.of hg)) HPZ.out; have hc1 := hsz.cell1; have hf1 := hsz.free 1; have HN := Lz hn; have HG := Lz hg; have HFr := Lz hf; clear hn hg hf hsz)
  all_goals
   go_wp2_with fail
   go_meet
   case rel => exact zxz.of HSZ.out HPZ.out (zzz _ _ _) HN.out HG.out HFr.out
 case rest =>
  have HA := Lz hcut
  obtain ⟨p', q', h1, h2, h3, h4, h5⟩ := hcut
  have hc0 := h1.cell0
  have hc1 := h1.cell1
  have hf0 := h1.free 0
  clear h1 h2 h3 h4 h5 hz1 hx0 hx1 hy0 hy1 hbb
  have HL := Lz (fun h0 => zyx h0 : b.natAbs - a.natAbs ≠ 0 → 0 < (dg (b.natAbs - a.natAbs)).length)
  generalize (!na) = nb at *
  by_cases hr0 : b.natAbs - a.natAbs = 0
  · have e2 : false = decide (a - b < 0) := by have := HR.out; simp; omega
    have E2 := Lz e2
    have hl0 : (dg (b.natAbs - a.natAbs)).length = 0 := by rw [hr0, zyw]; rfl
    rw [hl0] at hc1
    clear e2 hr0 hl0
    go_wp2_with fail
    go_ret
    exact ⟨rfl, HA.out.finish HF.out HHI.out HHP.out HHR.out HR.out E2.out⟩
  · have hl2 : (0 : Int) < ((dg (b.natAbs - a.natAbs)).length : Int) := by have := HL.out hr0; omega
    have E2 := Lz (HNB.out hr0)
    clear hr0
    generalize (dg (b.natAbs - a.natAbs)).length = len at *
    go_wp2_with fail
    go_ret
    exact ⟨rfl, HA.out.finish HF.out HHI.out HHP.out HHR.out HR.out E2.out⟩
end Go.Proofs.YtohhkjamddojmaaGreatDoor.Big
