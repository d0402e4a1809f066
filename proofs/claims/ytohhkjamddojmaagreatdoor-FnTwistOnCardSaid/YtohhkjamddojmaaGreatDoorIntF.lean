/- Products of Ints. -/
import Derived.Test.YtohhkjamddojmaaGreatDoorWU
import Derived.BigRegion
namespace Go.Proofs.YtohhkjamddojmaaGreatDoor.Big
open Go.RowKit

theorem under108 : Tryz.prog.underlying 108 = some (.pointer 172) := by kernel_rfl
theorem info172 : (Tryz.prog.info? 172).map (fun i => i.size) = some 2 := by kernel_rfl
theorem eq_int_same (w : World) (z : Nat) : (binOp .eql 108 (ptr z) (ptr z)).run Tryz.prog w = .ok (.bool true) w := by
  obtain ⟨j, hj, _⟩ := Option.map_eq_some_iff.1 info172
  exact eql_ptr_same w _ under108 hj
theorem eq_int_other {w : World} {x y : Nat} {n1 n2 : Bool} {p1 p2 : Option Addr} {l1 l2 c1 c2 : Nat} (hx : StrB w x n1 p1 l1 c1) (hy : StrB w y n2 p2 l2 c2) (hne : x ≠ y) : (binOp .eql 108 (ptr x) (ptr y)).run Tryz.prog w = .ok (.bool false) w := by
  obtain ⟨j, hj, hs⟩ := Option.map_eq_some_iff.1 info172
  exact eql_ptr_other (w := w) under108 hj (by rw [hs]; decide) (by intro e; simp only [Addr.mk.injEq] at e; exact hne e.1) hx hy

theorem sq_nonneg (a : Int) : 0 ≤ a * a := by
  rcases Int.le_total 0 a with h | h
  · exact Int.mul_nonneg h h
  · have := Int.mul_nonneg (Int.neg_nonneg_of_nonpos h) (Int.neg_nonneg_of_nonpos h)
    rwa [Int.neg_mul_neg] at this
theorem sign_mul (a b : Int) (h : a.natAbs * b.natAbs ≠ 0) : (decide (a < 0) != decide (b < 0)) = decide (a * b < 0) := by
  have ha : a ≠ 0 := by rintro rfl; simp at h
  have hb : b ≠ 0 := by rintro rfl; simp at h
  rcases Int.lt_or_gt_of_ne ha with h1 | h1 <;> rcases Int.lt_or_gt_of_ne hb with h2 | h2
  · have := Int.mul_pos_of_neg_of_neg h1 h2
    simp [h1, h2]; omega
  · have := Int.mul_neg_of_neg_of_pos h1 h2
    have h3 : ¬ b < 0 := by omega
    simp [h1, h3, this]
  · have := Int.mul_neg_of_pos_of_neg h1 h2
    have h3 : ¬ a < 0 := by omega
    simp [h3, h2, this]
  · have := Int.mul_pos h1 h2
    have h3 : ¬ a < 0 := by omega
    have h4 : ¬ b < 0 := by omega
    simp [h3, h4]; omega
/-- a function without a result that writes the Int z -/
def IntV (R : Nat → Prop) (zs : List Nat) (vs : List Int) (w : World) (e : Ending) (w' : World) : Prop := e = .returned (.tuple #[]) ∧ Ints R w' zs vs ∧ Kept R w w'

set_option maxHeartbeats 2000000 in
set_option maxRecDepth 100000 in
theorem mul_same (R : Nat → Prop) (w : World) (zs : List Nat) (vs : List Int) (ps : List (Option Addr)) (qs : List (List Nat)) (h : Fam R w zs vs ps qs) (s : Value) (i j z x : Nat) (a : Int) (hi : zs[i]? = some z) (hj : zs[j]? = some x) (hR : ¬ R z)
    (ha : vs[j]? = some a) (hla : (dg a.natAbs).length ≤ 11) (htab : Tab w) :
    Calls Tryz.prog 155 #[ptr z, s, ptr x, ptr x] w (IntV R zs (vs.set i (a * a)) w) := by
  obtain ⟨v, p, q, hv, hp, hq, oz⟩ := h.at hi
  obtain ⟨a', px, dx, ha', hpx, hqx, ox⟩ := h.at hj
  obtain rfl : a = a' := by rw [ha] at ha'; exact Option.some.inj ha'
  have hpz : blk p ≠ some z := h.zp i i z p hi hp
  have HOP := Lib.hid fun n => nat_sqr p px s (dg v.natAbs).length a.natAbs q dx (w.drewN n) (oz.num.buf.kept (grown_drewN _ _ .none) (fun _ _ => by simp)) (ox.num.kept (grown_drewN _ _ .none) (fun _ _ => by simp)) hla (htab.kept (grown_drewN _ _ .none) (fun _ e => by cases e))
  have he := eq_int_same w x
  unfold ptr at he
  have hz1 := oz.str.cell1
  have hx1 := ox.str.cell1
  have HF := Lib.hid h
  have HSZ := Lib.hid oz.str
  have HPZ := Lib.hid hpz
  have HHI := Lib.hid hi
  have HHP := Lib.hid hp
  have HHR := Lib.hid hR
  have HR := Lib.hid (Int.natAbs_mul a a)
  have HNB := Lib.hid (show false = decide (a * a < 0) by have := sq_nonneg a; simp; omega)
  clear h hi hj hR ha ha' hv hp hq hpx hqx oz ox hpz hla htab
  unfold ptr
  go_enter Tryz.func155, Tryz.ntmps155
  go_upto_region 1 with fail
  clear he
  go_cut [] from 11 (fun wx => AbsDone w z p (decide (v < 0)) (a.natAbs * a.natAbs) wx)
  case first =>
    go_region_with (go_at_call 176; refine (HOP.out _).mono ?_; rintro e w1 ⟨p', q', rfl, hn, hg, hf⟩; have hsz := HSZ.out.grow ((Grow.none (grown_drewN w _ .none) _).trans (Grow.of hg)) HPZ.out; have hc1 := hsz.cell1; have hf1 := hsz.free 1; have HN := Lib.hid hn; have HG := Lib.hid hg; have HFr := Lib.hid hf; clear hn hg hf hsz)
    all_goals
      go_wp2_with fail
      go_meet
      case rel => exact AbsDone.of HSZ.out HPZ.out (grown_drewN _ _ _) HN.out HG.out HFr.out
  case rest =>
    have HA := Lib.hid hcut
    obtain ⟨p', q', h1, h2, h3, h4, h5⟩ := hcut
    have hc0 := h1.cell0
    have hf0 := h1.free 0
    clear h1 h2 h3 h4 h5 hz1 hx1
    go_wp2_with fail
    (try simp only [Exit.inBlock, Exit.then]); refine bodyPost_ret (results_none rfl _ _ _) rfl ?_
    exact ⟨rfl, HA.out.finish HF.out HHI.out HHP.out HHR.out HR.out HNB.out⟩

set_option maxHeartbeats 2000000 in
set_option maxRecDepth 100000 in
theorem mul_other (R : Nat → Prop) (w : World) (zs : List Nat) (vs : List Int) (ps : List (Option Addr)) (qs : List (List Nat)) (h : Fam R w zs vs ps qs) (s : Value) (i j k z x y : Nat) (a b : Int) (hi : zs[i]? = some z) (hj : zs[j]? = some x) (hk : zs[k]? = some y) (hR : ¬ R z) (hxy : x ≠ y)
    (ha : vs[j]? = some a) (hb : vs[k]? = some b) (hla : (dg a.natAbs).length ≤ 39) (hlb : (dg b.natAbs).length ≤ 39) (htab : Tab w) :
    Calls Tryz.prog 155 #[ptr z, s, ptr x, ptr y] w (IntV R zs (vs.set i (a * b)) w) := by
  obtain ⟨v, p, q, hv, hp, hq, oz⟩ := h.at hi
  obtain ⟨a', px, dx, ha', hpx, hqx, ox⟩ := h.at hj
  obtain ⟨b', py, dy, hb', hpy, hqy, oy⟩ := h.at hk
  obtain rfl : a = a' := by rw [ha] at ha'; exact Option.some.inj ha'
  obtain rfl : b = b' := by rw [hb] at hb'; exact Option.some.inj hb'
  have hpz : blk p ≠ some z := h.zp i i z p hi hp
  have HOP := Lib.hid fun n => nat_mul p px py s (dg v.natAbs).length a.natAbs b.natAbs q dx dy (w.drewN n) (oz.num.buf.kept (grown_drewN _ _ .none) (fun _ _ => by simp)) (ox.num.kept (grown_drewN _ _ .none) (fun _ _ => by simp)) (oy.num.kept (grown_drewN _ _ .none) (fun _ _ => by simp)) hla hlb (htab.kept (grown_drewN _ _ .none) (fun _ e => by cases e))
  have he := eq_int_other ox.str oy.str hxy
  unfold ptr at he
  have hz1 := oz.str.cell1
  have hx1 := ox.str.cell1
  have hy1 := oy.str.cell1
  have HF := Lib.hid h
  have HSZ := Lib.hid oz.str
  have HPZ := Lib.hid hpz
  have HHI := Lib.hid hi
  have HHP := Lib.hid hp
  have HHR := Lib.hid hR
  have HR := Lib.hid (Int.natAbs_mul a b)
  -- the signs behind the product: the struct of z may be x's, y's: its sign has not turned yet
  have hx0 : ∀ wx, AbsDone w z p (decide (v < 0)) (a.natAbs * b.natAbs) wx → wx.cell? ⟨x, 0, .none⟩ = some (.bool (decide (a < 0))) := by
    rintro wx ⟨p', q', h1, h2, h3, h4, h5⟩
    by_cases hxz : x = z
    · subst hxz
      have e := ox.str.cell0
      rw [oz.str.cell0] at e
      rw [h1.cell0, Option.some.inj e]
    · exact (ox.str.grow h3 (by rintro (e | e); exact hxz e; exact h.zp j i x p hj hp e)).cell0
  have hy0 : ∀ wx, AbsDone w z p (decide (v < 0)) (a.natAbs * b.natAbs) wx → wx.cell? ⟨y, 0, .none⟩ = some (.bool (decide (b < 0))) := by
    rintro wx ⟨p', q', h1, h2, h3, h4, h5⟩
    by_cases hyz : y = z
    · subst hyz
      have e := oy.str.cell0
      rw [oz.str.cell0] at e
      rw [h1.cell0, Option.some.inj e]
    · exact (oy.str.grow h3 (by rintro (e | e); exact hyz e; exact h.zp k i y p hk hp e)).cell0
  have HX0 := Lib.hid hx0
  have HY0 := Lib.hid hy0
  clear h hi hj hk hR ha ha' hb hb' hv hp hq hpx hqx hpy hqy oz ox oy hpz hla hlb htab hx0 hy0 hxy
  unfold ptr
  go_enter Tryz.func155, Tryz.ntmps155
  go_upto_region 3 with fail
  clear he
  go_cut [] from 11 (fun wx => AbsDone w z p (decide (v < 0)) (a.natAbs * b.natAbs) wx)
  case first =>
    go_region_with (go_at_call 177; refine (HOP.out _).mono ?_; rintro e w1 ⟨p', q', rfl, hn, hg, hf⟩; have hsz := HSZ.out.grow ((Grow.none (grown_drewN w _ .none) _).trans (Grow.of hg)) HPZ.out; have hc1 := hsz.cell1; have hf1 := hsz.free 1; have HN := Lib.hid hn; have HG := Lib.hid hg; have HFr := Lib.hid hf; clear hn hg hf hsz)
    all_goals
      go_wp2_with fail
      go_meet
      case rel => exact AbsDone.of HSZ.out HPZ.out (grown_drewN _ _ _) HN.out HG.out HFr.out
  case rest =>
    have HA := Lib.hid hcut
    obtain ⟨p', q', h1, h2, h3, h4, h5⟩ := hcut
    have hc0 := h1.cell0
    have hc1 := h1.cell1
    have hf0 := h1.free 0
    have hx0 := HX0.out _ HA.out
    have hy0 := HY0.out _ HA.out
    clear h1 h2 h3 h4 h5 hz1 hx1 hy1
    have HNB := Lib.hid (show a.natAbs * b.natAbs ≠ 0 → (decide (a < 0) != decide (b < 0)) = decide (a * b < 0) from sign_mul a b)
    by_cases hr0 : a.natAbs * b.natAbs = 0
    · have e2 : false = decide (a * b < 0) := by have := HR.out; simp; omega
      have E2 := Lib.hid e2
      have hl0 : (dg (a.natAbs * b.natAbs)).length = 0 := by rw [hr0, dg_zero]; rfl
      rw [hl0] at hc1
      clear e2 hr0 hl0
      go_wp2_with fail
      go_region
      all_goals
        go_wp2_with fail
        go_end0
        exact ⟨rfl, (HA.out.drew _).finish HF.out HHI.out HHP.out HHR.out HR.out E2.out⟩
    · have hl2 := dg_pos_length hr0
      have E2 := Lib.hid (HNB.out hr0)
      clear hr0
      generalize (dg (a.natAbs * b.natAbs)).length = len at *
      generalize decide (a < 0) = na at *
      generalize decide (b < 0) = nb at *
      go_wp2_with fail
      go_region
      all_goals
        go_wp2_with fail
        go_end0
        exact ⟨rfl, (HA.out.drew _).finish HF.out HHI.out HHP.out HHR.out HR.out E2.out⟩
end Go.Proofs.YtohhkjamddojmaaGreatDoor.Big
