/- Shifts to the left, of Ints; what is chosen of what is owned. -/
import Derived.Test.YtohhkjamddojmaaGreatDoorLA
import Derived.Test.YtohhkjamddojmaaGreatDoorIntT
namespace Go.Proofs.YtohhkjamddojmaaGreatDoor.Big
open Go.RowKit

theorem lsh_abs (a : Int) (s : Nat) : (a * 2 ^ s).natAbs = a.natAbs * 2 ^ s := by
  rw [Int.natAbs_mul, Int.natAbs_pow]; rfl
theorem lsh_sign (a : Int) (s : Nat) : decide (a < 0) = decide (a * 2 ^ s < 0) := by
  have hp : (0 : Int) < 2 ^ s := Int.pow_pos (by decide)
  by_cases h : a < 0
  · have := Int.mul_neg_of_neg_of_pos h hp
    simp [h, this]
  · have := Int.mul_nonneg (Int.not_lt.1 h) (Int.le_of_lt hp)
    simp [h, Int.not_lt.2 this]

set_option maxHeartbeats 2000000 in
set_option maxRecDepth 100000 in
theorem Int_Lsh_other {R : Nat → Prop} {w : World} {zs : List Nat} {vs : List Int} (h : Ints R w zs vs) (i j z x s : Nat) (a : Int) (hi : zs[i]? = some z) (hj : zs[j]? = some x) (hzx : z ≠ x) (hR : ¬ R z) (ha : vs[j]? = some a) (hla : (dg a.natAbs).length ≤ 80000) (hs : 1 ≤ s) (hs2 : s ≤ 63) :
    Calls Tryz.prog 143 #[ptr z, ptr x, .int .u64 s] w (IntP R zs (vs.set i (a * 2 ^ s)) z w) := by
  obtain ⟨ps, qs, h⟩ := h
  obtain ⟨v, p, q, hv, hp, hq, oz⟩ := h.at hi
  obtain ⟨a', px, dx, ha', hpx, hqx, ox⟩ := h.at hj
  obtain rfl : a = a' := by rw [ha] at ha'; exact Option.some.inj ha'
  have hpz : blk p ≠ some z := h.zp i i z p hi hp
  have HOP := Lib.hid fun n => nat_lsh p px (dg v.natAbs).length a.natAbs s q dx (w.drewN n) (oz.num.buf.kept (grown_drewN _ _ .none) (fun _ _ => by simp)) (ox.num.kept (grown_drewN _ _ .none) (fun _ _ => by simp)) hla hs hs2
  have hz1 := oz.str.cell1
  have hx1 := ox.str.cell1
  have hx0 : ∀ wx, AbsDone w z p (decide (v < 0)) (a.natAbs * 2 ^ s) wx → wx.cell? ⟨x, 0, .none⟩ = some (.bool (decide (a < 0))) := by
    rintro wx ⟨p', q', h1, h2, h3, h4, h5⟩
    exact (ox.str.grow h3 (by rintro (e | e); exact hzx e.symm; exact h.zp j i x p hj hp e)).cell0
  have HX0 := Lib.hid hx0
  have HF := Lib.hid h
  have HSZ := Lib.hid oz.str
  have HPZ := Lib.hid hpz
  have HHI := Lib.hid hi
  have HHP := Lib.hid hp
  have HHR := Lib.hid hR
  clear h hi hj hR ha ha' hv hp hq hpx hqx oz ox hpz hla hx0 hzx hs hs2
  unfold ptr
  go_enter Tryz.func143, Tryz.ntmps143
  go_upto_region 1 with fail
  go_cut [] from 7 (fun wx => AbsDone w z p (decide (v < 0)) (a.natAbs * 2 ^ s) wx)
  case first =>
    go_region_with (go_at_call 168; refine (HOP.out _).mono ?_; rintro e w1 ⟨p', q', rfl, hn, hg, hf⟩; have hsz := HSZ.out.grow ((Grow.none (grown_drewN w _ .none) _).trans (Grow.of hg)) HPZ.out; have hc1 := hsz.cell1; have hf1 := hsz.free 1; have HN := Lib.hid hn; have HG := Lib.hid hg; have HFr := Lib.hid hf; clear hn hg hf hsz)
    all_goals
      go_wp2_with fail
      go_meet
      case rel => exact AbsDone.of HSZ.out HPZ.out (grown_drewN _ _ _) HN.out HG.out HFr.out
  case rest =>
    have HA := Lib.hid hcut
    have hx0 := HX0.out _ hcut
    obtain ⟨p', q', h1, h2, h3, h4, h5⟩ := hcut
    have hc0 := h1.cell0
    have hf0 := h1.free 0
    clear h1 h2 h3 h4 h5 hz1 hx1
    obtain ⟨na, hna⟩ : ∃ na, na = decide (a < 0) := ⟨_, rfl⟩
    rw [← hna] at hx0
    have HNA := Lib.hid hna
    clear hna
    go_wp2_with fail
    go_ret
    exact ⟨rfl, HA.out.finish HF.out HHI.out HHP.out HHR.out (lsh_abs a s) (HNA.out.trans (lsh_sign a s))⟩

set_option maxHeartbeats 2000000 in
set_option maxRecDepth 100000 in
theorem Int_Lsh_same {R : Nat → Prop} {w : World} {zs : List Nat} {vs : List Int} (h : Ints R w zs vs) (i z s : Nat) (a : Int) (hi : zs[i]? = some z) (hR : ¬ R z) (ha : vs[i]? = some a) (hla : (dg a.natAbs).length ≤ 80000) (hs : 1 ≤ s) (hs2 : s ≤ 63) :
    Calls Tryz.prog 143 #[ptr z, ptr z, .int .u64 s] w (IntP R zs (vs.set i (a * 2 ^ s)) z w) := by
  obtain ⟨ps, qs, h⟩ := h
  obtain ⟨v, p, q, hv, hp, hq, oz⟩ := h.at hi
  obtain rfl : a = v := by rw [ha] at hv; exact Option.some.inj hv
  have hpz : blk p ≠ some z := h.zp i i z p hi hp
  have HOP := Lib.hid fun n => nat_lsh p p (dg a.natAbs).length a.natAbs s q q (w.drewN n) (oz.num.buf.kept (grown_drewN _ _ .none) (fun _ _ => by simp)) (oz.num.kept (grown_drewN _ _ .none) (fun _ _ => by simp)) hla hs hs2
  have hz1 := oz.str.cell1
  have hx0 : ∀ wx, AbsDone w z p (decide (a < 0)) (a.natAbs * 2 ^ s) wx → wx.cell? ⟨z, 0, .none⟩ = some (.bool (decide (a < 0))) := by
    rintro wx ⟨p', q', h1, h2, h3, h4, h5⟩
    exact h1.cell0
  have HX0 := Lib.hid hx0
  have HF := Lib.hid h
  have HSZ := Lib.hid oz.str
  have HPZ := Lib.hid hpz
  have HHI := Lib.hid hi
  have HHP := Lib.hid hp
  have HHR := Lib.hid hR
  clear h hi hR ha hv hp hq oz hpz hla hx0 hs hs2
  unfold ptr
  go_enter Tryz.func143, Tryz.ntmps143
  go_upto_region 1 with fail
  go_cut [] from 7 (fun wx => AbsDone w z p (decide (a < 0)) (a.natAbs * 2 ^ s) wx)
  case first =>
    go_region_with (go_at_call 168; refine (HOP.out _).mono ?_; rintro e w1 ⟨p', q', rfl, hn, hg, hf⟩; have hsz := HSZ.out.grow ((Grow.none (grown_drewN w _ .none) _).trans (Grow.of hg)) HPZ.out; have hc1 := hsz.cell1; have hf1 := hsz.free 1; have HN := Lib.hid hn; have HG := Lib.hid hg; have HFr := Lib.hid hf; clear hn hg hf hsz)
    all_goals
      go_wp2_with fail
      go_meet
      case rel => exact AbsDone.of HSZ.out HPZ.out (grown_drewN _ _ _) HN.out HG.out HFr.out
  case rest =>
    have HA := Lib.hid hcut
    have hx0 := HX0.out _ hcut
    obtain ⟨p', q', h1, h2, h3, h4, h5⟩ := hcut
    have hf0 := h1.free 0
    clear h1 h2 h3 h4 h5 hz1
    obtain ⟨na, hna⟩ : ∃ na, na = decide (a < 0) := ⟨_, rfl⟩
    rw [← hna] at hx0
    have HNA := Lib.hid hna
    clear hna
    go_wp2_with fail
    go_ret
    exact ⟨rfl, HA.out.finish HF.out HHI.out HHP.out HHR.out (lsh_abs a s) (HNA.out.trans (lsh_sign a s))⟩

section
variable {R : Nat → Prop} {w0 w : World} {L : List (Nat × Int)}
theorem lshO (h : Own R w0 w L) (i j s : Nat) {z x : Nat} {v a : Int} (hi : L[i]? = some (z, v)) (hj : L[j]? = some (x, a)) (hR : ¬ R z) (sa : Sz 640000 a) (hs : 1 ≤ s) (hs2 : s ≤ 63) :
    Calls Tryz.prog 143 #[ptr z, ptr x, .int .u64 s] w (OpP R w0 z (L.set i (z, a * 2 ^ s))) := by
  have hl : (dg a.natAbs).length ≤ 80000 := Nat.le_trans (Sz.words (k := 10000) sa) (by decide)
  by_cases e : z = x
  · subst e
    have hij : i = j := by
      refine Classical.byContradiction fun hn => h.inj hi hj hn rfl
    subst hij
    exact (Int_Lsh_same h.ints i z s a (at1 hi) hR (at2 hj) hl hs hs2).mono fun _ _ hp => OpP.of h hi hp
  · exact (Int_Lsh_other h.ints i j z x s a (at1 hi) (at1 hj) e hR (at2 hj) hl hs hs2).mono fun _ _ hp => OpP.of h hi hp
theorem pick_left {α : Type} (A B : List α) : ∀ (is : List Nat), (∀ i ∈ is, i < A.length) → is.filterMap ((A ++ B)[·]?) = is.filterMap (A[·]?)
  | [], _ => rfl
  | i :: is, h => by
    rw [List.filterMap_cons, List.filterMap_cons, List.getElem?_append_left (h i List.mem_cons_self), pick_left A B is (fun j hj => h j (List.mem_cons_of_mem _ hj))]
theorem pick_append {α : Type} (A B : List α) (is : List Nat) : (∀ i ∈ is, i < A.length) → pick (A ++ B) (is ++ (List.range' A.length B.length)) = pick A is ++ B := by
  intro h
  unfold pick
  rw [List.filterMap_append]
  congr 1
  · exact pick_left A B is h
  · apply List.ext_getElem?
    intro k
    have key : (List.range' A.length B.length).filterMap ((A ++ B)[·]?) = B := by
      have : ∀ (C D : List α), (List.range' C.length D.length).filterMap ((C ++ D)[·]?) = D := by
        intro C D
        induction D generalizing C with
        | nil => simp
        | cons d D ih =>
          rw [List.length_cons, List.range'_succ, List.filterMap_cons]
          rw [List.getElem?_append_right (Nat.le_refl _), Nat.sub_self]
          simp only [List.getElem?_cons_zero]
          congr 1
          have := ih (C ++ [d])
          rw [List.length_append, List.length_singleton, List.append_assoc] at this
          exact this
      exact this A B
    rw [key]
/-- some of the first ones, and all the others -/
theorem Own.choose {A : List (Nat × Int)} (h : Own R w0 w (A ++ L)) (is : List Nat) (hnd : is.Nodup) (hlt : ∀ i ∈ is, i < A.length) : Own R w0 w (Big.pick A is ++ L) := by
  have := h.pick (is ++ List.range' A.length L.length) ?_ ?_
  · rwa [pick_append A L is hlt] at this
  · refine List.nodup_append.2 ⟨hnd, List.nodup_range', ?_⟩
    intro a ha b hb e
    have := hlt a ha
    have := (List.mem_range'_1.1 hb).1
    omega
  · intro i hi
    rw [List.length_append]
    rcases List.mem_append.1 hi with hi | hi
    · have := hlt i hi; omega
    · have := (List.mem_range'_1.1 hi).2; omega
end
end Go.Proofs.YtohhkjamddojmaaGreatDoor.Big
