/- Mod of Ints; quotient and remainder over what is owned. The Int one; the greatest common divisor's entry. -/
import Derived.Test.YtohhkjamddojmaaGreatDoorIJ
import Derived.Test.YtohhkjamddojmaaGreatDoorIntH
namespace Go.Proofs.YtohhkjamddojmaaGreatDoor.Big
open Go.RowKit

theorem al_apart {p q : Option Addr} {cs : List Nat} {w : World} (hp : Buf w p cs) (h : Apart p q) : al p q cs = false := by
  unfold al
  rcases Nat.eq_zero_or_pos cs.length with h0 | h0
  · simp [h0]
  · obtain ⟨b, rfl, -⟩ := hp.at h0
    have : some (⟨b, 0, .none⟩ : Addr) ≠ q := fun e => h b rfl (e ▸ rfl)
    simp [this]
theorem emod_of_tmod {a b : Int} (hb : b ≠ 0) : a % b = if a.tmod b < 0 then (if b < 0 then a.tmod b - b else a.tmod b + b) else a.tmod b := by
  have h := Int.tmod_eq_emod (a := a) (b := b)
  have h1 := Int.emod_nonneg a hb
  have h2 : a % b < b.natAbs := Int.emod_lt a hb
  rw [h]
  by_cases h3 : 0 ≤ a ∨ b ∣ a
  · simp only [h3, if_true]
    rw [if_neg (by omega)]; omega
  · simp only [h3, if_false]
    have h4 : a % b ≠ 0 := fun e => h3 (.inr (Int.dvd_of_emod_eq_zero e))
    rw [if_pos (by omega)]
    split <;> omega
theorem set_at {α : Type} {l : List α} {i : Nat} {a b : α} (h : l[i]? = some a) : (l.set i b)[i]? = some b := by
  rw [List.getElem?_set_self', h]; rfl
theorem tmod_size {a b : Int} {n : Nat} (hb : Sz n b) (hb0 : b ≠ 0) : Sz n (a.tmod b) := by
  unfold Sz at *
  rw [Int.natAbs_tmod]
  exact Nat.lt_trans (Nat.mod_lt _ (by omega)) hb
section
variable {R : Nat → Prop} {w0 w : World} {L : List (Nat × Int)}
theorem quoRemO (h : Own R w0 w L) (i j k m : Nat) {z x y r : Nat} {v a b u : Int} (hi : L[i]? = some (z, v)) (hj : L[j]? = some (x, a)) (hk : L[k]? = some (y, b)) (hm : L[m]? = some (r, u)) (him : i ≠ m) (hR : ¬ R z) (hR2 : ¬ R r) (sa : Sz 640000 a) (hdiv : DivOK b.natAbs) :
    Calls Tryz.prog 157 #[ptr z, ptr x, ptr y, ptr r] w fun e w' => e = .returned (.tuple #[ptr z, ptr r]) ∧ Own R w0 w' ((L.set i (z, a.tdiv b)).set m (r, a.tmod b)) := by
  obtain ⟨ps, qs, hf⟩ := h.ints
  refine (quoRem R w _ _ ps qs hf i j k m z x y r a b (at1 hi) (at1 hj) (at1 hk) (at1 hm) him hR hR2 (at2 hj) (at2 hk) (Nat.le_trans (Sz.words (k := 10000) sa) (by decide)) hdiv h.tab).mono ?_
  rintro e w' ⟨he, hI, hK⟩
  refine ⟨he, h.step hI hK ?_ ?_⟩
  · have hm' : (L.set i (z, a.tdiv b))[m]? = some (r, u) := by rw [List.getElem?_set_ne him]; exact hm
    rw [← set1 hm', ← set1 hi]
  · rw [← set2, ← set2]
theorem Own.cells (h : Own R w0 w L) {i z : Nat} {v : Int} (hi : L[i]? = some (z, v)) :
    w.cell? ⟨z, 0, .none⟩ = some (.bool (decide (v < 0))) ∧ w.frozen? ⟨z, 0, .none⟩ = false ∧ ∃ p c, w.cell? ⟨z, 1, .none⟩ = some (.slice p (dg v.natAbs).length c) := h.ints.cells (at1 hi) (at2 hi)
theorem Own.eq_other (h : Own R w0 w L) {i k z y : Nat} {v b : Int} (hi : L[i]? = some (z, v)) (hk : L[k]? = some (y, b)) (hik : i ≠ k) :
    (∀ n, (binOp .eql 108 (ptr z) (ptr y)).run Tryz.prog (w.drewN n) = .ok (.bool false) (w.drewN n)) ∧ ∃ p q l lz ly d, w.cell? ⟨z, 1, .none⟩ = some (.slice p lz l) ∧ w.cell? ⟨y, 1, .none⟩ = some (.slice q ly d) ∧
      ∀ n, Calls Tryz.prog 156 #[.slice p lz l, .slice q ly d] (w.drewN n) fun e w' => e = .returned (.bool false) ∧ ∃ m, w' = (w.drewN n).drewN m := by
  obtain ⟨ps, qs, hf⟩ := h.ints
  obtain ⟨v', p, q, hv, hp, hq, oz⟩ := hf.at (at1 hi)
  obtain ⟨b', py, dy, hb, hpy, hqy, oy⟩ := hf.at (at1 hk)
  have hap : Apart p py := fun c h1 h2 => hik (hf.pp i k p py c hp hpy h1 h2)
  refine ⟨fun n => eq_int_other (w := w.drewN n) oz.str oy.str (h.inj hi hk hik), p, py, _, _, _, _, oz.str.cell1, oy.str.cell1, fun n => ?_⟩
  have := nat_alias p py (dg v'.natAbs).length (dg b'.natAbs).length q dy (w.drewN n) (oz.num.buf.kept (grown_drewN _ _ .none) (fun _ _ => by simp)) (oy.num.buf.kept (grown_drewN _ _ .none) (fun _ _ => by simp))
  rwa [al_apart oz.num.buf hap] at this

set_option maxHeartbeats 2000000 in
set_option maxRecDepth 100000 in
theorem modO (h : Own R w0 w L) (i j k : Nat) {z x y : Nat} {v a b : Int} (hi : L[i]? = some (z, v)) (hj : L[j]? = some (x, a)) (hk : L[k]? = some (y, b)) (hik : i ≠ k) (hR : ¬ R z) (sa : Sz 630000 a) (sb : Sz 630000 b) (hdiv : DivOK b.natAbs) (hb0 : b ≠ 0) :
    Calls Tryz.prog 125 #[ptr z, ptr x, ptr y] w (OpP R w0 z (L.set i (z, a % b))) := by
  obtain ⟨he, p, q, l, lz, ly, d, hz1, hy1, hal⟩ := h.eq_other hi hk hik
  have HAL := Lib.hid fun n => Calls.quiet_of (w := w) (n := n) (hal n)
  have HS := Lib.hid h
  have HHI := Lib.hid hi
  have HHJ := Lib.hid hj
  have HHK := Lib.hid hk
  have HIK := Lib.hid hik
  have HHR := Lib.hid hR
  have SA := Lib.hid sa
  have SB := Lib.hid sb
  have HD := Lib.hid hdiv
  have HB0 := Lib.hid hb0
  clear h hi hj hk hik hR sa sb hdiv hb0 hal
  unfold ptr at *
  go_enter Tryz.func125, Tryz.ntmps125
  go_wp2_with fail
  go_quiet ((go_at_call 156; exact HAL.out _))
  go_wp2_with fail
  obtain ⟨hN, hNR⟩ := HS.out.new
  refine (quoRemO (hN.drew nq) 0 (j + 1) (k + 1) (i + 1) rfl HHJ.out HHK.out HHI.out (by omega) hNR HHR.out (SA.out.le (by decide)) HD.out).mono ?_
  rintro e w1 ⟨rfl, hq⟩
  have hT : Own R w0 w1 (L.set i (z, a.tmod b)) := Own.tail hq
  have hiz : (L.set i (z, a.tmod b))[i]? = some (z, a.tmod b) := set_at HHI.out
  have hky : (L.set i (z, a.tmod b))[k]? = some (y, b) := by rw [List.getElem?_set_ne HIK.out]; exact HHK.out
  obtain ⟨hz0, -, -⟩ := hT.cells hiz
  obtain ⟨hy0, -, -⟩ := hT.cells hky
  have HT := Lib.hid hT
  have HIZ := Lib.hid hiz
  have HKY := Lib.hid hky
  have HE := Lib.hid (emod_of_tmod (a := a) HB0.out)
  clear hN hNR hq hT hiz hky he
  by_cases hc : a.tmod b < 0
  · have HC := Lib.hid hc
    have hd : decide (a.tmod b < 0) = true := by simp [hc]
    rw [hd] at hz0
    have sm : Sz 630000 (a.tmod b) := tmod_size SB.out HB0.out
    by_cases hbn : b < 0
    · have HV := Lib.hid (show a % b = a.tmod b - b by rw [HE.out, if_pos hc, if_pos hbn])
      have hd2 : decide (b < 0) = true := by simp [hbn]
      rw [hd2] at hy0
      clear hc hbn hd hd2
      go_wp2_with fail
      refine (subO HT.out i i k HIZ.out HIZ.out HKY.out HHR.out (sm.le (by decide)) (SB.out.le (by decide))).mono ?_
      rintro e w2 ⟨rfl, h2⟩
      rw [List.set_set, ← HV.out] at h2
      have H2 := Lib.hid h2
      clear h2
      go_wp2_with fail
      go_ret
      exact ⟨rfl, H2.out⟩
    · have HV := Lib.hid (show a % b = a.tmod b + b by rw [HE.out, if_pos hc, if_neg hbn])
      have hd2 : decide (b < 0) = false := by simp [hbn]
      rw [hd2] at hy0
      clear hc hbn hd hd2
      go_wp2_with fail
      refine (addO HT.out i i k HIZ.out HIZ.out HKY.out HHR.out (sm.le (by decide)) (SB.out.le (by decide))).mono ?_
      rintro e w2 ⟨rfl, h2⟩
      rw [List.set_set, ← HV.out] at h2
      have H2 := Lib.hid h2
      clear h2
      go_wp2_with fail
      go_ret
      exact ⟨rfl, H2.out⟩
  · have HV := Lib.hid (show a % b = a.tmod b by rw [HE.out, if_neg hc])
    have hd : decide (a.tmod b < 0) = false := by simp [hc]
    rw [hd] at hz0
    clear hc hd
    go_wp2_with fail
    go_ret
    exact ⟨rfl, by rw [HV.out]; exact HT.out⟩
end
end Go.Proofs.YtohhkjamddojmaaGreatDoor.Big

namespace Go.Proofs.YtohhkjamddojmaaGreatDoor.Big
open Go.RowKit

section
variable {R : Nat → Prop} {w0 w : World} {L : List (Nat × Int)}
set_option maxHeartbeats 1000000 in
theorem intOneO (h : Own R w0 w L) : Calls Tryz.prog 153 #[] w (NewO R w0 1 L) := by
  have K : NewO R w0 1 L (.returned (ptr (w.heap.size + 1))) ((w.alloc (.cells (wds [1]) 199)).alloc (.cells #[.bool false, .slice (some ⟨w.heap.size, 0, .none⟩) 1 1] 172)) := by
    obtain ⟨ps, qs, hf⟩ := h.ints
    obtain ⟨h1, h2, h3⟩ := hf.extend ((grow_alloc w _).trans (grow_alloc _ _)) (one_word w 1 (by decide) (by decide)) (by omega) (fun b hb => by cases hb; exact Nat.le_refl _) (by simp [blk])
    exact ⟨w.heap.size + 1, rfl, h.step (zs := (w.heap.size + 1) :: L.map Prod.fst) (vs := (1 : Int) :: L.map Prod.snd) (Ints.front ⟨_, _, h1⟩) h2 rfl rfl, h3⟩
  have HK := Lib.hid K
  clear h K
  go_enter Tryz.func153, Tryz.ntmps153
  go_wp2
  go_ret
  exact HK.out
end
end Go.Proofs.YtohhkjamddojmaaGreatDoor.Big
