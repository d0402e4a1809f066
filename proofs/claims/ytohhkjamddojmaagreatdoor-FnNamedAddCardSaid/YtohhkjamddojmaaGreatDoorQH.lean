/- The greatest common divisor and the inverse, of numbers of several words. -/
import Derived.Test.YtohhkjamddojmaaGreatDoorGA
set_option maxHeartbeats 16000000
namespace Go.Proofs.YtohhkjamddojmaaGreatDoor.Big
open Go.RowKit
attribute [local go_sem] ptr
section
variable {R : Nat → Prop} {w0 w : World} {L : List (Nat × Int)}
set_option maxRecDepth 100000 in
theorem gcdO (h : Own R w0 w L) (i m j k : Nat) {zd zx zg zn : Nat} {v u : Int} (g n : Nat) (hi : L[i]? = some (zd, v)) (hm : L[m]? = some (zx, u)) (hj : L[j]? = some (zg, (g : Int))) (hk : L[k]? = some (zn, (n : Int)))
 (him : i ≠ m) (hR : ¬ R zd) (hR2 : ¬ R zx) (hg : 0 < g) (hgn : g < n) (hn : n < B64 ^ 4) (hc : Int.gcd g n = 1) :
 Calls Tryz.prog 152 #[ptr zd, ptr zx, .pointer .none, ptr zg, ptr zn] w (fun e w' => ∃ U : Int, e = .returned (ptr zd) ∧ Own R w0 w' ((L.set m (zx, U)).set i (zd, 1)) ∧ (n : Int) ∣ U * g - 1 ∧ (U.natAbs : Int) < n) := by
 obtain ⟨-, -, pg, cg, k1⟩ := h.cells hj
 obtain ⟨-, -, pn, cn, k2⟩ := h.cells hk
 obtain ⟨lg, hlg⟩ : ∃ l, l = (dg g).length := ⟨_, rfl⟩
 obtain ⟨ln, hln⟩ : ∃ l, l = (dg n).length := ⟨_, rfl⟩
 rw [Int.natAbs_natCast, ← hlg] at k1
 rw [Int.natAbs_natCast, ← hln] at k2
 have b1 : ((lg : Int) == 0) = false := by rw [beq_eq_false_iff_ne]; have := zyx (show g ≠ 0 by omega); omega
 have b2 : ((ln : Int) == 0) = false := by rw [beq_eq_false_iff_ne]; have := zyx (show n ≠ 0 by omega); omega
 have c1 : ¬ lg = 0 := by have := zyx (show g ≠ 0 by omega); omega
 have c2 : ¬ ln = 0 := by have := zyx (show n ≠ 0 by omega); omega
 have HC := Lz (lehmerO h i m j k g n hi hm hj hk him hR hR2 hg hgn hn hc)
 clear h hi hm hj hk him hR hR2 hg hgn hn hc hlg hln
 unfold ptr at *
 go_enter Tryz.func152, Tryz.ntmps152
 go_wp2_with fail
 refine HC.out.mono ?_
 rintro e w1 ⟨U, rfl, h1⟩
 have H1 := Lz h1
 clear h1 k1 k2
 go_wp2_with fail
 go_ret
 exact ⟨U, rfl, H1.out⟩
set_option maxRecDepth 100000 in
theorem modInverseO (h : Own R w0 w L) (i j k : Nat) {z zg zn : Nat} {v : Int} (g n : Nat) (hi : L[i]? = some (z, v)) (hj : L[j]? = some (zg, (g : Int))) (hk : L[k]? = some (zn, (n : Int)))
 (hR : ¬ R z) (hg : 0 < g) (hgn : g < n) (hn : n < B64 ^ 4) (hc : Int.gcd g n = 1) :
 Calls Tryz.prog 122 #[ptr z, ptr zg, ptr zn] w (fun e w' => ∃ t : Nat, e = .returned (ptr z) ∧ Own R w0 w' (L.set i (z, (t : Int))) ∧ t < n ∧ (n : Int) ∣ t * g - 1) := by
 obtain ⟨n0, -, -⟩ := h.cells hk
 obtain ⟨g0, -, -⟩ := h.cells hj
 have zn0 : decide ((n : Int) < 0) = false := by simp
 have zg0 : decide ((g : Int) < 0) = false := by simp
 rw [zn0] at n0
 rw [zg0] at g0
 obtain ⟨h2, r2, r1⟩ := h.new2
 have HG := Lz (gcdO h2 1 0 (j + 2) (k + 2) g n rfl rfl hj hk (by decide) r1 r2 hg hgn hn hc)
 have HHI := Lz hi
 have HHK := Lz hk
 have HHR := Lz hR
 have HN := Lz hn
 clear h hi hj hk hR hg hgn hn hc h2 r2 r1 zn0 zg0
 unfold ptr at *
 go_enter Tryz.func122, Tryz.ntmps122
 go_wp2_with fail
 refine HG.out.mono ?_
 rintro e w1 ⟨U, rfl, h1, hU⟩
 have H1 := Lz (show Own R w0 w1 ((w.heap.size + 1, U) :: (w.heap.size, (1 : Int)) :: L) from h1)
 have HU := Lz hU
 clear h1 hU n0 g0 HG
 generalize w.heap.size = pd at *
 go_wp2_with fail
 refine (intOneO H1.out).mono ?_
 rintro e w2 ⟨po, rfl, h2, -⟩
 have hc := cmpO h2 2 0 (x := pd) (y := po) rfl rfl (sz_word (by decide))
 have e1 : cmpI 1 1 = 0 := rfl
 rw [e1] at hc
 have HC := Lz hc
 have H2 := Lz h2
 obtain ⟨x0, -, -⟩ := h2.cells (i := 1) (z := pd + 1) rfl
 clear hc e1 h2
 go_wp2_with fail
 refine HC.out.mono ?_
 rintro e w3 ⟨rfl, nq, rfl⟩
 have H3 := Lz (H2.out.drew nq)
 have hsz : Sz 630000 U := by
  have := HU.out.2
  have hn := HN.out
  exact (sz_of_lt (n := 4) (a := U) (by omega)).le (by decide)
 have hszn : Sz 630000 (n : Int) := by
  have hn := HN.out
  exact (sz_of_lt (n := 4) (a := (n : Int)) (by omega)).le (by decide)
 have SU := Lz (hsz.le (by decide : 630000 ≤ 640000))
 have SN := Lz (hszn.le (by decide : 630000 ≤ 640000))
 obtain ⟨t, ht, hd, t0, t1⟩ := GcdLaw.inv_range HU.out
 have HD := Lz hd
 have HT0 := Lz t0
 have HT1 := Lz t1
 clear hsz hszn hd t0 t1
 by_cases hneg : U < 0
 · have hd : decide (U < 0) = true := by simp [hneg]
   rw [hd] at x0
   rw [if_pos hneg] at ht
   have HT := Lz ht
   clear hneg hd ht
   go_wp2_with fail
   refine (addO H3.out (i + 3) 1 (k + 3) HHI.out rfl HHK.out HHR.out SU.out SN.out).mono ?_
   rintro e w4 ⟨rfl, h4⟩
   have h5 : Own R w0 w4 (L.set i (z, U + n)) := Own.tail (Own.tail (Own.tail h4))
   rw [← HT.out] at h5
   have H5 := Lz h5
   clear h4 h5
   go_wp2_with fail
   go_ret
   have := HT0.out
   have := HT1.out
   have e : t = (t.toNat : Int) := by omega
   exact ⟨t.toNat, rfl, by rw [← e]; exact H5.out, by omega, by rw [← e]; exact HD.out⟩
 · have hd : decide (U < 0) = false := by simp [hneg]
   rw [hd] at x0
   rw [if_neg hneg] at ht
   have HT := Lz ht
   clear hneg hd ht
   go_wp2_with fail
   refine (setO H3.out (i + 3) 1 HHI.out rfl HHR.out SU.out).mono ?_
   rintro e w4 ⟨rfl, h4⟩
   have h5 : Own R w0 w4 (L.set i (z, U)) := Own.tail (Own.tail (Own.tail h4))
   rw [← HT.out] at h5
   have H5 := Lz h5
   clear h4 h5
   go_wp2_with fail
   go_ret
   have := HT0.out
   have := HT1.out
   have e : t = (t.toNat : Int) := by omega
   exact ⟨t.toNat, rfl, by rw [← e]; exact H5.out, by omega, by rw [← e]; exact HD.out⟩
end
end Go.Proofs.YtohhkjamddojmaaGreatDoor.Big
