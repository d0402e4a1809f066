/- The curve y^2 = x^3 - 3x + b: is a point on it? -/
import Derived.Test.YtohhkjamddojmaaGreatDoorJA
namespace Go.Proofs.YtohhkjamddojmaaGreatDoor.Big
open Go.RowKit
attribute [local go_sem] ptr
attribute [local irreducible] Sz

section
variable {R : Nat → Prop} {w0 w w' : World} {L L' : List (Nat × Int)}
/-- what 'polynomial' gives -/
def polyV (X b p : Int) : Int := (X * X * X - (X * 2 ^ 1 + X) + b) % p
set_option maxHeartbeats 4000000 in
set_option maxRecDepth 100000 in
theorem polyO (h : Own R w0 w L) (c x P B ix iP iB : Nat) (X b p : Int) (hcP : w.cell? ⟨c, 0, .none⟩ = some (ptr P)) (hcB : w.cell? ⟨c, 2, .none⟩ = some (ptr B)) (hRc : R c) (hx : L[ix]? = some (x, X)) (hP : L[iP]? = some (P, p)) (hB : L[iB]? = some (B, b))
    (sX : Sz 64 X) (sp : Sz 64 p) (sb : Sz 64 b) (hdiv : DivOK p.natAbs) (hp0 : p ≠ 0) :
    Calls Tryz.prog 302 #[ptr c, ptr x] w (NewO R w0 (polyV X b p) L) := by
  have HSS := Lib.hid h
  have O0 := Lib.hid h.since
  have HX := Lib.hid hx
  have HB := Lib.hid hB
  have HP := Lib.hid hP
  have SX := Lib.hid sX
  have SB := Lib.hid sb
  have SP := Lib.hid sp
  have HD := Lib.hid hdiv
  have HP0 := Lib.hid hp0
  have K0 := Lib.hid (fun (w' : World) (k : Kept R w w') => (⟨k.cell hRc hcP, k.cell hRc hcB⟩ : w'.cell? ⟨c, 0, .none⟩ = some (ptr P) ∧ w'.cell? ⟨c, 2, .none⟩ = some (ptr B)))
  have cP := hcP
  have cB := hcB
  clear h hx hB hP sX sb sp hdiv hp0 hRc hcP hcB
  unfold ptr at *
  go_enter Tryz.func302, Tryz.ntmps302
  obtain ⟨hN, hR⟩ := O0.out.new
  have HN0 := Lib.hid hN
  have NRx3 := Lib.hid hR
  clear hN hR
  go_wp2_with fail
  refine (mulO HN0.out 0 (ix + 1) (ix + 1) rfl HX.out HX.out NRx3.out (SX.out.le (by decide : 64 ≤ 704)) (SX.out.le (by decide : 64 ≤ 2496))).mono ?_
  rintro en w1 ⟨rfl, hq⟩
  obtain ⟨v1, hv⟩ : ∃ v1 : Int, v1 = X * X := ⟨_, rfl⟩
  have O1 := Lib.hid (show Own R w w1 ((w.heap.size, v1) :: L) from by rw [hv]; exact hq)
  have S1 := Lib.hid (show Sz 128 v1 from by rw [hv]; exact SX.out.mul SX.out)
  have E1 := Lib.hid hv
  clear hq hv
  clear cP cB
  obtain ⟨cP, cB⟩ := K0.out w1 O1.out.kept
  go_wp2_with fail
  refine (mulO O1.out 0 0 (ix + 1) rfl rfl HX.out NRx3.out (S1.out.le (by decide : 128 ≤ 704)) (SX.out.le (by decide : 64 ≤ 2496))).mono ?_
  rintro en w2 ⟨rfl, hq⟩
  obtain ⟨v2, hv⟩ : ∃ v2 : Int, v2 = v1 * X := ⟨_, rfl⟩
  have O2 := Lib.hid (show Own R w w2 ((w.heap.size, v2) :: L) from by rw [hv]; exact hq)
  have S2 := Lib.hid (show Sz 192 v2 from by rw [hv]; exact S1.out.mul SX.out)
  have E2 := Lib.hid hv
  clear hq hv
  clear cP cB
  obtain ⟨cP, cB⟩ := K0.out w2 O2.out.kept
  obtain ⟨hN, hR⟩ := O2.out.new
  have HN2 := Lib.hid hN
  have NRt := Lib.hid hR
  clear hN hR
  go_wp2_with fail
  refine (lshO HN2.out 0 (ix + 2) 1 rfl HX.out NRt.out (SX.out.le (by decide : 64 ≤ 640000)) (by decide) (by decide)).mono ?_
  rintro en w3 ⟨rfl, hq⟩
  obtain ⟨v3, hv⟩ : ∃ v3 : Int, v3 = X * 2 ^ 1 := ⟨_, rfl⟩
  have O3 := Lib.hid (show Own R w w3 ((w2.heap.size, v3) :: (w.heap.size, v2) :: L) from by rw [hv]; exact hq)
  have S3 := Lib.hid (show Sz 65 v3 from by rw [hv]; exact sz_lsh 1 SX.out)
  have E3 := Lib.hid hv
  clear hq hv
  clear cP cB
  obtain ⟨cP, cB⟩ := K0.out w3 O3.out.kept
  go_wp2_with fail
  refine (addO O3.out 0 0 (ix + 2) rfl rfl HX.out NRt.out (S3.out.le (by decide : 65 ≤ 640000)) (SX.out.le (by decide : 64 ≤ 640000))).mono ?_
  rintro en w4 ⟨rfl, hq⟩
  obtain ⟨v4, hv⟩ : ∃ v4 : Int, v4 = v3 + X := ⟨_, rfl⟩
  have O4 := Lib.hid (show Own R w w4 ((w2.heap.size, v4) :: (w.heap.size, v2) :: L) from by rw [hv]; exact hq)
  have S4 := Lib.hid (show Sz 66 v4 from by rw [hv]; exact (S3.out.le (by decide : 65 ≤ 65)).add (SX.out.le (by decide : 64 ≤ 65)))
  have E4 := Lib.hid hv
  clear hq hv
  clear cP cB
  obtain ⟨cP, cB⟩ := K0.out w4 O4.out.kept
  go_wp2_with fail
  refine (subO O4.out 1 1 0 rfl rfl rfl NRx3.out (S2.out.le (by decide : 192 ≤ 640000)) (S4.out.le (by decide : 66 ≤ 640000))).mono ?_
  rintro en w5 ⟨rfl, hq⟩
  obtain ⟨v5, hv⟩ : ∃ v5 : Int, v5 = v2 - v4 := ⟨_, rfl⟩
  have O5 := Lib.hid (show Own R w w5 ((w2.heap.size, v4) :: (w.heap.size, v5) :: L) from by rw [hv]; exact hq)
  have S5 := Lib.hid (show Sz 193 v5 from by rw [hv]; exact (S2.out.le (by decide : 192 ≤ 192)).sub (S4.out.le (by decide : 66 ≤ 192)))
  have E5 := Lib.hid hv
  clear hq hv
  clear cP cB
  obtain ⟨cP, cB⟩ := K0.out w5 O5.out.kept
  go_wp2_with fail
  refine (addO O5.out 1 1 (iB + 2) rfl rfl HB.out NRx3.out (S5.out.le (by decide : 193 ≤ 640000)) (SB.out.le (by decide : 64 ≤ 640000))).mono ?_
  rintro en w6 ⟨rfl, hq⟩
  obtain ⟨v6, hv⟩ : ∃ v6 : Int, v6 = v5 + b := ⟨_, rfl⟩
  have O6 := Lib.hid (show Own R w w6 ((w2.heap.size, v4) :: (w.heap.size, v6) :: L) from by rw [hv]; exact hq)
  have S6 := Lib.hid (show Sz 194 v6 from by rw [hv]; exact (S5.out.le (by decide : 193 ≤ 193)).add (SB.out.le (by decide : 64 ≤ 193)))
  have E6 := Lib.hid hv
  clear hq hv
  clear cP cB
  obtain ⟨cP, cB⟩ := K0.out w6 O6.out.kept
  go_wp2_with fail
  refine (modO O6.out 1 1 (iP + 2) rfl rfl HP.out (by omega) NRx3.out (S6.out.le (by decide : 194 ≤ 630000)) (SP.out.le (by decide : 64 ≤ 630000)) HD.out HP0.out).mono ?_
  rintro en w7 ⟨rfl, hq⟩
  obtain ⟨v7, hv⟩ : ∃ v7 : Int, v7 = v6 % p := ⟨_, rfl⟩
  have O7 := Lib.hid (show Own R w w7 ((w2.heap.size, v4) :: (w.heap.size, v7) :: L) from by rw [hv]; exact hq)
  have S7 := Lib.hid (show Sz 64 v7 from by rw [hv]; exact Sz.emod _ HP0.out SP.out)
  have E7 := Lib.hid hv
  clear hq hv
  clear cP cB
  obtain ⟨cP, cB⟩ := K0.out w7 O7.out.kept
  go_wp2_with fail
  have hv : v7 = polyV X b p := by unfold polyV; rw [E7.out, E6.out, E5.out, E4.out, E3.out, E2.out, E1.out]
  have hO : Own R w w7 (((w.heap.size, polyV X b p) : Nat × Int) :: L) := by rw [← hv]; exact Own.choose (L := L) (A := [(w2.heap.size, v4), (w.heap.size, v7)]) O7.out [1] (by decide) (by simp)
  have HO := Lib.hid hO
  clear hv hO
  go_ret
  exact ⟨w.heap.size, rfl, HSS.out.after HO.out, NRx3.out⟩

theorem cmpI_in {a b : Int} (h : a < b) : cmpI a b = -1 := by unfold cmpI; rw [if_pos h]
theorem cmpI_eq {a b : Int} : (cmpI a b == 0) = decide (a = b) := by
  unfold cmpI
  split
  · rename_i h; rw [decide_eq_false (by omega)]; rfl
  · split
    · rename_i h; rw [decide_eq_false (by omega)]; rfl
    · rw [decide_eq_true (by omega)]; rfl
set_option maxHeartbeats 4000000 in
set_option maxRecDepth 100000 in
theorem onCurveO (h : Own R w0 w L) (c x y P B ix iy iP iB : Nat) (X Y b p : Int) (hcP : w.cell? ⟨c, 0, .none⟩ = some (ptr P)) (hcB : w.cell? ⟨c, 2, .none⟩ = some (ptr B)) (hRc : R c) (hx : L[ix]? = some (x, X)) (hy : L[iy]? = some (y, Y)) (hP : L[iP]? = some (P, p)) (hB : L[iB]? = some (B, b))
    (x0 : 0 ≤ X) (xp : X < p) (y0 : 0 ≤ Y) (yp : Y < p) (sX : Sz 64 X) (sY : Sz 64 Y) (sp : Sz 64 p) (sb : Sz 64 b) (hdiv : DivOK p.natAbs) (hp0 : p ≠ 0) :
    Calls Tryz.prog 294 #[ptr c, ptr x, ptr y] w (fun e w' => e = .returned (.bool (decide (polyV X b p = Y * Y % p))) ∧ Own R w0 w' L) := by
  have HSS := Lib.hid h
  have HX := Lib.hid hx
  have HY := Lib.hid hy
  have HB := Lib.hid hB
  have HP := Lib.hid hP
  have SX := Lib.hid sX
  have SY := Lib.hid sY
  have SB := Lib.hid sb
  have SP := Lib.hid sp
  have HD := Lib.hid hdiv
  have HP0 := Lib.hid hp0
  have K0 := Lib.hid (fun (w' : World) (k : Kept R w w') => (⟨k.cell hRc hcP, k.cell hRc hcB⟩ : w'.cell? ⟨c, 0, .none⟩ = some (ptr P) ∧ w'.cell? ⟨c, 2, .none⟩ = some (ptr B)))
  have CX := Lib.hid ((cmpI_in xp) ▸ cmpO h.since ix iP hx hP (sX.le (by decide)))
  have CY := Lib.hid (fun n => (cmpI_in yp) ▸ cmpO (h.since.drew n) iy iP hy hP (sY.le (by decide)))
  have SGX := Lib.hid (signO h.since ix hx)
  have SGY := Lib.hid (fun n => signO (h.since.drew n) iy hy)
  obtain ⟨d, hd⟩ : ∃ d, d = decide (polyV X b p = Y * Y % p) := ⟨_, rfl⟩
  rw [← hd]
  have DD := Lib.hid hd
  clear hd
  have sx0 : decide (X < 0) = false := decide_eq_false (Int.not_lt.2 x0)
  have sy0 : decide (Y < 0) = false := decide_eq_false (Int.not_lt.2 y0)
  have HRC := Lib.hid hRc
  have cP := hcP
  have cB := hcB
  clear h hx hy hB hP sX sY sb sp hdiv hp0 hRc hcP hcB xp yp
  unfold ptr at *
  go_enter Tryz.func294, Tryz.ntmps294
  go_wp2_with fail
  refine SGX.out.mono ?_
  rintro en wq ⟨rfl, rfl⟩
  go_wp2_with fail
  refine CX.out.mono ?_
  rintro en wq ⟨rfl, n1, rfl⟩
  go_wp2_with fail
  refine (SGY.out n1).mono ?_
  rintro en wq ⟨rfl, rfl⟩
  go_wp2_with fail
  refine (CY.out n1).mono ?_
  rintro en wq ⟨rfl, n2, rfl⟩
  obtain ⟨wA, hwA⟩ : ∃ wA, wA = (w.drewN n1).drewN n2 := ⟨_, rfl⟩
  have OA := Lib.hid (show Own R w wA L by rw [hwA]; exact (HSS.out.since.drew n1).drew n2)
  rw [← hwA]
  clear hwA cP cB CX CY SGX SGY
  obtain ⟨cP, cB⟩ := K0.out wA OA.out.kept
  obtain ⟨hN, hR⟩ := OA.out.new
  have HN0 := Lib.hid hN
  have NRy2 := Lib.hid hR
  clear hN hR
  go_wp2_with fail
  refine (mulO HN0.out 0 (iy + 1) (iy + 1) rfl HY.out HY.out NRy2.out (SY.out.le (by decide : 64 ≤ 704)) (SY.out.le (by decide : 64 ≤ 2496))).mono ?_
  rintro en w1 ⟨rfl, hq⟩
  obtain ⟨v1, hv⟩ : ∃ v1 : Int, v1 = Y * Y := ⟨_, rfl⟩
  have O1 := Lib.hid (show Own R w w1 ((wA.heap.size, v1) :: L) from by rw [hv]; exact hq)
  have S1 := Lib.hid (show Sz 128 v1 from by rw [hv]; exact SY.out.mul SY.out)
  have E1 := Lib.hid hv
  clear hq hv
  clear cP cB
  obtain ⟨cP, cB⟩ := K0.out w1 O1.out.kept
  go_wp2_with fail
  refine (modO O1.out 0 0 (iP + 1) rfl rfl HP.out (by omega) NRy2.out (S1.out.le (by decide : 128 ≤ 630000)) (SP.out.le (by decide : 64 ≤ 630000)) HD.out HP0.out).mono ?_
  rintro en w2 ⟨rfl, hq⟩
  obtain ⟨v2, hv⟩ : ∃ v2 : Int, v2 = v1 % p := ⟨_, rfl⟩
  have O2 := Lib.hid (show Own R w w2 ((wA.heap.size, v2) :: L) from by rw [hv]; exact hq)
  have S2 := Lib.hid (show Sz 64 v2 from by rw [hv]; exact Sz.emod _ HP0.out SP.out)
  have E2 := Lib.hid hv
  clear hq hv
  clear cP cB
  obtain ⟨cP, cB⟩ := K0.out w2 O2.out.kept
  go_wp2_with fail
  refine (polyO O2.out.since c x P B (ix + 1) (iP + 1) (iB + 1) X b p (K0.out _ O2.out.kept).1 (K0.out _ O2.out.kept).2 HRC.out HX.out HP.out HB.out SX.out SP.out SB.out HD.out HP0.out).mono ?_
  rintro en w3 ⟨q, rfl, hq, hqR⟩
  have O3 := Lib.hid (show Own R w w3 ((q, polyV X b p) :: (wA.heap.size, v2) :: L) from O2.out.after hq)
  clear hq hqR
  have hb : (cmpI (polyV X b p) v2 == 0) = d := by rw [DD.out, cmpI_eq, E2.out, E1.out]
  have SPV := Lib.hid (show Sz 64 (polyV X b p) from Sz.emod _ HP0.out SP.out)
  have CF := Lib.hid (cmpO O3.out 0 1 rfl rfl (SPV.out.le (by decide)))
  have HFI := Lib.hid (fun n => (HSS.out.after O3.out.tail.tail).drew n)
  generalize cmpI (polyV X b p) v2 = cr at *
  clear cP cB
  go_wp2_with fail
  refine CF.out.mono ?_
  rintro en w4 ⟨rfl, n3, rfl⟩
  go_wp2_with fail
  go_ret
  exact ⟨rfl, HFI.out n3⟩
end
end Go.Proofs.YtohhkjamddojmaaGreatDoor.Big
