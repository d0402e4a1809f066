/- The curve y^2 = x^3 - 3x + b: is a point on it? The curve that is worked with by its twist, as a user has it. Is a point on a curve that is worked with by its twist? -/
import Derived.Test.YtohhkjamddojmaaGreatDoorJA
import Derived.Test.YtohhkjamddojmaaGreatDoorTwR
import Derived.Test.YtohhkjamddojmaaGreatDoorTF
namespace Go.Proofs.YtohhkjamddojmaaGreatDoor.Big
open Go.RowKit
attribute [local go_sem] ptr
attribute [local irreducible] Sz

section
variable {R : Nat → Prop} {w0 w w' : World} {L L' : List (Nat × Int)}
/-- what 'polynomial' gives -/
def polyV (X b p : Int) : Int := (X * X * X - (X * 2 ^ 1 + X) + b) % p
set_option maxHeartbeats 4000000 in
set_option maxRecDepth 100000 in
theorem polyO (h : Own R w0 w L) (c x P B ix iP iB : Nat) (X b p : Int) (hcP : w.cell? ⟨c, 0, .none⟩ = some (ptr P)) (hcB : w.cell? ⟨c, 2, .none⟩ = some (ptr B)) (hRc : R c) (hx : L[ix]? = some (x, X)) (hP : L[iP]? = some (P, p)) (hB : L[iB]? = some (B, b))
    (sX : Sz 64 X) (sp : Sz 64 p) (sb : Sz 64 b) (hdiv : DivOK p.natAbs) (hp0 : p ≠ 0) :
    Calls Tryz.prog 302 #[ptr c, ptr x] w (NewO R w0 (polyV X b p) L) := by
  have HSS := Lib.hid h
  have O0 := Lib.hid h.since
  have HX := Lib.hid hx
  have HB := Lib.hid hB
  have HP := Lib.hid hP
  have SX := Lib.hid sX
  have SB := Lib.hid sb
  have SP := Lib.hid sp
  have HD := Lib.hid hdiv
  have HP0 := Lib.hid hp0
  have K0 := Lib.hid (fun (w' : World) (k : Kept R w w') => (⟨k.cell hRc hcP, k.cell hRc hcB⟩ : w'.cell? ⟨c, 0, .none⟩ = some (ptr P) ∧ w'.cell? ⟨c, 2, .none⟩ = some (ptr B)))
  have cP := hcP
  have cB := hcB
  clear h hx hB hP sX sb sp hdiv hp0 hRc hcP hcB
  unfold ptr at *
  go_enter Tryz.func302, Tryz.ntmps302
  obtain ⟨hN, hR⟩ := O0.out.new
  have HN0 := Lib.hid hN
  have NRx3 := Lib.hid hR
  clear hN hR
  go_wp2_with fail
  refine (mulO HN0.out 0 (ix + 1) (ix + 1) rfl HX.out HX.out NRx3.out (SX.out.le (by decide : 64 ≤ 704)) (SX.out.le (by decide : 64 ≤ 2496))).mono ?_
  rintro en w1 ⟨rfl, hq⟩
  obtain ⟨v1, hv⟩ : ∃ v1 : Int, v1 = X * X := ⟨_, rfl⟩
  have O1 := Lib.hid (show Own R w w1 ((w.heap.size, v1) :: L) from by rw [hv]; exact hq)
  have S1 := Lib.hid (show Sz 128 v1 from by rw [hv]; exact SX.out.mul SX.out)
  have E1 := Lib.hid hv
  clear hq hv
  clear cP cB
  obtain ⟨cP, cB⟩ := K0.out w1 O1.out.kept
  go_wp2_with fail
  refine (mulO O1.out 0 0 (ix + 1) rfl rfl HX.out NRx3.out (S1.out.le (by decide : 128 ≤ 704)) (SX.out.le (by decide : 64 ≤ 2496))).mono ?_
  rintro en w2 ⟨rfl, hq⟩
  obtain ⟨v2, hv⟩ : ∃ v2 : Int, v2 = v1 * X := ⟨_, rfl⟩
  have O2 := Lib.hid (show Own R w w2 ((w.heap.size, v2) :: L) from by rw [hv]; exact hq)
  have S2 := Lib.hid (show Sz 192 v2 from by rw [hv]; exact S1.out.mul SX.out)
  have E2 := Lib.hid hv
  clear hq hv
  clear cP cB
  obtain ⟨cP, cB⟩ := K0.out w2 O2.out.kept
  obtain ⟨hN, hR⟩ := O2.out.new
  have HN2 := Lib.hid hN
  have NRt := Lib.hid hR
  clear hN hR
  go_wp2_with fail
  refine (lshO HN2.out 0 (ix + 2) 1 rfl HX.out NRt.out (SX.out.le (by decide : 64 ≤ 640000)) (by decide) (by decide)).mono ?_
  rintro en w3 ⟨rfl, hq⟩
  obtain ⟨v3, hv⟩ : ∃ v3 : Int, v3 = X * 2 ^ 1 := ⟨_, rfl⟩
  have O3 := Lib.hid (show Own R w w3 ((w2.heap.size, v3) :: (w.heap.size, v2) :: L) from by rw [hv]; exact hq)
  have S3 := Lib.hid (show Sz 65 v3 from by rw [hv]; exact sz_lsh 1 SX.out)
  have E3 := Lib.hid hv
  clear hq hv
  clear cP cB
  obtain ⟨cP, cB⟩ := K0.out w3 O3.out.kept
  go_wp2_with fail
  refine (addO O3.out 0 0 (ix + 2) rfl rfl HX.out NRt.out (S3.out.le (by decide : 65 ≤ 640000)) (SX.out.le (by decide : 64 ≤ 640000))).mono ?_
  rintro en w4 ⟨rfl, hq⟩
  obtain ⟨v4, hv⟩ : ∃ v4 : Int, v4 = v3 + X := ⟨_, rfl⟩
  have O4 := Lib.hid (show Own R w w4 ((w2.heap.size, v4) :: (w.heap.size, v2) :: L) from by rw [hv]; exact hq)
  have S4 := Lib.hid (show Sz 66 v4 from by rw [hv]; exact (S3.out.le (by decide : 65 ≤ 65)).add (SX.out.le (by decide : 64 ≤ 65)))
  have E4 := Lib.hid hv
  clear hq hv
  clear cP cB
  obtain ⟨cP, cB⟩ := K0.out w4 O4.out.kept
  go_wp2_with fail
  refine (subO O4.out 1 1 0 rfl rfl rfl NRx3.out (S2.out.le (by decide : 192 ≤ 640000)) (S4.out.le (by decide : 66 ≤ 640000))).mono ?_
  rintro en w5 ⟨rfl, hq⟩
  obtain ⟨v5, hv⟩ : ∃ v5 : Int, v5 = v2 - v4 := ⟨_, rfl⟩
  have O5 := Lib.hid (show Own R w w5 ((w2.heap.size, v4) :: (w.heap.size, v5) :: L) from by rw [hv]; exact hq)
  have S5 := Lib.hid (show Sz 193 v5 from by rw [hv]; exact (S2.out.le (by decide : 192 ≤ 192)).sub (S4.out.le (by decide : 66 ≤ 192)))
  have E5 := Lib.hid hv
  clear hq hv
  clear cP cB
  obtain ⟨cP, cB⟩ := K0.out w5 O5.out.kept
  go_wp2_with fail
  refine (addO O5.out 1 1 (iB + 2) rfl rfl HB.out NRx3.out (S5.out.le (by decide : 193 ≤ 640000)) (SB.out.le (by decide : 64 ≤ 640000))).mono ?_
  rintro en w6 ⟨rfl, hq⟩
  obtain ⟨v6, hv⟩ : ∃ v6 : Int, v6 = v5 + b := ⟨_, rfl⟩
  have O6 := Lib.hid (show Own R w w6 ((w2.heap.size, v4) :: (w.heap.size, v6) :: L) from by rw [hv]; exact hq)
  have S6 := Lib.hid (show Sz 194 v6 from by rw [hv]; exact (S5.out.le (by decide : 193 ≤ 193)).add (SB.out.le (by decide : 64 ≤ 193)))
  have E6 := Lib.hid hv
  clear hq hv
  clear cP cB
  obtain ⟨cP, cB⟩ := K0.out w6 O6.out.kept
  go_wp2_with fail
  refine (modO O6.out 1 1 (iP + 2) rfl rfl HP.out (by omega) NRx3.out (S6.out.le (by decide : 194 ≤ 630000)) (SP.out.le (by decide : 64 ≤ 630000)) HD.out HP0.out).mono ?_
  rintro en w7 ⟨rfl, hq⟩
  obtain ⟨v7, hv⟩ : ∃ v7 : Int, v7 = v6 % p := ⟨_, rfl⟩
  have O7 := Lib.hid (show Own R w w7 ((w2.heap.size, v4) :: (w.heap.size, v7) :: L) from by rw [hv]; exact hq)
  have S7 := Lib.hid (show Sz 64 v7 from by rw [hv]; exact Sz.emod _ HP0.out SP.out)
  have E7 := Lib.hid hv
  clear hq hv
  clear cP cB
  obtain ⟨cP, cB⟩ := K0.out w7 O7.out.kept
  go_wp2_with fail
  have hv : v7 = polyV X b p := by unfold polyV; rw [E7.out, E6.out, E5.out, E4.out, E3.out, E2.out, E1.out]
  have hO : Own R w w7 (((w.heap.size, polyV X b p) : Nat × Int) :: L) := by rw [← hv]; exact Own.choose (L := L) (A := [(w2.heap.size, v4), (w.heap.size, v7)]) O7.out [1] (by decide) (by simp)
  have HO := Lib.hid hO
  clear hv hO
  go_ret
  exact ⟨w.heap.size, rfl, HSS.out.after HO.out, NRx3.out⟩

theorem cmpI_in {a b : Int} (h : a < b) : cmpI a b = -1 := by unfold cmpI; rw [if_pos h]
theorem cmpI_eq {a b : Int} : (cmpI a b == 0) = decide (a = b) := by
  unfold cmpI
  split
  · rename_i h; rw [decide_eq_false (by omega)]; rfl
  · split
    · rename_i h; rw [decide_eq_false (by omega)]; rfl
    · rw [decide_eq_true (by omega)]; rfl
set_option maxHeartbeats 4000000 in
set_option maxRecDepth 100000 in
theorem onCurveO (h : Own R w0 w L) (c x y P B ix iy iP iB : Nat) (X Y b p : Int) (hcP : w.cell? ⟨c, 0, .none⟩ = some (ptr P)) (hcB : w.cell? ⟨c, 2, .none⟩ = some (ptr B)) (hRc : R c) (hx : L[ix]? = some (x, X)) (hy : L[iy]? = some (y, Y)) (hP : L[iP]? = some (P, p)) (hB : L[iB]? = some (B, b))
    (x0 : 0 ≤ X) (xp : X < p) (y0 : 0 ≤ Y) (yp : Y < p) (sX : Sz 64 X) (sY : Sz 64 Y) (sp : Sz 64 p) (sb : Sz 64 b) (hdiv : DivOK p.natAbs) (hp0 : p ≠ 0) :
    Calls Tryz.prog 294 #[ptr c, ptr x, ptr y] w (fun e w' => e = .returned (.bool (decide (polyV X b p = Y * Y % p))) ∧ Own R w0 w' L) := by
  have HSS := Lib.hid h
  have HX := Lib.hid hx
  have HY := Lib.hid hy
  have HB := Lib.hid hB
  have HP := Lib.hid hP
  have SX := Lib.hid sX
  have SY := Lib.hid sY
  have SB := Lib.hid sb
  have SP := Lib.hid sp
  have HD := Lib.hid hdiv
  have HP0 := Lib.hid hp0
  have K0 := Lib.hid (fun (w' : World) (k : Kept R w w') => (⟨k.cell hRc hcP, k.cell hRc hcB⟩ : w'.cell? ⟨c, 0, .none⟩ = some (ptr P) ∧ w'.cell? ⟨c, 2, .none⟩ = some (ptr B)))
  have CX := Lib.hid ((cmpI_in xp) ▸ cmpO h.since ix iP hx hP (sX.le (by decide)))
  have CY := Lib.hid (fun n => (cmpI_in yp) ▸ cmpO (h.since.drew n) iy iP hy hP (sY.le (by decide)))
  have SGX := Lib.hid (signO h.since ix hx)
  have SGY := Lib.hid (fun n => signO (h.since.drew n) iy hy)
  obtain ⟨d, hd⟩ : ∃ d, d = decide (polyV X b p = Y * Y % p) := ⟨_, rfl⟩
  rw [← hd]
  have DD := Lib.hid hd
  clear hd
  have sx0 : decide (X < 0) = false := decide_eq_false (Int.not_lt.2 x0)
  have sy0 : decide (Y < 0) = false := decide_eq_false (Int.not_lt.2 y0)
  have HRC := Lib.hid hRc
  have cP := hcP
  have cB := hcB
  clear h hx hy hB hP sX sY sb sp hdiv hp0 hRc hcP hcB xp yp
  unfold ptr at *
  go_enter Tryz.func294, Tryz.ntmps294
  go_wp2_with fail
  refine SGX.out.mono ?_
  rintro en wq ⟨rfl, rfl⟩
  go_wp2_with fail
  refine CX.out.mono ?_
  rintro en wq ⟨rfl, n1, rfl⟩
  go_wp2_with fail
  refine (SGY.out n1).mono ?_
  rintro en wq ⟨rfl, rfl⟩
  go_wp2_with fail
  refine (CY.out n1).mono ?_
  rintro en wq ⟨rfl, n2, rfl⟩
  obtain ⟨wA, hwA⟩ : ∃ wA, wA = (w.drewN n1).drewN n2 := ⟨_, rfl⟩
  have OA := Lib.hid (show Own R w wA L by rw [hwA]; exact (HSS.out.since.drew n1).drew n2)
  rw [← hwA]
  clear hwA cP cB CX CY SGX SGY
  obtain ⟨cP, cB⟩ := K0.out wA OA.out.kept
  obtain ⟨hN, hR⟩ := OA.out.new
  have HN0 := Lib.hid hN
  have NRy2 := Lib.hid hR
  clear hN hR
  go_wp2_with fail
  refine (mulO HN0.out 0 (iy + 1) (iy + 1) rfl HY.out HY.out NRy2.out (SY.out.le (by decide : 64 ≤ 704)) (SY.out.le (by decide : 64 ≤ 2496))).mono ?_
  rintro en w1 ⟨rfl, hq⟩
  obtain ⟨v1, hv⟩ : ∃ v1 : Int, v1 = Y * Y := ⟨_, rfl⟩
  have O1 := Lib.hid (show Own R w w1 ((wA.heap.size, v1) :: L) from by rw [hv]; exact hq)
  have S1 := Lib.hid (show Sz 128 v1 from by rw [hv]; exact SY.out.mul SY.out)
  have E1 := Lib.hid hv
  clear hq hv
  clear cP cB
  obtain ⟨cP, cB⟩ := K0.out w1 O1.out.kept
  go_wp2_with fail
  refine (modO O1.out 0 0 (iP + 1) rfl rfl HP.out (by omega) NRy2.out (S1.out.le (by decide : 128 ≤ 630000)) (SP.out.le (by decide : 64 ≤ 630000)) HD.out HP0.out).mono ?_
  rintro en w2 ⟨rfl, hq⟩
  obtain ⟨v2, hv⟩ : ∃ v2 : Int, v2 = v1 % p := ⟨_, rfl⟩
  have O2 := Lib.hid (show Own R w w2 ((wA.heap.size, v2) :: L) from by rw [hv]; exact hq)
  have S2 := Lib.hid (show Sz 64 v2 from by rw [hv]; exact Sz.emod _ HP0.out SP.out)
  have E2 := Lib.hid hv
  clear hq hv
  clear cP cB
  obtain ⟨cP, cB⟩ := K0.out w2 O2.out.kept
  go_wp2_with fail
  refine (polyO O2.out.since c x P B (ix + 1) (iP + 1) (iB + 1) X b p (K0.out _ O2.out.kept).1 (K0.out _ O2.out.kept).2 HRC.out HX.out HP.out HB.out SX.out SP.out SB.out HD.out HP0.out).mono ?_
  rintro en w3 ⟨q, rfl, hq, hqR⟩
  have O3 := Lib.hid (show Own R w w3 ((q, polyV X b p) :: (wA.heap.size, v2) :: L) from O2.out.after hq)
  clear hq hqR
  have hb : (cmpI (polyV X b p) v2 == 0) = d := by rw [DD.out, cmpI_eq, E2.out, E1.out]
  have SPV := Lib.hid (show Sz 64 (polyV X b p) from Sz.emod _ HP0.out SP.out)
  have CF := Lib.hid (cmpO O3.out 0 1 rfl rfl (SPV.out.le (by decide)))
  have HFI := Lib.hid (fun n => (HSS.out.after O3.out.tail.tail).drew n)
  generalize cmpI (polyV X b p) v2 = cr at *
  clear cP cB
  go_wp2_with fail
  refine CF.out.mono ?_
  rintro en w4 ⟨rfl, n3, rfl⟩
  go_wp2_with fail
  go_ret
  exact ⟨rfl, HFI.out n3⟩
end
end Go.Proofs.YtohhkjamddojmaaGreatDoor.Big

namespace Go.Proofs.YtohhkjamddojmaaGreatDoor.Big
open Go.RowKit
attribute [local go_sem] ptr
attribute [local irreducible] Sz

section
variable {R : Nat → Prop} {w0 w w' : World} {L L' : List (Nat × Int)}
/-- RcP, behind an interface -/
def RcI (R : Nat → Prop) (w0 : World) (tw : Value) (c zg : Nat) (L : List (Nat × Int)) (g p : Nat) (e : Ending) (w' : World) : Prop :=
  ∃ rc, RcP R w0 tw c zg L g p (.returned (ptr rc)) w' ∧ e = .returned (.iface 181 (ptr rc))
set_option maxHeartbeats 2000000 in
theorem zzNewO (h : Own R w0 w L) (ct c zg P ig iP g p : Nat) (hcP : w.cell? ⟨c, 0, .none⟩ = some (ptr P)) (hRc : R c) (hg : L[ig]? = some (zg, (g : Int))) (hP : L[iP]? = some (P, (p : Int))) (g0 : 0 < g) (gp : g < p) (p2 : 2 ≤ p) (pB : p < B64) (hgc : Int.gcd g p = 1) :
    Calls Tryz.prog 127 #[.iface 129 (ptr ct), ptr c, ptr zg] w (RcI R w0 (.iface 129 (ptr ct)) c zg L g p) := by
  have HC := Lib.hid (newrcurveI h ct c zg P ig iP g p hcP hRc hg hP g0 gp p2 pB hgc)
  clear h hcP hRc hg hP g0 gp p2 pB hgc
  unfold ptr at *
  go_enter Tryz.func127, Tryz.ntmps127
  go_wp2_with fail
  refine HC.out.mono ?_
  rintro e w1 h1
  obtain ⟨rc, n1, n2, n3, n4, zi, t, rfl, hh⟩ := h1
  have H1 := Lib.hid (show RcP R w0 (.iface 129 (ptr ct)) c zg L g p (.returned (ptr rc)) w1 from ⟨rc, n1, n2, n3, n4, zi, t, rfl, hh⟩)
  clear hh HC
  unfold ptr at *
  go_wp2_with fail
  go_ret
  exact ⟨rc, H1.out, rfl⟩

theorem rcp_kept {tw : Value} {c zg g p : Nat} {e : Ending} (h : RcP R w0 tw c zg L g p e w') : Kept R w0 w' := by
  obtain ⟨rc, n1, n2, n3, n4, zi, t, _, _, h3, _⟩ := h
  exact h3.kept
/-- what 'curve' gives: the curve, its parameters, its twist's; what is kept from here on (G) -/
def CurveP (R : Nat → Prop) (w0 : World) (L : List (Nat × Int)) (p b z : Nat) (e : Ending) (w' : World) : Prop :=
  ∃ (rc ct c qP qB pP pB pz n1 n2 n3 n4 zi t : Nat) (G : Nat → Prop), e = .returned (.iface 181 (ptr rc)) ∧ G rc ∧ G c ∧ G ct ∧
    w'.heap[rc]? = some (.cells #[.iface 129 (ptr ct), ptr c, ptr pz, ptr zi, ptr n1, ptr n2, ptr n3, ptr n4] 208) ∧
    w'.heap[c]? = some (.cells #[ptr pP, .pointer .none, ptr pB, .pointer .none, .pointer .none, .int .i64 0, .string ⟨#[]⟩] 184) ∧
    w'.heap[ct]? = some (.cells #[ptr qP, .pointer .none, ptr qB, .pointer .none, .pointer .none, .int .i64 0, .string ⟨#[]⟩] 184) ∧
    Own G w' w' ((n4, ((t ^ 3 % p : Nat) : Int)) :: (n3, ((t ^ 2 % p : Nat) : Int)) :: (n2, ((z ^ 3 % p : Nat) : Int)) :: (n1, ((z ^ 2 % p : Nat) : Int)) :: (pz, (z : Int)) :: (pB, (b : Int)) :: (pP, (p : Int)) :: (qB, (b : Int)) :: (qP, (p : Int)) :: L) ∧
    (∀ w'' M, Own G w' w'' M → Own R w0 w'' M) ∧ (∀ k, R k → G k) ∧ t < p ∧ (p : Int) ∣ t * z - 1

set_option maxHeartbeats 8000000 in
set_option maxRecDepth 100000 in
theorem curveO (h : Own R w0 w L) (p b z : Nat) (z0 : 0 < z) (zp : z < p) (bp : b < p) (p2 : 2 ≤ p) (p63 : p < 9223372036854775808) (hgc : Int.gcd z p = 1) :
    Calls Tryz.prog 88 #[.agg #[.int .i64 p, .int .i64 b, .int .i64 z]] w (CurveP R w0 L p b z) := by
  have hG := h.guard (.cells #[.int .i64 p, .int .i64 b, .int .i64 z] 57)
  have hnew : (w.alloc (.cells #[.int .i64 p, .int .i64 b, .int .i64 z] 57)).heap[w.heap.size]? = some (.cells #[.int .i64 p, .int .i64 b, .int .i64 z] 57) := heap_alloc_new _ _
  have c0 : (w.alloc (.cells #[.int .i64 p, .int .i64 b, .int .i64 z] 57)).cell? ⟨w.heap.size, 0, .none⟩ = some (.int .i64 p) := by unfold World.cell?; rw [hnew]; rfl
  have c1 : (w.alloc (.cells #[.int .i64 p, .int .i64 b, .int .i64 z] 57)).cell? ⟨w.heap.size, 1, .none⟩ = some (.int .i64 b) := by unfold World.cell?; rw [hnew]; rfl
  have c2 : (w.alloc (.cells #[.int .i64 p, .int .i64 b, .int .i64 z] 57)).cell? ⟨w.heap.size, 2, .none⟩ = some (.int .i64 z) := by unfold World.cell?; rw [hnew]; rfl
  have U0 : ∀ w'' M, Own (RO R w.heap.size) (w.alloc (.cells #[.int .i64 p, .int .i64 b, .int .i64 z] 57)) w'' M → Own R w0 w'' M := fun w'' M hh => Own.unguard (h.box _) hnew (by intro _ _ _ _ e; simp at e) hh
  have K5 := Lib.hid (fun (w' : World) (k : Kept (RO R w.heap.size) (w.alloc (.cells #[.int .i64 p, .int .i64 b, .int .i64 z] 57)) w') => (⟨k.cell (RO.self _ _) c0, k.cell (RO.self _ _) c1, k.cell (RO.self _ _) c2⟩ : w'.cell? ⟨w.heap.size, 0, .none⟩ = some (.int .i64 p) ∧ w'.cell? ⟨w.heap.size, 1, .none⟩ = some (.int .i64 b) ∧ w'.cell? ⟨w.heap.size, 2, .none⟩ = some (.int .i64 z)))
  have HU0 := Lib.hid U0
  have HLOW := Lib.hid (show ∀ k, R k → RO R w.heap.size k from fun k hk => .inl hk)
  have HG := Lib.hid hG
  have P63 := Lib.hid p63
  have Z63 := Lib.hid (Nat.lt_trans zp p63)
  have B63 := Lib.hid (Nat.lt_trans bp p63)
  have G0 := Lib.hid z0
  have GP := Lib.hid zp
  have P2 := Lib.hid p2
  have PB := Lib.hid (Nat.lt_trans p63 (by decide : 9223372036854775808 < B64))
  have GC := Lib.hid hgc
  generalize hR1 : RO R w.heap.size = R1 at *
  clear h hG z0 zp bp p2 p63 hgc hnew U0 hR1
  unfold ptr at *
  go_enter Tryz.func88, Tryz.ntmps88
  go_wp2_with fail
  go_region_held3 (fun w' => w'.cell? ⟨w.heap.size, 0, .none⟩ = some (.int .i64 p) ∧ w'.cell? ⟨w.heap.size, 1, .none⟩ = some (.int .i64 b) ∧ w'.cell? ⟨w.heap.size, 2, .none⟩ = some (.int .i64 z)) (go_keep) (first | (go_at_call 127; refine (zzNewO H3.out ct c pz pP 0 2 z p (H3.out.keep HC2.out (RO.self _ _)) (RO.self _ _) rfl rfl G0.out GP.out P2.out PB.out GC.out).mono ?_; rintro en w4 ⟨rc, h4, rfl⟩; have H4 := Lib.hid h4; obtain ⟨q0, q1, q2⟩ := K5.out _ (HK2.out.trans (rcp_kept h4).ro.ro); clear h4) | (go_at_call 78; refine (numO H2.out z Z63.out).mono ?_; rintro en w3 ⟨pz, rfl, h3, hr3⟩; have hk := HK2.out.trans h3.kept.ro.ro; obtain ⟨q0, q1, q2⟩ := K5.out _ hk; have HK3 := Lib.hid hk; have H3 := Lib.hid h3; clear h3 hr3 hk) | (go_at_call 77; refine (paramsO H1.out p b z P63.out B63.out).mono ?_; rintro en w2 ⟨c, pP, pB, rfl, hu2, hG2, nP2, nB2, hb2⟩; have hk := HK1.out.trans hu2.kept.ro; obtain ⟨q0, q1, q2⟩ := K5.out _ hk; have HK2 := Lib.hid hk; have H2 := Lib.hid hG2; have HU2 := Lib.hid hu2; have HB2 := Lib.hid hb2; have HC2 := Lib.hid (block_cell (k := 0) hb2 rfl); clear hu2 hG2 nP2 nB2 hb2 hk) | (go_at_call 77; refine (paramsO (HG.out.drew 1) p b z P63.out B63.out).mono ?_; rintro en w1 ⟨ct, qP, qB, rfl, hu1, hG1, nP1, nB1, hb1⟩; obtain ⟨q0, q1, q2⟩ := K5.out _ hu1.kept; have HK1 := Lib.hid hu1.kept; have H1 := Lib.hid hG1; have HU1 := Lib.hid hu1; have HB1 := Lib.hid hb1; clear hu1 hG1 nP1 nB1 hb1))
  all_goals
    obtain ⟨rc', n1, n2, n3, n4, zi, t, he, hrc, hO4, hG4, ht, htd⟩ := H4.out
    obtain rfl : rc = rc' := by simpa [ptr] using he
    have hp : ∀ n p l q, (.cells #[ptr pP, .pointer .none, ptr pB, .pointer .none, .pointer .none, .int .i64 0, .string ⟨#[]⟩] 184 : Obj) ≠ .cells #[.bool n, .slice p l q] 172 (0, 0) := by intro _ _ _ _ e; simp at e
    have hp1 : ∀ n p l q, (.cells #[ptr qP, .pointer .none, ptr qB, .pointer .none, .pointer .none, .int .i64 0, .string ⟨#[]⟩] 184 : Obj) ≠ .cells #[.bool n, .slice p l q] 172 (0, 0) := by intro _ _ _ _ e; simp at e
    have hct2 := HU2.out.block HB1.out (RO.self _ _)
    have FIN : CurveP R w0 L p b z (.returned (.iface 181 (ptr rc))) w4 :=
      ⟨rc, ct, c, qP, qB, pP, pB, pz, n1, n2, n3, n4, zi, t, _, rfl, RO.self _ _, .inl (RO.self _ _), .inl (.inl (RO.self _ _)), hrc, hO4.block HB2.out (RO.self _ _), hO4.block hct2 (.inl (RO.self _ _)), hG4,
        fun w'' M hh => HU0.out _ _ (Own.unguard HU1.out HB1.out hp1 (Own.unguard HU2.out HB2.out hp (Own.unguard hO4 hrc (by intro _ _ _ _ e; simp at e) hh))), fun k hk => .inl (.inl (.inl (HLOW.out k hk))), ht, htd⟩
    have HFIN := Lib.hid FIN
    clear FIN hp hp1 hct2 he hrc hO4 hG4 ht htd H4 HB1 HB2 HU1 HU2
    unfold ptr at *
    go_wp2_with fail
    go_ret
    exact HFIN.out
end
end Go.Proofs.YtohhkjamddojmaaGreatDoor.Big

namespace Go.Proofs.YtohhkjamddojmaaGreatDoor.Big
open Go.RowKit
attribute [local go_sem] ptr

theorem sz64 {n : Nat} (h : n < B64) : Sz 64 (n : Int) := by unfold Sz; unfold B64 at h; omega
attribute [local irreducible] Sz

theorem method_on (a : Addr) (w : World) : (method 437 129 (.pointer (some a)) "IsOnCurve").run Tryz.prog w = .ok (294, .pointer (some a)) w := by kernel_rfl
theorem method_ron (a : Addr) (w : World) : (method 437 181 (.pointer (some a)) "IsOnCurve").run Tryz.prog w = .ok (307, .pointer (some a)) w := by kernel_rfl
section
variable {R : Nat → Prop} {w0 w w' : World} {L L' : List (Nat × Int)}
set_option maxHeartbeats 4000000 in
set_option maxRecDepth 100000 in
theorem rOnO (h : Own R w0 w L) (rc ct c n1 n2 x y P Q B ix iy i1 i2 iP iQ iB : Nat) (X Y A C b p : Nat) (hc0 : w.cell? ⟨rc, 0, .none⟩ = some (.iface 129 (ptr ct))) (hc1 : w.cell? ⟨rc, 1, .none⟩ = some (ptr c)) (hc4 : w.cell? ⟨rc, 4, .none⟩ = some (ptr n1)) (hc5 : w.cell? ⟨rc, 5, .none⟩ = some (ptr n2))
    (hcP : w.cell? ⟨c, 0, .none⟩ = some (ptr P)) (hcQ : w.cell? ⟨ct, 0, .none⟩ = some (ptr Q)) (hcB : w.cell? ⟨ct, 2, .none⟩ = some (ptr B)) (hRr : R rc) (hRc : R c) (hRt : R ct)
    (hx : L[ix]? = some (x, (X : Int))) (hy : L[iy]? = some (y, (Y : Int))) (h1 : L[i1]? = some (n1, (A : Int))) (h2 : L[i2]? = some (n2, (C : Int))) (hP : L[iP]? = some (P, (p : Int))) (hQ : L[iQ]? = some (Q, (p : Int))) (hB : L[iB]? = some (B, (b : Int)))
    (p0 : 0 < p) (pB : p < B64) (sX : X < B64) (sY : Y < B64) (sA : A < B64) (sC : C < B64) (sb : b < B64) :
    Calls Tryz.prog 307 #[ptr rc, ptr x, ptr y] w (fun e w' => e = .returned (.bool (decide (polyV ((X * A % p : Nat) : Int) (b : Int) (p : Int) = ((Y * C % p : Nat) : Int) * ((Y * C % p : Nat) : Int) % (p : Int)))) ∧ Own R w0 w' L) := by
  obtain ⟨d, hd⟩ : ∃ d, d = decide (polyV ((X * A % p : Nat) : Int) (b : Int) (p : Int) = ((Y * C % p : Nat) : Int) * ((Y * C % p : Nat) : Int) % (p : Int)) := ⟨_, rfl⟩
  rw [← hd]
  have HSS := Lib.hid h
  have lt1 : ∀ n, n % p < B64 := fun n => Nat.lt_trans (Nat.mod_lt _ p0) pB
  have HT := Lib.hid (fun n => toTwistedO (h.since.drew n) rc c n1 n2 x y P ix iy i1 i2 iP (X : Int) (Y : Int) (A : Int) (C : Int) (p : Int) hc1 hc4 hc5 hcP hRr hRc hx hy h1 h2 hP (sz350 sX) (sz350 sY) (sz350 sA) (sz350 sC) ((sz350 pB).le (by decide)) (divOK_nat pB p0) (by omega))
  have HC := Lib.hid (fun (w1 : World) (tx ty : Nat) (o : Own R w w1 ((ty, ((Y * C % p : Nat) : Int)) :: (tx, ((X * A % p : Nat) : Int)) :: L)) => onCurveO o.since ct tx ty Q B 1 0 (iQ + 2) (iB + 2) ((X * A % p : Nat) : Int) ((Y * C % p : Nat) : Int) (b : Int) (p : Int) (o.kept.cell hRt hcQ) (o.kept.cell hRt hcB) hRt rfl rfl hQ hB (by omega) (Int.ofNat_lt.2 (Nat.mod_lt _ p0)) (by omega) (Int.ofNat_lt.2 (Nat.mod_lt _ p0)) (sz64 (lt1 _)) (sz64 (lt1 _)) (sz64 pB) (sz64 sb) (divOK_nat pB p0) (by omega))
  rw [← hd] at HC
  have K0 := Lib.hid (fun (w' : World) (k : Kept R w w') => (k.cell hRr hc0 : w'.cell? ⟨rc, 0, .none⟩ = some (.iface 129 (ptr ct))))
  have cI := hc0
  have E1 := Lib.hid (show ((X * A % p : Nat) : Int) = (X : Int) * (A : Int) % (p : Int) by push_cast; rfl)
  have E2 := Lib.hid (show ((Y * C % p : Nat) : Int) = (Y : Int) * (C : Int) % (p : Int) by push_cast; rfl)
  clear h hc0 hc1 hc4 hc5 hcP hcQ hcB hRr hRc hRt hx hy h1 h2 hP hQ hB p0 pB sX sY sA sC sb lt1 hd
  have hm := method_on
  unfold ptr at *
  go_enter Tryz.func307, Tryz.ntmps307
  go_wp2_with fail
  go_region_held3 (fun w' => w'.cell? ⟨rc, 0, .none⟩ = some (.iface 129 (.pointer (some ⟨ct, 0, .none⟩)))) (go_keep) (first | (go_at_call 294; refine (HC.out _ _ _ H1.out).mono ?_; rintro en w2 ⟨rfl, h2⟩; have cI := K0.out _ (H1.out.kept.trans h2.kept); have H2 := Lib.hid h2; clear h2) | (go_at_call 118; refine (HT.out _).mono ?_; rintro en w1 ⟨tx, ty, rfl, h1, hr1, hr2⟩; rw [← E1.out, ← E2.out] at h1; have cI := K0.out _ h1.kept; have H1 := Lib.hid h1; clear h1 hr1 hr2))
  all_goals
    have HF := Lib.hid (HSS.out.after (H1.out.after H2.out).tail.tail)
    go_wp2_with fail
    go_ret
    exact ⟨rfl, HF.out⟩
end
end Go.Proofs.YtohhkjamddojmaaGreatDoor.Big
