/- Adding in Jacobian coordinates: the steps as the program takes them. What the steps in Jacobian coordinates come to: plain numbers. -/
import Derived.Test.YtohhkjamddojmaaGreatDoorJA
import Derived.Deep.Cut
import Derived.Test.YtohhkjamddojmaaGreatDoorEcLaw
namespace Go.Proofs.YtohhkjamddojmaaGreatDoor.Big
open Go.RowKit
attribute [local go_sem] ptr
attribute [local irreducible] Sz

section
variable {R : Nat → Prop} {w0 w w' : World} {L L' : List (Nat × Int)}
theorem Own.new3 (h : Own R w0 w L) : Own R w0 (((w.alloc (.cells #[.bool false, .slice .none 0 0] 172)).alloc (.cells #[.bool false, .slice .none 0 0] 172)).alloc (.cells #[.bool false, .slice .none 0 0] 172)) ((w.heap.size + 1 + 1, 0) :: (w.heap.size + 1, 0) :: (w.heap.size, 0) :: L) ∧ ¬ R (w.heap.size + 1 + 1) ∧ ¬ R (w.heap.size + 1) ∧ ¬ R w.heap.size := by
  obtain ⟨h2, r1, r2⟩ := h.new2
  have h3 := h2.new
  have e : ((w.alloc (.cells #[.bool false, .slice .none 0 0] 172)).alloc (.cells #[.bool false, .slice .none 0 0] 172)).heap.size = w.heap.size + 1 + 1 := by
    show (Array.push _ _).size = _
    rw [Array.size_push]
    show (Array.push _ _).size + 1 = _
    rw [Array.size_push]
  rw [e] at h3
  exact ⟨h3.1, h3.2, r1, r2⟩
set_option maxHeartbeats 8000000 in
set_option maxRecDepth 100000 in
theorem addO_z1 (h : Own R w0 w L) (c x1 y1 z1 x2 y2 z2 P i1 j1 k1 i2 j2 k2 iP : Nat) (X1 Y1 Z1 X2 Y2 Z2 p : Int) (hcP : w.cell? ⟨c, 0, .none⟩ = some (ptr P)) (hRc : R c) (hx1 : L[i1]? = some (x1, X1)) (hy1 : L[j1]? = some (y1, Y1)) (hz1 : L[k1]? = some (z1, Z1)) (hx2 : L[i2]? = some (x2, X2)) (hy2 : L[j2]? = some (y2, Y2)) (hz2 : L[k2]? = some (z2, Z2)) (hP : L[iP]? = some (P, p))
    (sX1 : Sz 64 X1) (sY1 : Sz 64 Y1) (sZ1 : Sz 64 Z1) (sX2 : Sz 64 X2) (sY2 : Sz 64 Y2) (sZ2 : Sz 64 Z2) (sp : Sz 64 p) (hdiv : DivOK p.natAbs) (hp0 : p ≠ 0) (hz : Z1 = 0) :
    Calls Tryz.prog 300 #[ptr c, ptr x1, ptr y1, ptr z1, ptr x2, ptr y2, ptr z2] w (TriO R w0 L (fun X3 Y3 Z3 => X3 = X2 ∧ Y3 = Y2 ∧ Z3 = Z2)) := by
  have HZ := Lib.hid hz
  clear hz
  have HSS := Lib.hid h
  have O0 := Lib.hid h.since
  have HX1 := Lib.hid hx1
  have SX1 := Lib.hid sX1
  have HY1 := Lib.hid hy1
  have SY1 := Lib.hid sY1
  have HZ1 := Lib.hid hz1
  have SZ1 := Lib.hid sZ1
  have HX2 := Lib.hid hx2
  have SX2 := Lib.hid sX2
  have HY2 := Lib.hid hy2
  have SY2 := Lib.hid sY2
  have HZ2 := Lib.hid hz2
  have SZ2 := Lib.hid sZ2
  have HP := Lib.hid hP
  have SP := Lib.hid sp
  have HD := Lib.hid hdiv
  have HP0 := Lib.hid hp0
  have HRC := Lib.hid hRc
  have K0 := Lib.hid (fun (w' : World) (k : Kept R w w') => (k.cell hRc hcP : w'.cell? ⟨c, 0, .none⟩ = some (ptr P)))
  obtain ⟨hN, r1, r2, r3⟩ := h.since.new3
  have HN := Lib.hid hN
  have NRz3 := Lib.hid r1
  have NRy3 := Lib.hid r2
  have NRx3 := Lib.hid r3
  clear h hx1 hy1 hz1 hx2 hy2 hz2 hP sX1 sY1 sZ1 sX2 sY2 sZ2 sp hdiv hp0 hRc hcP hN r1 r2 r3
  unfold ptr at *
  go_enter Tryz.func300, Tryz.ntmps300
  go_wp2_with fail
  refine (signO HN.out (k1 + 3) HZ1.out).mono ?_
  rintro en wA ⟨rfl, hwA⟩
  have OA := Lib.hid (hwA ▸ HN.out : Own R w wA ((w.heap.size + 1 + 1, 0) :: (w.heap.size + 1, 0) :: (w.heap.size, 0) :: L))
  clear hwA HN
  have cP := K0.out wA OA.out.kept
  have hs : ((Z1.sign == (0 : Int))) = true := by rw [HZ.out]; rfl
  go_wp2_with fail
  refine (setO OA.out 2 (i2 + 3) rfl HX2.out NRx3.out (SX2.out.le (by decide : 64 ≤ 640000))).mono ?_
  rintro en w1 ⟨rfl, hq⟩
  obtain ⟨v1, hv⟩ : ∃ v1 : Int, v1 = X2 := ⟨_, rfl⟩
  have O1 := Lib.hid (show Own R w w1 ((w.heap.size + 1 + 1, (0 : Int)) :: (w.heap.size + 1, (0 : Int)) :: (w.heap.size, v1) :: L) from by rw [hv]; exact hq)
  have S1 := Lib.hid (show Sz 64 v1 from by rw [hv]; exact SX2.out)
  have E1 := Lib.hid hv
  clear hq hv
  clear cP
  have cP := K0.out w1 O1.out.kept
  go_wp2_with fail
  refine (setO O1.out 1 (j2 + 3) rfl HY2.out NRy3.out (SY2.out.le (by decide : 64 ≤ 640000))).mono ?_
  rintro en w2 ⟨rfl, hq⟩
  obtain ⟨v2, hv⟩ : ∃ v2 : Int, v2 = Y2 := ⟨_, rfl⟩
  have O2 := Lib.hid (show Own R w w2 ((w.heap.size + 1 + 1, (0 : Int)) :: (w.heap.size + 1, v2) :: (w.heap.size, v1) :: L) from by rw [hv]; exact hq)
  have S2 := Lib.hid (show Sz 64 v2 from by rw [hv]; exact SY2.out)
  have E2 := Lib.hid hv
  clear hq hv
  clear cP
  have cP := K0.out w2 O2.out.kept
  go_wp2_with fail
  refine (setO O2.out 0 (k2 + 3) rfl HZ2.out NRz3.out (SZ2.out.le (by decide : 64 ≤ 640000))).mono ?_
  rintro en w3 ⟨rfl, hq⟩
  obtain ⟨v3, hv⟩ : ∃ v3 : Int, v3 = Z2 := ⟨_, rfl⟩
  have O3 := Lib.hid (show Own R w w3 ((w.heap.size + 1 + 1, v3) :: (w.heap.size + 1, v2) :: (w.heap.size, v1) :: L) from by rw [hv]; exact hq)
  have S3 := Lib.hid (show Sz 64 v3 from by rw [hv]; exact SZ2.out)
  have E3 := Lib.hid hv
  clear hq hv
  clear cP
  have cP := K0.out w3 O3.out.kept
  go_wp2_with fail
  have hO : Own R w w3 (((w.heap.size + 1 + 1, v3) : Nat × Int) :: (w.heap.size + 1, v2) :: (w.heap.size, v1) :: L) := Own.choose (L := L) (A := [(w.heap.size + 1 + 1, v3), (w.heap.size + 1, v2), (w.heap.size, v1)]) O3.out [0, 1, 2] (by decide) (by simp)
  have HO := Lib.hid hO
  clear hO
  have HST := Lib.hid (show v1 = X2 ∧ v2 = Y2 ∧ v3 = Z2 from ⟨E1.out, E2.out, E3.out⟩)
  go_ret3
  exact ⟨w.heap.size, w.heap.size + 1, w.heap.size + 1 + 1, v1, v2, v3, rfl, HSS.out.after HO.out, NRx3.out, NRy3.out, NRz3.out, HST.out⟩
set_option maxHeartbeats 8000000 in
set_option maxRecDepth 100000 in
theorem addO_z2 (h : Own R w0 w L) (c x1 y1 z1 x2 y2 z2 P i1 j1 k1 i2 j2 k2 iP : Nat) (X1 Y1 Z1 X2 Y2 Z2 p : Int) (hcP : w.cell? ⟨c, 0, .none⟩ = some (ptr P)) (hRc : R c) (hx1 : L[i1]? = some (x1, X1)) (hy1 : L[j1]? = some (y1, Y1)) (hz1 : L[k1]? = some (z1, Z1)) (hx2 : L[i2]? = some (x2, X2)) (hy2 : L[j2]? = some (y2, Y2)) (hz2 : L[k2]? = some (z2, Z2)) (hP : L[iP]? = some (P, p))
    (sX1 : Sz 64 X1) (sY1 : Sz 64 Y1) (sZ1 : Sz 64 Z1) (sX2 : Sz 64 X2) (sY2 : Sz 64 Y2) (sZ2 : Sz 64 Z2) (sp : Sz 64 p) (hdiv : DivOK p.natAbs) (hp0 : p ≠ 0) (hz1n : Z1 ≠ 0) (hz : Z2 = 0) :
    Calls Tryz.prog 300 #[ptr c, ptr x1, ptr y1, ptr z1, ptr x2, ptr y2, ptr z2] w (TriO R w0 L (fun X3 Y3 Z3 => X3 = X1 ∧ Y3 = Y1 ∧ Z3 = Z1)) := by
  have HZ := Lib.hid hz
  have HZN := Lib.hid hz1n
  clear hz1n
  clear hz
  have HSS := Lib.hid h
  have O0 := Lib.hid h.since
  have HX1 := Lib.hid hx1
  have SX1 := Lib.hid sX1
  have HY1 := Lib.hid hy1
  have SY1 := Lib.hid sY1
  have HZ1 := Lib.hid hz1
  have SZ1 := Lib.hid sZ1
  have HX2 := Lib.hid hx2
  have SX2 := Lib.hid sX2
  have HY2 := Lib.hid hy2
  have SY2 := Lib.hid sY2
  have HZ2 := Lib.hid hz2
  have SZ2 := Lib.hid sZ2
  have HP := Lib.hid hP
  have SP := Lib.hid sp
  have HD := Lib.hid hdiv
  have HP0 := Lib.hid hp0
  have HRC := Lib.hid hRc
  have K0 := Lib.hid (fun (w' : World) (k : Kept R w w') => (k.cell hRc hcP : w'.cell? ⟨c, 0, .none⟩ = some (ptr P)))
  obtain ⟨hN, r1, r2, r3⟩ := h.since.new3
  have HN := Lib.hid hN
  have NRz3 := Lib.hid r1
  have NRy3 := Lib.hid r2
  have NRx3 := Lib.hid r3
  clear h hx1 hy1 hz1 hx2 hy2 hz2 hP sX1 sY1 sZ1 sX2 sY2 sZ2 sp hdiv hp0 hRc hcP hN r1 r2 r3
  unfold ptr at *
  go_enter Tryz.func300, Tryz.ntmps300
  go_wp2_with fail
  refine (signO HN.out (k1 + 3) HZ1.out).mono ?_
  rintro en wA ⟨rfl, hwA⟩
  have OA := Lib.hid (hwA ▸ HN.out : Own R w wA ((w.heap.size + 1 + 1, 0) :: (w.heap.size + 1, 0) :: (w.heap.size, 0) :: L))
  clear hwA HN
  have cP := K0.out wA OA.out.kept
  have hs1 : ((Z1.sign == (0 : Int))) = false := by rw [beq_eq_false_iff_ne]; exact fun e => HZN.out (Int.sign_eq_zero_iff_zero.1 e)
  have hs : ((Z2.sign == (0 : Int))) = true := by rw [HZ.out]; rfl
  go_wp2_with fail
  refine (signO OA.out (k2 + 3) HZ2.out).mono ?_
  rintro en wq ⟨rfl, rfl⟩
  go_wp2_with fail
  refine (setO OA.out 2 (i1 + 3) rfl HX1.out NRx3.out (SX1.out.le (by decide : 64 ≤ 640000))).mono ?_
  rintro en w1 ⟨rfl, hq⟩
  obtain ⟨v1, hv⟩ : ∃ v1 : Int, v1 = X1 := ⟨_, rfl⟩
  have O1 := Lib.hid (show Own R w w1 ((w.heap.size + 1 + 1, (0 : Int)) :: (w.heap.size + 1, (0 : Int)) :: (w.heap.size, v1) :: L) from by rw [hv]; exact hq)
  have S1 := Lib.hid (show Sz 64 v1 from by rw [hv]; exact SX1.out)
  have E1 := Lib.hid hv
  clear hq hv
  clear cP
  have cP := K0.out w1 O1.out.kept
  go_wp2_with fail
  refine (setO O1.out 1 (j1 + 3) rfl HY1.out NRy3.out (SY1.out.le (by decide : 64 ≤ 640000))).mono ?_
  rintro en w2 ⟨rfl, hq⟩
  obtain ⟨v2, hv⟩ : ∃ v2 : Int, v2 = Y1 := ⟨_, rfl⟩
  have O2 := Lib.hid (show Own R w w2 ((w.heap.size + 1 + 1, (0 : Int)) :: (w.heap.size + 1, v2) :: (w.heap.size, v1) :: L) from by rw [hv]; exact hq)
  have S2 := Lib.hid (show Sz 64 v2 from by rw [hv]; exact SY1.out)
  have E2 := Lib.hid hv
  clear hq hv
  clear cP
  have cP := K0.out w2 O2.out.kept
  go_wp2_with fail
  refine (setO O2.out 0 (k1 + 3) rfl HZ1.out NRz3.out (SZ1.out.le (by decide : 64 ≤ 640000))).mono ?_
  rintro en w3 ⟨rfl, hq⟩
  obtain ⟨v3, hv⟩ : ∃ v3 : Int, v3 = Z1 := ⟨_, rfl⟩
  have O3 := Lib.hid (show Own R w w3 ((w.heap.size + 1 + 1, v3) :: (w.heap.size + 1, v2) :: (w.heap.size, v1) :: L) from by rw [hv]; exact hq)
  have S3 := Lib.hid (show Sz 64 v3 from by rw [hv]; exact SZ1.out)
  have E3 := Lib.hid hv
  clear hq hv
  clear cP
  have cP := K0.out w3 O3.out.kept
  go_wp2_with fail
  have hO : Own R w w3 (((w.heap.size + 1 + 1, v3) : Nat × Int) :: (w.heap.size + 1, v2) :: (w.heap.size, v1) :: L) := Own.choose (L := L) (A := [(w.heap.size + 1 + 1, v3), (w.heap.size + 1, v2), (w.heap.size, v1)]) O3.out [0, 1, 2] (by decide) (by simp)
  have HO := Lib.hid hO
  clear hO
  have HST := Lib.hid (show v1 = X1 ∧ v2 = Y1 ∧ v3 = Z1 from ⟨E1.out, E2.out, E3.out⟩)
  go_ret3
  exact ⟨w.heap.size, w.heap.size + 1, w.heap.size + 1 + 1, v1, v2, v3, rfl, HSS.out.after HO.out, NRx3.out, NRy3.out, NRz3.out, HST.out⟩
/-- the steps up to the test of sameness -/
def AddPre (X1 Y1 Z1 X2 Y2 Z2 p : Int) (v2 v4 v6 v9 v10 v12 v13 v16 v21 : Int) : Prop := ∃ v1 v3 v5 v7 v8 v11 v14 v15 v17 v18 v19 v20 : Int, v1 = Z1 * Z1 ∧ v2 = v1 % p ∧ v3 = Z2 * Z2 ∧ v4 = v3 % p ∧ v5 = X1 * v4 ∧ v6 = v5 % p ∧ v7 = X2 * v2 ∧ v8 = v7 % p ∧ v9 = v8 - v6 ∧ v10 = (if v9 < 0 then v9 + p else v9) ∧ v11 = v10 * 2 ^ 1 ∧ v12 = v11 * v11 ∧ v13 = v10 * v12 ∧ v14 = Y1 * Z2 ∧ v15 = v14 * v4 ∧ v16 = v15 % p ∧ v17 = Y2 * Z1 ∧ v18 = v17 * v2 ∧ v19 = v18 % p ∧ v20 = v19 - v16 ∧ v21 = (if v20 < 0 then v20 + p else v20)
/-- the steps behind it -/
def AddPost (Z1 Z2 p : Int) (v2 v4 v6 v10 v12 v13 v16 v21 : Int) (v29 v36 v42 : Int) : Prop := ∃ v22 v23 v24 v25 v26 v27 v28 v30 v31 v32 v33 v34 v35 v37 v38 v39 v40 v41 : Int, v22 = v21 * 2 ^ 1 ∧ v23 = v6 * v12 ∧ v24 = v22 ∧ v25 = v24 * v24 ∧ v26 = v25 - v13 ∧ v27 = v26 - v23 ∧ v28 = v27 - v23 ∧ v29 = v28 % p ∧ v30 = v22 ∧ v31 = v23 - v29 ∧ v32 = v30 * v31 ∧ v33 = v16 * v13 ∧ v34 = v33 * 2 ^ 1 ∧ v35 = v32 - v34 ∧ v36 = v35 % p ∧ v37 = Z1 + Z2 ∧ v38 = v37 * v37 ∧ v39 = v38 - v2 ∧ v40 = v39 - v4 ∧ v41 = v40 * v10 ∧ v42 = v41 % p
/-- what addJacobian gives of two points whose z is not 0 -/
def AddStepsP (X1 Y1 Z1 X2 Y2 Z2 p X3 Y3 Z3 : Int) : Prop := ∃ zz1 zz2 u1 h0 h i j s1 r : Int, AddPre X1 Y1 Z1 X2 Y2 Z2 p zz1 zz2 u1 h0 h i j s1 r ∧
  (((h0 = 0 ∧ r = 0) ∧ DblSteps X1 Y1 Z1 p X3 Y3 Z3) ∨ (¬ (h0 = 0 ∧ r = 0) ∧ AddPost Z1 Z2 p zz1 zz2 u1 h i j s1 r X3 Y3 Z3))
set_option maxHeartbeats 40000000 in
set_option maxRecDepth 100000 in
theorem addO_gen (h : Own R w0 w L) (c x1 y1 z1 x2 y2 z2 P i1 j1 k1 i2 j2 k2 iP : Nat) (X1 Y1 Z1 X2 Y2 Z2 p : Int) (hcP : w.cell? ⟨c, 0, .none⟩ = some (ptr P)) (hRc : R c) (hx1 : L[i1]? = some (x1, X1)) (hy1 : L[j1]? = some (y1, Y1)) (hz1 : L[k1]? = some (z1, Z1)) (hx2 : L[i2]? = some (x2, X2)) (hy2 : L[j2]? = some (y2, Y2)) (hz2 : L[k2]? = some (z2, Z2)) (hP : L[iP]? = some (P, p))
    (sX1 : Sz 64 X1) (sY1 : Sz 64 Y1) (sZ1 : Sz 64 Z1) (sX2 : Sz 64 X2) (sY2 : Sz 64 Y2) (sZ2 : Sz 64 Z2) (sp : Sz 64 p) (hdiv : DivOK p.natAbs) (hp0 : p ≠ 0) (hz1n : Z1 ≠ 0) (hz2n : Z2 ≠ 0) :
    Calls Tryz.prog 300 #[ptr c, ptr x1, ptr y1, ptr z1, ptr x2, ptr y2, ptr z2] w (TriO R w0 L (AddStepsP X1 Y1 Z1 X2 Y2 Z2 p)) := by
  have HZN1 := Lib.hid hz1n
  have HZN2 := Lib.hid hz2n
  clear hz1n hz2n
  have HSS := Lib.hid h
  have O0 := Lib.hid h.since
  have HX1 := Lib.hid hx1
  have SX1 := Lib.hid sX1
  have HY1 := Lib.hid hy1
  have SY1 := Lib.hid sY1
  have HZ1 := Lib.hid hz1
  have SZ1 := Lib.hid sZ1
  have HX2 := Lib.hid hx2
  have SX2 := Lib.hid sX2
  have HY2 := Lib.hid hy2
  have SY2 := Lib.hid sY2
  have HZ2 := Lib.hid hz2
  have SZ2 := Lib.hid sZ2
  have HP := Lib.hid hP
  have SP := Lib.hid sp
  have HD := Lib.hid hdiv
  have HP0 := Lib.hid hp0
  have HRC := Lib.hid hRc
  have K0 := Lib.hid (fun (w' : World) (k : Kept R w w') => (k.cell hRc hcP : w'.cell? ⟨c, 0, .none⟩ = some (ptr P)))
  obtain ⟨hN, r1, r2, r3⟩ := h.since.new3
  have HN := Lib.hid hN
  have NRz3 := Lib.hid r1
  have NRy3 := Lib.hid r2
  have NRx3 := Lib.hid r3
  clear h hx1 hy1 hz1 hx2 hy2 hz2 hP sX1 sY1 sZ1 sX2 sY2 sZ2 sp hdiv hp0 hRc hcP hN r1 r2 r3
  unfold ptr at *
  go_enter Tryz.func300, Tryz.ntmps300
  go_wp2_with fail
  refine (signO HN.out (k1 + 3) HZ1.out).mono ?_
  rintro en wA ⟨rfl, hwA⟩
  have OA := Lib.hid (hwA ▸ HN.out : Own R w wA ((w.heap.size + 1 + 1, 0) :: (w.heap.size + 1, 0) :: (w.heap.size, 0) :: L))
  clear hwA HN
  have cP := K0.out wA OA.out.kept
  have hs1 : ((Z1.sign == (0 : Int))) = false := by rw [beq_eq_false_iff_ne]; exact fun e => HZN1.out (Int.sign_eq_zero_iff_zero.1 e)
  have hs2 : ((Z2.sign == (0 : Int))) = false := by rw [beq_eq_false_iff_ne]; exact fun e => HZN2.out (Int.sign_eq_zero_iff_zero.1 e)
  go_wp2_with fail
  refine (signO OA.out (k2 + 3) HZ2.out).mono ?_
  rintro en wq ⟨rfl, rfl⟩
  obtain ⟨hN, hR⟩ := OA.out.new
  have HN0 := Lib.hid hN
  have NRzz1 := Lib.hid hR
  clear hN hR
  go_wp2_with fail
  refine (mulO HN0.out 0 (k1 + 4) (k1 + 4) rfl HZ1.out HZ1.out NRzz1.out (SZ1.out.le (by decide : 64 ≤ 704)) (SZ1.out.le (by decide : 64 ≤ 2496))).mono ?_
  rintro en w1 ⟨rfl, hq⟩
  obtain ⟨v1, hv⟩ : ∃ v1 : Int, v1 = Z1 * Z1 := ⟨_, rfl⟩
  have O1 := Lib.hid (show Own R w w1 ((wA.heap.size, v1) :: (w.heap.size + 1 + 1, (0 : Int)) :: (w.heap.size + 1, (0 : Int)) :: (w.heap.size, (0 : Int)) :: L) from by rw [hv]; exact hq)
  have S1 := Lib.hid (show Sz 128 v1 from by rw [hv]; exact SZ1.out.mul SZ1.out)
  have E1 := Lib.hid hv
  clear hq hv
  clear cP
  have cP := K0.out w1 O1.out.kept
  clear hs1 hs2
  go_wp2_with fail
  refine (modO O1.out 0 0 (iP + 4) rfl rfl HP.out (by omega) NRzz1.out (S1.out.le (by decide : 128 ≤ 630000)) (SP.out.le (by decide : 64 ≤ 630000)) HD.out HP0.out).mono ?_
  rintro en w2 ⟨rfl, hq⟩
  obtain ⟨v2, hv⟩ : ∃ v2 : Int, v2 = v1 % p := ⟨_, rfl⟩
  have O2 := Lib.hid (show Own R w w2 ((wA.heap.size, v2) :: (w.heap.size + 1 + 1, (0 : Int)) :: (w.heap.size + 1, (0 : Int)) :: (w.heap.size, (0 : Int)) :: L) from by rw [hv]; exact hq)
  have S2 := Lib.hid (show Sz 64 v2 from by rw [hv]; exact Sz.emod _ HP0.out SP.out)
  have E2 := Lib.hid hv
  clear hq hv
  clear cP
  have cP := K0.out w2 O2.out.kept
  obtain ⟨hN, hR⟩ := O2.out.new
  have HN2 := Lib.hid hN
  have NRzz2 := Lib.hid hR
  clear hN hR
  go_wp2_with fail
  refine (mulO HN2.out 0 (k2 + 5) (k2 + 5) rfl HZ2.out HZ2.out NRzz2.out (SZ2.out.le (by decide : 64 ≤ 704)) (SZ2.out.le (by decide : 64 ≤ 2496))).mono ?_
  rintro en w3 ⟨rfl, hq⟩
  obtain ⟨v3, hv⟩ : ∃ v3 : Int, v3 = Z2 * Z2 := ⟨_, rfl⟩
  have O3 := Lib.hid (show Own R w w3 ((w2.heap.size, v3) :: (wA.heap.size, v2) :: (w.heap.size + 1 + 1, (0 : Int)) :: (w.heap.size + 1, (0 : Int)) :: (w.heap.size, (0 : Int)) :: L) from by rw [hv]; exact hq)
  have S3 := Lib.hid (show Sz 128 v3 from by rw [hv]; exact SZ2.out.mul SZ2.out)
  have E3 := Lib.hid hv
  clear hq hv
  clear cP
  have cP := K0.out w3 O3.out.kept
  go_wp2_with fail
  refine (modO O3.out 0 0 (iP + 5) rfl rfl HP.out (by omega) NRzz2.out (S3.out.le (by decide : 128 ≤ 630000)) (SP.out.le (by decide : 64 ≤ 630000)) HD.out HP0.out).mono ?_
  rintro en w4 ⟨rfl, hq⟩
  obtain ⟨v4, hv⟩ : ∃ v4 : Int, v4 = v3 % p := ⟨_, rfl⟩
  have O4 := Lib.hid (show Own R w w4 ((w2.heap.size, v4) :: (wA.heap.size, v2) :: (w.heap.size + 1 + 1, (0 : Int)) :: (w.heap.size + 1, (0 : Int)) :: (w.heap.size, (0 : Int)) :: L) from by rw [hv]; exact hq)
  have S4 := Lib.hid (show Sz 64 v4 from by rw [hv]; exact Sz.emod _ HP0.out SP.out)
  have E4 := Lib.hid hv
  clear hq hv
  clear cP
  have cP := K0.out w4 O4.out.kept
  obtain ⟨hN, hR⟩ := O4.out.new
  have HN4 := Lib.hid hN
  have NRu1 := Lib.hid hR
  clear hN hR
  go_wp2_with fail
  refine (mulO HN4.out 0 (i1 + 6) 1 rfl HX1.out rfl NRu1.out (SX1.out.le (by decide : 64 ≤ 704)) (S4.out.le (by decide : 64 ≤ 2496))).mono ?_
  rintro en w5 ⟨rfl, hq⟩
  obtain ⟨v5, hv⟩ : ∃ v5 : Int, v5 = X1 * v4 := ⟨_, rfl⟩
  have O5 := Lib.hid (show Own R w w5 ((w4.heap.size, v5) :: (w2.heap.size, v4) :: (wA.heap.size, v2) :: (w.heap.size + 1 + 1, (0 : Int)) :: (w.heap.size + 1, (0 : Int)) :: (w.heap.size, (0 : Int)) :: L) from by rw [hv]; exact hq)
  have S5 := Lib.hid (show Sz 128 v5 from by rw [hv]; exact SX1.out.mul S4.out)
  have E5 := Lib.hid hv
  clear hq hv
  clear cP
  have cP := K0.out w5 O5.out.kept
  go_wp2_with fail
  refine (modO O5.out 0 0 (iP + 6) rfl rfl HP.out (by omega) NRu1.out (S5.out.le (by decide : 128 ≤ 630000)) (SP.out.le (by decide : 64 ≤ 630000)) HD.out HP0.out).mono ?_
  rintro en w6 ⟨rfl, hq⟩
  obtain ⟨v6, hv⟩ : ∃ v6 : Int, v6 = v5 % p := ⟨_, rfl⟩
  have O6 := Lib.hid (show Own R w w6 ((w4.heap.size, v6) :: (w2.heap.size, v4) :: (wA.heap.size, v2) :: (w.heap.size + 1 + 1, (0 : Int)) :: (w.heap.size + 1, (0 : Int)) :: (w.heap.size, (0 : Int)) :: L) from by rw [hv]; exact hq)
  have S6 := Lib.hid (show Sz 64 v6 from by rw [hv]; exact Sz.emod _ HP0.out SP.out)
  have E6 := Lib.hid hv
  clear hq hv
  clear cP
  have cP := K0.out w6 O6.out.kept
  obtain ⟨hN, hR⟩ := O6.out.new
  have HN6 := Lib.hid hN
  have NRu2 := Lib.hid hR
  clear hN hR
  go_wp2_with fail
  refine (mulO HN6.out 0 (i2 + 7) 3 rfl HX2.out rfl NRu2.out (SX2.out.le (by decide : 64 ≤ 704)) (S2.out.le (by decide : 64 ≤ 2496))).mono ?_
  rintro en w7 ⟨rfl, hq⟩
  obtain ⟨v7, hv⟩ : ∃ v7 : Int, v7 = X2 * v2 := ⟨_, rfl⟩
  have O7 := Lib.hid (show Own R w w7 ((w6.heap.size, v7) :: (w4.heap.size, v6) :: (w2.heap.size, v4) :: (wA.heap.size, v2) :: (w.heap.size + 1 + 1, (0 : Int)) :: (w.heap.size + 1, (0 : Int)) :: (w.heap.size, (0 : Int)) :: L) from by rw [hv]; exact hq)
  have S7 := Lib.hid (show Sz 128 v7 from by rw [hv]; exact SX2.out.mul S2.out)
  have E7 := Lib.hid hv
  clear hq hv
  clear cP
  have cP := K0.out w7 O7.out.kept
  go_wp2_with fail
  refine (modO O7.out 0 0 (iP + 7) rfl rfl HP.out (by omega) NRu2.out (S7.out.le (by decide : 128 ≤ 630000)) (SP.out.le (by decide : 64 ≤ 630000)) HD.out HP0.out).mono ?_
  rintro en w8 ⟨rfl, hq⟩
  obtain ⟨v8, hv⟩ : ∃ v8 : Int, v8 = v7 % p := ⟨_, rfl⟩
  have O8 := Lib.hid (show Own R w w8 ((w6.heap.size, v8) :: (w4.heap.size, v6) :: (w2.heap.size, v4) :: (wA.heap.size, v2) :: (w.heap.size + 1 + 1, (0 : Int)) :: (w.heap.size + 1, (0 : Int)) :: (w.heap.size, (0 : Int)) :: L) from by rw [hv]; exact hq)
  have S8 := Lib.hid (show Sz 64 v8 from by rw [hv]; exact Sz.emod _ HP0.out SP.out)
  have E8 := Lib.hid hv
  clear hq hv
  clear cP
  have cP := K0.out w8 O8.out.kept
  obtain ⟨hN, hR⟩ := O8.out.new
  have HN8 := Lib.hid hN
  have NRh := Lib.hid hR
  clear hN hR
  go_wp2_with fail
  refine (subO HN8.out 0 1 2 rfl rfl rfl NRh.out (S8.out.le (by decide : 64 ≤ 640000)) (S6.out.le (by decide : 64 ≤ 640000))).mono ?_
  rintro en w9 ⟨rfl, hq⟩
  obtain ⟨v9, hv⟩ : ∃ v9 : Int, v9 = v8 - v6 := ⟨_, rfl⟩
  have O9 := Lib.hid (show Own R w w9 ((w8.heap.size, v9) :: (w6.heap.size, v8) :: (w4.heap.size, v6) :: (w2.heap.size, v4) :: (wA.heap.size, v2) :: (w.heap.size + 1 + 1, (0 : Int)) :: (w.heap.size + 1, (0 : Int)) :: (w.heap.size, (0 : Int)) :: L) from by rw [hv]; exact hq)
  have S9 := Lib.hid (show Sz 65 v9 from by rw [hv]; exact (S8.out.le (by decide : 64 ≤ 64)).sub (S6.out.le (by decide : 64 ≤ 64)))
  have E9 := Lib.hid hv
  clear hq hv
  clear cP
  have cP := K0.out w9 O9.out.kept
  go_wp2_with fail
  refine (signO O9.out 0 rfl).mono ?_
  rintro en wq ⟨rfl, rfl⟩
  obtain ⟨bx, hbx⟩ : ∃ bx : Bool, bx = (v9.sign == (0 : Int)) := ⟨_, rfl⟩
  have HBX := Lib.hid hbx
  have hbx2 := hbx.symm
  clear hbx
  go_upto_region 22 with fail
  clear hbx2
  go_upto_if 119 with (go_at_call 121; refine (signO O9.out 0 rfl).mono ?_; rintro en wq ⟨rfl, rfl⟩)
  obtain ⟨v10, hv⟩ : ∃ v10 : Int, v10 = (if v9 < 0 then v9 + p else v9) := ⟨_, rfl⟩
  have E10 := Lib.hid hv
  have S10 := Lib.hid (show Sz 66 v10 from by rw [hv]; exact sz_fix (S9.out.le (by decide : 65 ≤ 65)) (SP.out.le (by decide : 64 ≤ 65)))
  clear hv
  go_cut [] from 33 (fun wx => Own R w wx ((w8.heap.size, v10) :: (w6.heap.size, v8) :: (w4.heap.size, v6) :: (w2.heap.size, v4) :: (wA.heap.size, v2) :: (w.heap.size + 1 + 1, (0 : Int)) :: (w.heap.size + 1, (0 : Int)) :: (w.heap.size, (0 : Int)) :: L))
  case first =>
    as_aux_lemma =>
      by_cases hc : v9 < 0
      · have hs : (v9.sign == (-1 : Int)) = true := by rw [Int.sign_eq_neg_one_of_neg hc]; rfl
        have HV := Lib.hid (show v10 = v9 + p by rw [E10.out, if_pos hc])
        clear hc
        go_wp2_with fail
        refine (addO O9.out 0 0 (iP + 8) rfl rfl HP.out NRh.out (S9.out.le (by decide : 65 ≤ 640000)) (SP.out.le (by decide : 64 ≤ 640000))).mono ?_
        rintro en wq ⟨rfl, hq⟩
        have HQ := Lib.hid (show Own R w wq ((w8.heap.size, v10) :: (w6.heap.size, v8) :: (w4.heap.size, v6) :: (w2.heap.size, v4) :: (wA.heap.size, v2) :: (w.heap.size + 1 + 1, (0 : Int)) :: (w.heap.size + 1, (0 : Int)) :: (w.heap.size, (0 : Int)) :: L) from by rw [HV.out]; exact hq)
        clear hq
        go_wp2_with fail
        go_meet
        case rel => exact HQ.out
      · have hs : (v9.sign == (-1 : Int)) = false := by rw [beq_eq_false_iff_ne]; exact sign_ne hc
        have HQ := Lib.hid (show Own R w w9 ((w8.heap.size, v10) :: (w6.heap.size, v8) :: (w4.heap.size, v6) :: (w2.heap.size, v4) :: (wA.heap.size, v2) :: (w.heap.size + 1 + 1, (0 : Int)) :: (w.heap.size + 1, (0 : Int)) :: (w.heap.size, (0 : Int)) :: L) from by rw [E10.out, if_neg hc]; exact O9.out)
        clear hc
        go_wp2_with fail
        go_meet
        case rel => exact HQ.out
  case rest =>
    as_aux_lemma =>
      obtain ⟨w10, hwc⟩ : ∃ w10, w10 = wc := ⟨_, rfl⟩
      subst hwc
      have O10 := Lib.hid hcut
      clear hcut
      clear cP
      have cP := K0.out w10 O10.out.kept
      obtain ⟨hN, hR⟩ := O10.out.new
      have HN10 := Lib.hid hN
      have NRi := Lib.hid hR
      clear hN hR
      go_wp2_with fail
      refine (lshO HN10.out 0 1 1 rfl rfl NRi.out (S10.out.le (by decide : 66 ≤ 640000)) (by decide) (by decide)).mono ?_
      rintro en w11 ⟨rfl, hq⟩
      obtain ⟨v11, hv⟩ : ∃ v11 : Int, v11 = v10 * 2 ^ 1 := ⟨_, rfl⟩
      have O11 := Lib.hid (show Own R w w11 ((w10.heap.size, v11) :: (w8.heap.size, v10) :: (w6.heap.size, v8) :: (w4.heap.size, v6) :: (w2.heap.size, v4) :: (wA.heap.size, v2) :: (w.heap.size + 1 + 1, (0 : Int)) :: (w.heap.size + 1, (0 : Int)) :: (w.heap.size, (0 : Int)) :: L) from by rw [hv]; exact hq)
      have S11 := Lib.hid (show Sz 67 v11 from by rw [hv]; exact sz_lsh 1 S10.out)
      have E11 := Lib.hid hv
      clear hq hv
      clear cP
      have cP := K0.out w11 O11.out.kept
      go_wp2_with fail
      refine (mulO O11.out 0 0 0 rfl rfl rfl NRi.out (S11.out.le (by decide : 67 ≤ 704)) (S11.out.le (by decide : 67 ≤ 2496))).mono ?_
      rintro en w12 ⟨rfl, hq⟩
      obtain ⟨v12, hv⟩ : ∃ v12 : Int, v12 = v11 * v11 := ⟨_, rfl⟩
      have O12 := Lib.hid (show Own R w w12 ((w10.heap.size, v12) :: (w8.heap.size, v10) :: (w6.heap.size, v8) :: (w4.heap.size, v6) :: (w2.heap.size, v4) :: (wA.heap.size, v2) :: (w.heap.size + 1 + 1, (0 : Int)) :: (w.heap.size + 1, (0 : Int)) :: (w.heap.size, (0 : Int)) :: L) from by rw [hv]; exact hq)
      have S12 := Lib.hid (show Sz 134 v12 from by rw [hv]; exact S11.out.mul S11.out)
      have E12 := Lib.hid hv
      clear hq hv
      clear cP
      have cP := K0.out w12 O12.out.kept
      obtain ⟨hN, hR⟩ := O12.out.new
      have HN12 := Lib.hid hN
      have NRj := Lib.hid hR
      clear hN hR
      go_wp2_with fail
      refine (mulO HN12.out 0 2 1 rfl rfl rfl NRj.out (S10.out.le (by decide : 66 ≤ 704)) (S12.out.le (by decide : 134 ≤ 2496))).mono ?_
      rintro en w13 ⟨rfl, hq⟩
      obtain ⟨v13, hv⟩ : ∃ v13 : Int, v13 = v10 * v12 := ⟨_, rfl⟩
      have O13 := Lib.hid (show Own R w w13 ((w12.heap.size, v13) :: (w10.heap.size, v12) :: (w8.heap.size, v10) :: (w6.heap.size, v8) :: (w4.heap.size, v6) :: (w2.heap.size, v4) :: (wA.heap.size, v2) :: (w.heap.size + 1 + 1, (0 : Int)) :: (w.heap.size + 1, (0 : Int)) :: (w.heap.size, (0 : Int)) :: L) from by rw [hv]; exact hq)
      have S13 := Lib.hid (show Sz 200 v13 from by rw [hv]; exact S10.out.mul S12.out)
      have E13 := Lib.hid hv
      clear hq hv
      clear cP
      have cP := K0.out w13 O13.out.kept
      obtain ⟨hN, hR⟩ := O13.out.new
      have HN13 := Lib.hid hN
      have NRs1 := Lib.hid hR
      clear hN hR
      go_wp2_with fail
      refine (mulO HN13.out 0 (j1 + 11) (k2 + 11) rfl HY1.out HZ2.out NRs1.out (SY1.out.le (by decide : 64 ≤ 704)) (SZ2.out.le (by decide : 64 ≤ 2496))).mono ?_
      rintro en w14 ⟨rfl, hq⟩
      obtain ⟨v14, hv⟩ : ∃ v14 : Int, v14 = Y1 * Z2 := ⟨_, rfl⟩
      have O14 := Lib.hid (show Own R w w14 ((w13.heap.size, v14) :: (w12.heap.size, v13) :: (w10.heap.size, v12) :: (w8.heap.size, v10) :: (w6.heap.size, v8) :: (w4.heap.size, v6) :: (w2.heap.size, v4) :: (wA.heap.size, v2) :: (w.heap.size + 1 + 1, (0 : Int)) :: (w.heap.size + 1, (0 : Int)) :: (w.heap.size, (0 : Int)) :: L) from by rw [hv]; exact hq)
      have S14 := Lib.hid (show Sz 128 v14 from by rw [hv]; exact SY1.out.mul SZ2.out)
      have E14 := Lib.hid hv
      clear hq hv
      clear cP
      have cP := K0.out w14 O14.out.kept
      go_wp2_with fail
      refine (mulO O14.out 0 0 6 rfl rfl rfl NRs1.out (S14.out.le (by decide : 128 ≤ 704)) (S4.out.le (by decide : 64 ≤ 2496))).mono ?_
      rintro en w15 ⟨rfl, hq⟩
      obtain ⟨v15, hv⟩ : ∃ v15 : Int, v15 = v14 * v4 := ⟨_, rfl⟩
      have O15 := Lib.hid (show Own R w w15 ((w13.heap.size, v15) :: (w12.heap.size, v13) :: (w10.heap.size, v12) :: (w8.heap.size, v10) :: (w6.heap.size, v8) :: (w4.heap.size, v6) :: (w2.heap.size, v4) :: (wA.heap.size, v2) :: (w.heap.size + 1 + 1, (0 : Int)) :: (w.heap.size + 1, (0 : Int)) :: (w.heap.size, (0 : Int)) :: L) from by rw [hv]; exact hq)
      have S15 := Lib.hid (show Sz 192 v15 from by rw [hv]; exact S14.out.mul S4.out)
      have E15 := Lib.hid hv
      clear hq hv
      clear cP
      have cP := K0.out w15 O15.out.kept
      go_wp2_with fail
      refine (modO O15.out 0 0 (iP + 11) rfl rfl HP.out (by omega) NRs1.out (S15.out.le (by decide : 192 ≤ 630000)) (SP.out.le (by decide : 64 ≤ 630000)) HD.out HP0.out).mono ?_
      rintro en w16 ⟨rfl, hq⟩
      obtain ⟨v16, hv⟩ : ∃ v16 : Int, v16 = v15 % p := ⟨_, rfl⟩
      have O16 := Lib.hid (show Own R w w16 ((w13.heap.size, v16) :: (w12.heap.size, v13) :: (w10.heap.size, v12) :: (w8.heap.size, v10) :: (w6.heap.size, v8) :: (w4.heap.size, v6) :: (w2.heap.size, v4) :: (wA.heap.size, v2) :: (w.heap.size + 1 + 1, (0 : Int)) :: (w.heap.size + 1, (0 : Int)) :: (w.heap.size, (0 : Int)) :: L) from by rw [hv]; exact hq)
      have S16 := Lib.hid (show Sz 64 v16 from by rw [hv]; exact Sz.emod _ HP0.out SP.out)
      have E16 := Lib.hid hv
      clear hq hv
      clear cP
      have cP := K0.out w16 O16.out.kept
      obtain ⟨hN, hR⟩ := O16.out.new
      have HN16 := Lib.hid hN
      have NRs2 := Lib.hid hR
      clear hN hR
      go_wp2_with fail
      refine (mulO HN16.out 0 (j2 + 12) (k1 + 12) rfl HY2.out HZ1.out NRs2.out (SY2.out.le (by decide : 64 ≤ 704)) (SZ1.out.le (by decide : 64 ≤ 2496))).mono ?_
      rintro en w17 ⟨rfl, hq⟩
      obtain ⟨v17, hv⟩ : ∃ v17 : Int, v17 = Y2 * Z1 := ⟨_, rfl⟩
      have O17 := Lib.hid (show Own R w w17 ((w16.heap.size, v17) :: (w13.heap.size, v16) :: (w12.heap.size, v13) :: (w10.heap.size, v12) :: (w8.heap.size, v10) :: (w6.heap.size, v8) :: (w4.heap.size, v6) :: (w2.heap.size, v4) :: (wA.heap.size, v2) :: (w.heap.size + 1 + 1, (0 : Int)) :: (w.heap.size + 1, (0 : Int)) :: (w.heap.size, (0 : Int)) :: L) from by rw [hv]; exact hq)
      have S17 := Lib.hid (show Sz 128 v17 from by rw [hv]; exact SY2.out.mul SZ1.out)
      have E17 := Lib.hid hv
      clear hq hv
      clear cP
      have cP := K0.out w17 O17.out.kept
      go_wp2_with fail
      refine (mulO O17.out 0 0 8 rfl rfl rfl NRs2.out (S17.out.le (by decide : 128 ≤ 704)) (S2.out.le (by decide : 64 ≤ 2496))).mono ?_
      rintro en w18 ⟨rfl, hq⟩
      obtain ⟨v18, hv⟩ : ∃ v18 : Int, v18 = v17 * v2 := ⟨_, rfl⟩
      have O18 := Lib.hid (show Own R w w18 ((w16.heap.size, v18) :: (w13.heap.size, v16) :: (w12.heap.size, v13) :: (w10.heap.size, v12) :: (w8.heap.size, v10) :: (w6.heap.size, v8) :: (w4.heap.size, v6) :: (w2.heap.size, v4) :: (wA.heap.size, v2) :: (w.heap.size + 1 + 1, (0 : Int)) :: (w.heap.size + 1, (0 : Int)) :: (w.heap.size, (0 : Int)) :: L) from by rw [hv]; exact hq)
      have S18 := Lib.hid (show Sz 192 v18 from by rw [hv]; exact S17.out.mul S2.out)
      have E18 := Lib.hid hv
      clear hq hv
      clear cP
      have cP := K0.out w18 O18.out.kept
      go_wp2_with fail
      refine (modO O18.out 0 0 (iP + 12) rfl rfl HP.out (by omega) NRs2.out (S18.out.le (by decide : 192 ≤ 630000)) (SP.out.le (by decide : 64 ≤ 630000)) HD.out HP0.out).mono ?_
      rintro en w19 ⟨rfl, hq⟩
      obtain ⟨v19, hv⟩ : ∃ v19 : Int, v19 = v18 % p := ⟨_, rfl⟩
      have O19 := Lib.hid (show Own R w w19 ((w16.heap.size, v19) :: (w13.heap.size, v16) :: (w12.heap.size, v13) :: (w10.heap.size, v12) :: (w8.heap.size, v10) :: (w6.heap.size, v8) :: (w4.heap.size, v6) :: (w2.heap.size, v4) :: (wA.heap.size, v2) :: (w.heap.size + 1 + 1, (0 : Int)) :: (w.heap.size + 1, (0 : Int)) :: (w.heap.size, (0 : Int)) :: L) from by rw [hv]; exact hq)
      have S19 := Lib.hid (show Sz 64 v19 from by rw [hv]; exact Sz.emod _ HP0.out SP.out)
      have E19 := Lib.hid hv
      clear hq hv
      clear cP
      have cP := K0.out w19 O19.out.kept
      obtain ⟨hN, hR⟩ := O19.out.new
      have HN19 := Lib.hid hN
      have NRr := Lib.hid hR
      clear hN hR
      go_wp2_with fail
      refine (subO HN19.out 0 1 2 rfl rfl rfl NRr.out (S19.out.le (by decide : 64 ≤ 640000)) (S16.out.le (by decide : 64 ≤ 640000))).mono ?_
      rintro en w20 ⟨rfl, hq⟩
      obtain ⟨v20, hv⟩ : ∃ v20 : Int, v20 = v19 - v16 := ⟨_, rfl⟩
      have O20 := Lib.hid (show Own R w w20 ((w19.heap.size, v20) :: (w16.heap.size, v19) :: (w13.heap.size, v16) :: (w12.heap.size, v13) :: (w10.heap.size, v12) :: (w8.heap.size, v10) :: (w6.heap.size, v8) :: (w4.heap.size, v6) :: (w2.heap.size, v4) :: (wA.heap.size, v2) :: (w.heap.size + 1 + 1, (0 : Int)) :: (w.heap.size + 1, (0 : Int)) :: (w.heap.size, (0 : Int)) :: L) from by rw [hv]; exact hq)
      have S20 := Lib.hid (show Sz 65 v20 from by rw [hv]; exact (S19.out.le (by decide : 64 ≤ 64)).sub (S16.out.le (by decide : 64 ≤ 64)))
      have E20 := Lib.hid hv
      clear hq hv
      clear cP
      have cP := K0.out w20 O20.out.kept
      go_upto_if 174 with (go_at_call 121; refine (signO O20.out 0 rfl).mono ?_; rintro en wq ⟨rfl, rfl⟩)
      obtain ⟨v21, hv⟩ : ∃ v21 : Int, v21 = (if v20 < 0 then v20 + p else v20) := ⟨_, rfl⟩
      have E21 := Lib.hid hv
      have S21 := Lib.hid (show Sz 66 v21 from by rw [hv]; exact sz_fix (S20.out.le (by decide : 65 ≤ 65)) (SP.out.le (by decide : 64 ≤ 65)))
      clear hv
      go_cut [] from 33 (fun wx => Own R w wx ((w19.heap.size, v21) :: (w16.heap.size, v19) :: (w13.heap.size, v16) :: (w12.heap.size, v13) :: (w10.heap.size, v12) :: (w8.heap.size, v10) :: (w6.heap.size, v8) :: (w4.heap.size, v6) :: (w2.heap.size, v4) :: (wA.heap.size, v2) :: (w.heap.size + 1 + 1, (0 : Int)) :: (w.heap.size + 1, (0 : Int)) :: (w.heap.size, (0 : Int)) :: L))
      case first =>
        as_aux_lemma =>
          by_cases hc : v20 < 0
          · have hs : (v20.sign == (-1 : Int)) = true := by rw [Int.sign_eq_neg_one_of_neg hc]; rfl
            have HV := Lib.hid (show v21 = v20 + p by rw [E21.out, if_pos hc])
            clear hc
            go_wp2_with fail
            refine (addO O20.out 0 0 (iP + 13) rfl rfl HP.out NRr.out (S20.out.le (by decide : 65 ≤ 640000)) (SP.out.le (by decide : 64 ≤ 640000))).mono ?_
            rintro en wq ⟨rfl, hq⟩
            have HQ := Lib.hid (show Own R w wq ((w19.heap.size, v21) :: (w16.heap.size, v19) :: (w13.heap.size, v16) :: (w12.heap.size, v13) :: (w10.heap.size, v12) :: (w8.heap.size, v10) :: (w6.heap.size, v8) :: (w4.heap.size, v6) :: (w2.heap.size, v4) :: (wA.heap.size, v2) :: (w.heap.size + 1 + 1, (0 : Int)) :: (w.heap.size + 1, (0 : Int)) :: (w.heap.size, (0 : Int)) :: L) from by rw [HV.out]; exact hq)
            clear hq
            go_wp2_with fail
            go_meet
            case rel => exact HQ.out
          · have hs : (v20.sign == (-1 : Int)) = false := by rw [beq_eq_false_iff_ne]; exact sign_ne hc
            have HQ := Lib.hid (show Own R w w20 ((w19.heap.size, v21) :: (w16.heap.size, v19) :: (w13.heap.size, v16) :: (w12.heap.size, v13) :: (w10.heap.size, v12) :: (w8.heap.size, v10) :: (w6.heap.size, v8) :: (w4.heap.size, v6) :: (w2.heap.size, v4) :: (wA.heap.size, v2) :: (w.heap.size + 1 + 1, (0 : Int)) :: (w.heap.size + 1, (0 : Int)) :: (w.heap.size, (0 : Int)) :: L) from by rw [E21.out, if_neg hc]; exact O20.out)
            clear hc
            go_wp2_with fail
            go_meet
            case rel => exact HQ.out
      case rest =>
        as_aux_lemma =>
          obtain ⟨w21, hwc⟩ : ∃ w21, w21 = wc := ⟨_, rfl⟩
          subst hwc
          have O21 := Lib.hid hcut
          clear hcut
          clear cP
          have cP := K0.out w21 O21.out.kept
          go_wp2_with fail
          refine (signO O21.out 0 rfl).mono ?_
          rintro en wq ⟨rfl, rfl⟩
          obtain ⟨b2, hb2⟩ : ∃ b2 : Bool, b2 = (v21.sign == (0 : Int)) := ⟨_, rfl⟩
          have HBY := Lib.hid hb2
          have hb22 := hb2.symm
          clear hb2
          go_upto_region 37 with fail
          clear hb22
          go_cut [188] from 33 (fun s wx => s = .bool (bx && b2) ∧ wx = w21)
          case first =>
            rcases bx with _ | _ <;> rcases b2 with _ | _
            all_goals
              go_wp2_with fail
              go_meet
              case rel => exact ⟨rfl, rfl⟩
          case rest =>
            obtain ⟨rfl, rfl⟩ := hcut
            as_aux_lemma =>
              obtain ⟨b12, h12⟩ : ∃ b12 : Bool, b12 = (bx && b2) := ⟨_, rfl⟩
              rw [← h12]
              have H12 := Lib.hid h12
              clear h12
              rcases Bool.eq_false_or_eq_true b12 with rfl | rfl
              · have HPRE := Lib.hid (show AddPre X1 Y1 Z1 X2 Y2 Z2 p v2 v4 v6 v9 v10 v12 v13 v16 v21 from ⟨v1, v3, v5, v7, v8, v11, v14, v15, v17, v18, v19, v20, E1.out, E2.out, E3.out, E4.out, E5.out, E6.out, E7.out, E8.out, E9.out, E10.out, E11.out, E12.out, E13.out, E14.out, E15.out, E16.out, E17.out, E18.out, E19.out, E20.out, E21.out⟩)
                have HSAME := Lib.hid (show v9 = 0 ∧ v21 = 0 by have hb := H12.out.symm; rw [HBX.out, HBY.out, Bool.and_eq_true, beq_iff_eq, beq_iff_eq] at hb; exact ⟨Int.sign_eq_zero_iff_zero.1 hb.1, Int.sign_eq_zero_iff_zero.1 hb.2⟩)
                go_wp2_with fail
                refine (doubleO (w0 := w) O21.out c x1 y1 z1 P (i1 + 13) (j1 + 13) (k1 + 13) (iP + 13) X1 Y1 Z1 p cP HRC.out HX1.out HY1.out HZ1.out HP.out SX1.out SY1.out SZ1.out SP.out HD.out HP0.out).mono ?_
                rintro en wd ⟨dx, dy, dz, D1, D2, D3, rfl, hd, n1, n2, n3, hq⟩
                have hO : Own R w wd (((dz, D3) : Nat × Int) :: (dy, D2) :: (dx, D1) :: L) := Own.choose (L := L) (A := [(dz, D3), (dy, D2), (dx, D1), (w19.heap.size, v21), (w16.heap.size, v19), (w13.heap.size, v16), (w12.heap.size, v13), (w10.heap.size, v12), (w8.heap.size, v10), (w6.heap.size, v8), (w4.heap.size, v6), (w2.heap.size, v4), (wA.heap.size, v2), (w.heap.size + 1 + 1, (0 : Int)), (w.heap.size + 1, (0 : Int)), (w.heap.size, (0 : Int))]) hd [0, 1, 2] (by decide) (by simp)
                have HO := Lib.hid hO
                have HNN := Lib.hid (And.intro n1 (And.intro n2 n3))
                have HQ := Lib.hid hq
                clear hd hO n1 n2 n3 hq
                go_wp2_with fail
                go_ret3
                exact ⟨dx, dy, dz, D1, D2, D3, rfl, HSS.out.after HO.out, HNN.out.1, HNN.out.2.1, HNN.out.2.2, v2, v4, v6, v9, v10, v12, v13, v16, v21, HPRE.out, .inl ⟨HSAME.out, HQ.out⟩⟩
              · have HPRE := Lib.hid (show AddPre X1 Y1 Z1 X2 Y2 Z2 p v2 v4 v6 v9 v10 v12 v13 v16 v21 from ⟨v1, v3, v5, v7, v8, v11, v14, v15, v17, v18, v19, v20, E1.out, E2.out, E3.out, E4.out, E5.out, E6.out, E7.out, E8.out, E9.out, E10.out, E11.out, E12.out, E13.out, E14.out, E15.out, E16.out, E17.out, E18.out, E19.out, E20.out, E21.out⟩)
                have HSAME := Lib.hid (show ¬ (v9 = 0 ∧ v21 = 0) by rintro ⟨e1, e2⟩; have hb := H12.out; rw [HBX.out, HBY.out, e1, e2] at hb; cases hb)
                go_wp2_with fail
                refine (lshO O21.out 0 0 1 rfl rfl NRr.out (S21.out.le (by decide : 66 ≤ 640000)) (by decide) (by decide)).mono ?_
                rintro en w22 ⟨rfl, hq⟩
                obtain ⟨v22, hv⟩ : ∃ v22 : Int, v22 = v21 * 2 ^ 1 := ⟨_, rfl⟩
                have O22 := Lib.hid (show Own R w w22 ((w19.heap.size, v22) :: (w16.heap.size, v19) :: (w13.heap.size, v16) :: (w12.heap.size, v13) :: (w10.heap.size, v12) :: (w8.heap.size, v10) :: (w6.heap.size, v8) :: (w4.heap.size, v6) :: (w2.heap.size, v4) :: (wA.heap.size, v2) :: (w.heap.size + 1 + 1, (0 : Int)) :: (w.heap.size + 1, (0 : Int)) :: (w.heap.size, (0 : Int)) :: L) from by rw [hv]; exact hq)
                have S22 := Lib.hid (show Sz 67 v22 from by rw [hv]; exact sz_lsh 1 S21.out)
                have E22 := Lib.hid hv
                clear hq hv
                clear cP
                have cP := K0.out w22 O22.out.kept
                obtain ⟨hN, hR⟩ := O22.out.new
                have HN22 := Lib.hid hN
                have NRv := Lib.hid hR
                clear hN hR
                go_wp2_with fail
                refine (mulO HN22.out 0 8 5 rfl rfl rfl NRv.out (S6.out.le (by decide : 64 ≤ 704)) (S12.out.le (by decide : 134 ≤ 2496))).mono ?_
                rintro en w23 ⟨rfl, hq⟩
                obtain ⟨v23, hv⟩ : ∃ v23 : Int, v23 = v6 * v12 := ⟨_, rfl⟩
                have O23 := Lib.hid (show Own R w w23 ((w22.heap.size, v23) :: (w19.heap.size, v22) :: (w16.heap.size, v19) :: (w13.heap.size, v16) :: (w12.heap.size, v13) :: (w10.heap.size, v12) :: (w8.heap.size, v10) :: (w6.heap.size, v8) :: (w4.heap.size, v6) :: (w2.heap.size, v4) :: (wA.heap.size, v2) :: (w.heap.size + 1 + 1, (0 : Int)) :: (w.heap.size + 1, (0 : Int)) :: (w.heap.size, (0 : Int)) :: L) from by rw [hv]; exact hq)
                have S23 := Lib.hid (show Sz 198 v23 from by rw [hv]; exact S6.out.mul S12.out)
                have E23 := Lib.hid hv
                clear hq hv
                clear cP
                have cP := K0.out w23 O23.out.kept
                go_wp2_with fail
                refine (setO O23.out 13 1 rfl rfl NRx3.out (S22.out.le (by decide : 67 ≤ 640000))).mono ?_
                rintro en w24 ⟨rfl, hq⟩
                obtain ⟨v24, hv⟩ : ∃ v24 : Int, v24 = v22 := ⟨_, rfl⟩
                have O24 := Lib.hid (show Own R w w24 ((w22.heap.size, v23) :: (w19.heap.size, v22) :: (w16.heap.size, v19) :: (w13.heap.size, v16) :: (w12.heap.size, v13) :: (w10.heap.size, v12) :: (w8.heap.size, v10) :: (w6.heap.size, v8) :: (w4.heap.size, v6) :: (w2.heap.size, v4) :: (wA.heap.size, v2) :: (w.heap.size + 1 + 1, (0 : Int)) :: (w.heap.size + 1, (0 : Int)) :: (w.heap.size, v24) :: L) from by rw [hv]; exact hq)
                have S24 := Lib.hid (show Sz 67 v24 from by rw [hv]; exact S22.out)
                have E24 := Lib.hid hv
                clear hq hv
                clear cP
                have cP := K0.out w24 O24.out.kept
                go_wp2_with fail
                refine (mulO O24.out 13 13 13 rfl rfl rfl NRx3.out (S24.out.le (by decide : 67 ≤ 704)) (S24.out.le (by decide : 67 ≤ 2496))).mono ?_
                rintro en w25 ⟨rfl, hq⟩
                obtain ⟨v25, hv⟩ : ∃ v25 : Int, v25 = v24 * v24 := ⟨_, rfl⟩
                have O25 := Lib.hid (show Own R w w25 ((w22.heap.size, v23) :: (w19.heap.size, v22) :: (w16.heap.size, v19) :: (w13.heap.size, v16) :: (w12.heap.size, v13) :: (w10.heap.size, v12) :: (w8.heap.size, v10) :: (w6.heap.size, v8) :: (w4.heap.size, v6) :: (w2.heap.size, v4) :: (wA.heap.size, v2) :: (w.heap.size + 1 + 1, (0 : Int)) :: (w.heap.size + 1, (0 : Int)) :: (w.heap.size, v25) :: L) from by rw [hv]; exact hq)
                have S25 := Lib.hid (show Sz 134 v25 from by rw [hv]; exact S24.out.mul S24.out)
                have E25 := Lib.hid hv
                clear hq hv
                clear cP
                have cP := K0.out w25 O25.out.kept
                go_wp2_with fail
                refine (subO O25.out 13 13 4 rfl rfl rfl NRx3.out (S25.out.le (by decide : 134 ≤ 640000)) (S13.out.le (by decide : 200 ≤ 640000))).mono ?_
                rintro en w26 ⟨rfl, hq⟩
                obtain ⟨v26, hv⟩ : ∃ v26 : Int, v26 = v25 - v13 := ⟨_, rfl⟩
                have O26 := Lib.hid (show Own R w w26 ((w22.heap.size, v23) :: (w19.heap.size, v22) :: (w16.heap.size, v19) :: (w13.heap.size, v16) :: (w12.heap.size, v13) :: (w10.heap.size, v12) :: (w8.heap.size, v10) :: (w6.heap.size, v8) :: (w4.heap.size, v6) :: (w2.heap.size, v4) :: (wA.heap.size, v2) :: (w.heap.size + 1 + 1, (0 : Int)) :: (w.heap.size + 1, (0 : Int)) :: (w.heap.size, v26) :: L) from by rw [hv]; exact hq)
                have S26 := Lib.hid (show Sz 201 v26 from by rw [hv]; exact (S25.out.le (by decide : 134 ≤ 200)).sub (S13.out.le (by decide : 200 ≤ 200)))
                have E26 := Lib.hid hv
                clear hq hv
                clear cP
                have cP := K0.out w26 O26.out.kept
                go_wp2_with fail
                refine (subO O26.out 13 13 0 rfl rfl rfl NRx3.out (S26.out.le (by decide : 201 ≤ 640000)) (S23.out.le (by decide : 198 ≤ 640000))).mono ?_
                rintro en w27 ⟨rfl, hq⟩
                obtain ⟨v27, hv⟩ : ∃ v27 : Int, v27 = v26 - v23 := ⟨_, rfl⟩
                have O27 := Lib.hid (show Own R w w27 ((w22.heap.size, v23) :: (w19.heap.size, v22) :: (w16.heap.size, v19) :: (w13.heap.size, v16) :: (w12.heap.size, v13) :: (w10.heap.size, v12) :: (w8.heap.size, v10) :: (w6.heap.size, v8) :: (w4.heap.size, v6) :: (w2.heap.size, v4) :: (wA.heap.size, v2) :: (w.heap.size + 1 + 1, (0 : Int)) :: (w.heap.size + 1, (0 : Int)) :: (w.heap.size, v27) :: L) from by rw [hv]; exact hq)
                have S27 := Lib.hid (show Sz 202 v27 from by rw [hv]; exact (S26.out.le (by decide : 201 ≤ 201)).sub (S23.out.le (by decide : 198 ≤ 201)))
                have E27 := Lib.hid hv
                clear hq hv
                clear cP
                have cP := K0.out w27 O27.out.kept
                go_wp2_with fail
                refine (subO O27.out 13 13 0 rfl rfl rfl NRx3.out (S27.out.le (by decide : 202 ≤ 640000)) (S23.out.le (by decide : 198 ≤ 640000))).mono ?_
                rintro en w28 ⟨rfl, hq⟩
                obtain ⟨v28, hv⟩ : ∃ v28 : Int, v28 = v27 - v23 := ⟨_, rfl⟩
                have O28 := Lib.hid (show Own R w w28 ((w22.heap.size, v23) :: (w19.heap.size, v22) :: (w16.heap.size, v19) :: (w13.heap.size, v16) :: (w12.heap.size, v13) :: (w10.heap.size, v12) :: (w8.heap.size, v10) :: (w6.heap.size, v8) :: (w4.heap.size, v6) :: (w2.heap.size, v4) :: (wA.heap.size, v2) :: (w.heap.size + 1 + 1, (0 : Int)) :: (w.heap.size + 1, (0 : Int)) :: (w.heap.size, v28) :: L) from by rw [hv]; exact hq)
                have S28 := Lib.hid (show Sz 203 v28 from by rw [hv]; exact (S27.out.le (by decide : 202 ≤ 202)).sub (S23.out.le (by decide : 198 ≤ 202)))
                have E28 := Lib.hid hv
                clear hq hv
                clear cP
                have cP := K0.out w28 O28.out.kept
                go_wp2_with fail
                refine (modO O28.out 13 13 (iP + 14) rfl rfl HP.out (by omega) NRx3.out (S28.out.le (by decide : 203 ≤ 630000)) (SP.out.le (by decide : 64 ≤ 630000)) HD.out HP0.out).mono ?_
                rintro en w29 ⟨rfl, hq⟩
                obtain ⟨v29, hv⟩ : ∃ v29 : Int, v29 = v28 % p := ⟨_, rfl⟩
                have O29 := Lib.hid (show Own R w w29 ((w22.heap.size, v23) :: (w19.heap.size, v22) :: (w16.heap.size, v19) :: (w13.heap.size, v16) :: (w12.heap.size, v13) :: (w10.heap.size, v12) :: (w8.heap.size, v10) :: (w6.heap.size, v8) :: (w4.heap.size, v6) :: (w2.heap.size, v4) :: (wA.heap.size, v2) :: (w.heap.size + 1 + 1, (0 : Int)) :: (w.heap.size + 1, (0 : Int)) :: (w.heap.size, v29) :: L) from by rw [hv]; exact hq)
                have S29 := Lib.hid (show Sz 64 v29 from by rw [hv]; exact Sz.emod _ HP0.out SP.out)
                have E29 := Lib.hid hv
                clear hq hv
                clear cP
                have cP := K0.out w29 O29.out.kept
                go_wp2_with fail
                refine (setO O29.out 12 1 rfl rfl NRy3.out (S22.out.le (by decide : 67 ≤ 640000))).mono ?_
                rintro en w30 ⟨rfl, hq⟩
                obtain ⟨v30, hv⟩ : ∃ v30 : Int, v30 = v22 := ⟨_, rfl⟩
                have O30 := Lib.hid (show Own R w w30 ((w22.heap.size, v23) :: (w19.heap.size, v22) :: (w16.heap.size, v19) :: (w13.heap.size, v16) :: (w12.heap.size, v13) :: (w10.heap.size, v12) :: (w8.heap.size, v10) :: (w6.heap.size, v8) :: (w4.heap.size, v6) :: (w2.heap.size, v4) :: (wA.heap.size, v2) :: (w.heap.size + 1 + 1, (0 : Int)) :: (w.heap.size + 1, v30) :: (w.heap.size, v29) :: L) from by rw [hv]; exact hq)
                have S30 := Lib.hid (show Sz 67 v30 from by rw [hv]; exact S22.out)
                have E30 := Lib.hid hv
                clear hq hv
                clear cP
                have cP := K0.out w30 O30.out.kept
                go_wp2_with fail
                refine (subO O30.out 0 0 13 rfl rfl rfl NRv.out (S23.out.le (by decide : 198 ≤ 640000)) (S29.out.le (by decide : 64 ≤ 640000))).mono ?_
                rintro en w31 ⟨rfl, hq⟩
                obtain ⟨v31, hv⟩ : ∃ v31 : Int, v31 = v23 - v29 := ⟨_, rfl⟩
                have O31 := Lib.hid (show Own R w w31 ((w22.heap.size, v31) :: (w19.heap.size, v22) :: (w16.heap.size, v19) :: (w13.heap.size, v16) :: (w12.heap.size, v13) :: (w10.heap.size, v12) :: (w8.heap.size, v10) :: (w6.heap.size, v8) :: (w4.heap.size, v6) :: (w2.heap.size, v4) :: (wA.heap.size, v2) :: (w.heap.size + 1 + 1, (0 : Int)) :: (w.heap.size + 1, v30) :: (w.heap.size, v29) :: L) from by rw [hv]; exact hq)
                have S31 := Lib.hid (show Sz 199 v31 from by rw [hv]; exact (S23.out.le (by decide : 198 ≤ 198)).sub (S29.out.le (by decide : 64 ≤ 198)))
                have E31 := Lib.hid hv
                clear hq hv
                clear cP
                have cP := K0.out w31 O31.out.kept
                go_wp2_with fail
                refine (mulO O31.out 12 12 0 rfl rfl rfl NRy3.out (S30.out.le (by decide : 67 ≤ 704)) (S31.out.le (by decide : 199 ≤ 2496))).mono ?_
                rintro en w32 ⟨rfl, hq⟩
                obtain ⟨v32, hv⟩ : ∃ v32 : Int, v32 = v30 * v31 := ⟨_, rfl⟩
                have O32 := Lib.hid (show Own R w w32 ((w22.heap.size, v31) :: (w19.heap.size, v22) :: (w16.heap.size, v19) :: (w13.heap.size, v16) :: (w12.heap.size, v13) :: (w10.heap.size, v12) :: (w8.heap.size, v10) :: (w6.heap.size, v8) :: (w4.heap.size, v6) :: (w2.heap.size, v4) :: (wA.heap.size, v2) :: (w.heap.size + 1 + 1, (0 : Int)) :: (w.heap.size + 1, v32) :: (w.heap.size, v29) :: L) from by rw [hv]; exact hq)
                have S32 := Lib.hid (show Sz 266 v32 from by rw [hv]; exact S30.out.mul S31.out)
                have E32 := Lib.hid hv
                clear hq hv
                clear cP
                have cP := K0.out w32 O32.out.kept
                go_wp2_with fail
                refine (mulO O32.out 3 3 4 rfl rfl rfl NRs1.out (S16.out.le (by decide : 64 ≤ 704)) (S13.out.le (by decide : 200 ≤ 2496))).mono ?_
                rintro en w33 ⟨rfl, hq⟩
                obtain ⟨v33, hv⟩ : ∃ v33 : Int, v33 = v16 * v13 := ⟨_, rfl⟩
                have O33 := Lib.hid (show Own R w w33 ((w22.heap.size, v31) :: (w19.heap.size, v22) :: (w16.heap.size, v19) :: (w13.heap.size, v33) :: (w12.heap.size, v13) :: (w10.heap.size, v12) :: (w8.heap.size, v10) :: (w6.heap.size, v8) :: (w4.heap.size, v6) :: (w2.heap.size, v4) :: (wA.heap.size, v2) :: (w.heap.size + 1 + 1, (0 : Int)) :: (w.heap.size + 1, v32) :: (w.heap.size, v29) :: L) from by rw [hv]; exact hq)
                have S33 := Lib.hid (show Sz 264 v33 from by rw [hv]; exact S16.out.mul S13.out)
                have E33 := Lib.hid hv
                clear hq hv
                clear cP
                have cP := K0.out w33 O33.out.kept
                go_wp2_with fail
                refine (lshO O33.out 3 3 1 rfl rfl NRs1.out (S33.out.le (by decide : 264 ≤ 640000)) (by decide) (by decide)).mono ?_
                rintro en w34 ⟨rfl, hq⟩
                obtain ⟨v34, hv⟩ : ∃ v34 : Int, v34 = v33 * 2 ^ 1 := ⟨_, rfl⟩
                have O34 := Lib.hid (show Own R w w34 ((w22.heap.size, v31) :: (w19.heap.size, v22) :: (w16.heap.size, v19) :: (w13.heap.size, v34) :: (w12.heap.size, v13) :: (w10.heap.size, v12) :: (w8.heap.size, v10) :: (w6.heap.size, v8) :: (w4.heap.size, v6) :: (w2.heap.size, v4) :: (wA.heap.size, v2) :: (w.heap.size + 1 + 1, (0 : Int)) :: (w.heap.size + 1, v32) :: (w.heap.size, v29) :: L) from by rw [hv]; exact hq)
                have S34 := Lib.hid (show Sz 265 v34 from by rw [hv]; exact sz_lsh 1 S33.out)
                have E34 := Lib.hid hv
                clear hq hv
                clear cP
                have cP := K0.out w34 O34.out.kept
                go_wp2_with fail
                refine (subO O34.out 12 12 3 rfl rfl rfl NRy3.out (S32.out.le (by decide : 266 ≤ 640000)) (S34.out.le (by decide : 265 ≤ 640000))).mono ?_
                rintro en w35 ⟨rfl, hq⟩
                obtain ⟨v35, hv⟩ : ∃ v35 : Int, v35 = v32 - v34 := ⟨_, rfl⟩
                have O35 := Lib.hid (show Own R w w35 ((w22.heap.size, v31) :: (w19.heap.size, v22) :: (w16.heap.size, v19) :: (w13.heap.size, v34) :: (w12.heap.size, v13) :: (w10.heap.size, v12) :: (w8.heap.size, v10) :: (w6.heap.size, v8) :: (w4.heap.size, v6) :: (w2.heap.size, v4) :: (wA.heap.size, v2) :: (w.heap.size + 1 + 1, (0 : Int)) :: (w.heap.size + 1, v35) :: (w.heap.size, v29) :: L) from by rw [hv]; exact hq)
                have S35 := Lib.hid (show Sz 267 v35 from by rw [hv]; exact (S32.out.le (by decide : 266 ≤ 266)).sub (S34.out.le (by decide : 265 ≤ 266)))
                have E35 := Lib.hid hv
                clear hq hv
                clear cP
                have cP := K0.out w35 O35.out.kept
                go_wp2_with fail
                refine (modO O35.out 12 12 (iP + 14) rfl rfl HP.out (by omega) NRy3.out (S35.out.le (by decide : 267 ≤ 630000)) (SP.out.le (by decide : 64 ≤ 630000)) HD.out HP0.out).mono ?_
                rintro en w36 ⟨rfl, hq⟩
                obtain ⟨v36, hv⟩ : ∃ v36 : Int, v36 = v35 % p := ⟨_, rfl⟩
                have O36 := Lib.hid (show Own R w w36 ((w22.heap.size, v31) :: (w19.heap.size, v22) :: (w16.heap.size, v19) :: (w13.heap.size, v34) :: (w12.heap.size, v13) :: (w10.heap.size, v12) :: (w8.heap.size, v10) :: (w6.heap.size, v8) :: (w4.heap.size, v6) :: (w2.heap.size, v4) :: (wA.heap.size, v2) :: (w.heap.size + 1 + 1, (0 : Int)) :: (w.heap.size + 1, v36) :: (w.heap.size, v29) :: L) from by rw [hv]; exact hq)
                have S36 := Lib.hid (show Sz 64 v36 from by rw [hv]; exact Sz.emod _ HP0.out SP.out)
                have E36 := Lib.hid hv
                clear hq hv
                clear cP
                have cP := K0.out w36 O36.out.kept
                go_wp2_with fail
                refine (addO O36.out 11 (k1 + 14) (k2 + 14) rfl HZ1.out HZ2.out NRz3.out (SZ1.out.le (by decide : 64 ≤ 640000)) (SZ2.out.le (by decide : 64 ≤ 640000))).mono ?_
                rintro en w37 ⟨rfl, hq⟩
                obtain ⟨v37, hv⟩ : ∃ v37 : Int, v37 = Z1 + Z2 := ⟨_, rfl⟩
                have O37 := Lib.hid (show Own R w w37 ((w22.heap.size, v31) :: (w19.heap.size, v22) :: (w16.heap.size, v19) :: (w13.heap.size, v34) :: (w12.heap.size, v13) :: (w10.heap.size, v12) :: (w8.heap.size, v10) :: (w6.heap.size, v8) :: (w4.heap.size, v6) :: (w2.heap.size, v4) :: (wA.heap.size, v2) :: (w.heap.size + 1 + 1, v37) :: (w.heap.size + 1, v36) :: (w.heap.size, v29) :: L) from by rw [hv]; exact hq)
                have S37 := Lib.hid (show Sz 65 v37 from by rw [hv]; exact (SZ1.out.le (by decide : 64 ≤ 64)).add (SZ2.out.le (by decide : 64 ≤ 64)))
                have E37 := Lib.hid hv
                clear hq hv
                clear cP
                have cP := K0.out w37 O37.out.kept
                go_wp2_with fail
                refine (mulO O37.out 11 11 11 rfl rfl rfl NRz3.out (S37.out.le (by decide : 65 ≤ 704)) (S37.out.le (by decide : 65 ≤ 2496))).mono ?_
                rintro en w38 ⟨rfl, hq⟩
                obtain ⟨v38, hv⟩ : ∃ v38 : Int, v38 = v37 * v37 := ⟨_, rfl⟩
                have O38 := Lib.hid (show Own R w w38 ((w22.heap.size, v31) :: (w19.heap.size, v22) :: (w16.heap.size, v19) :: (w13.heap.size, v34) :: (w12.heap.size, v13) :: (w10.heap.size, v12) :: (w8.heap.size, v10) :: (w6.heap.size, v8) :: (w4.heap.size, v6) :: (w2.heap.size, v4) :: (wA.heap.size, v2) :: (w.heap.size + 1 + 1, v38) :: (w.heap.size + 1, v36) :: (w.heap.size, v29) :: L) from by rw [hv]; exact hq)
                have S38 := Lib.hid (show Sz 130 v38 from by rw [hv]; exact S37.out.mul S37.out)
                have E38 := Lib.hid hv
                clear hq hv
                clear cP
                have cP := K0.out w38 O38.out.kept
                go_wp2_with fail
                refine (subO O38.out 11 11 10 rfl rfl rfl NRz3.out (S38.out.le (by decide : 130 ≤ 640000)) (S2.out.le (by decide : 64 ≤ 640000))).mono ?_
                rintro en w39 ⟨rfl, hq⟩
                obtain ⟨v39, hv⟩ : ∃ v39 : Int, v39 = v38 - v2 := ⟨_, rfl⟩
                have O39 := Lib.hid (show Own R w w39 ((w22.heap.size, v31) :: (w19.heap.size, v22) :: (w16.heap.size, v19) :: (w13.heap.size, v34) :: (w12.heap.size, v13) :: (w10.heap.size, v12) :: (w8.heap.size, v10) :: (w6.heap.size, v8) :: (w4.heap.size, v6) :: (w2.heap.size, v4) :: (wA.heap.size, v2) :: (w.heap.size + 1 + 1, v39) :: (w.heap.size + 1, v36) :: (w.heap.size, v29) :: L) from by rw [hv]; exact hq)
                have S39 := Lib.hid (show Sz 131 v39 from by rw [hv]; exact (S38.out.le (by decide : 130 ≤ 130)).sub (S2.out.le (by decide : 64 ≤ 130)))
                have E39 := Lib.hid hv
                clear hq hv
                clear cP
                have cP := K0.out w39 O39.out.kept
                go_wp2_with fail
                refine (subO O39.out 11 11 9 rfl rfl rfl NRz3.out (S39.out.le (by decide : 131 ≤ 640000)) (S4.out.le (by decide : 64 ≤ 640000))).mono ?_
                rintro en w40 ⟨rfl, hq⟩
                obtain ⟨v40, hv⟩ : ∃ v40 : Int, v40 = v39 - v4 := ⟨_, rfl⟩
                have O40 := Lib.hid (show Own R w w40 ((w22.heap.size, v31) :: (w19.heap.size, v22) :: (w16.heap.size, v19) :: (w13.heap.size, v34) :: (w12.heap.size, v13) :: (w10.heap.size, v12) :: (w8.heap.size, v10) :: (w6.heap.size, v8) :: (w4.heap.size, v6) :: (w2.heap.size, v4) :: (wA.heap.size, v2) :: (w.heap.size + 1 + 1, v40) :: (w.heap.size + 1, v36) :: (w.heap.size, v29) :: L) from by rw [hv]; exact hq)
                have S40 := Lib.hid (show Sz 132 v40 from by rw [hv]; exact (S39.out.le (by decide : 131 ≤ 131)).sub (S4.out.le (by decide : 64 ≤ 131)))
                have E40 := Lib.hid hv
                clear hq hv
                clear cP
                have cP := K0.out w40 O40.out.kept
                go_wp2_with fail
                refine (mulO O40.out 11 11 6 rfl rfl rfl NRz3.out (S40.out.le (by decide : 132 ≤ 704)) (S10.out.le (by decide : 66 ≤ 2496))).mono ?_
                rintro en w41 ⟨rfl, hq⟩
                obtain ⟨v41, hv⟩ : ∃ v41 : Int, v41 = v40 * v10 := ⟨_, rfl⟩
                have O41 := Lib.hid (show Own R w w41 ((w22.heap.size, v31) :: (w19.heap.size, v22) :: (w16.heap.size, v19) :: (w13.heap.size, v34) :: (w12.heap.size, v13) :: (w10.heap.size, v12) :: (w8.heap.size, v10) :: (w6.heap.size, v8) :: (w4.heap.size, v6) :: (w2.heap.size, v4) :: (wA.heap.size, v2) :: (w.heap.size + 1 + 1, v41) :: (w.heap.size + 1, v36) :: (w.heap.size, v29) :: L) from by rw [hv]; exact hq)
                have S41 := Lib.hid (show Sz 198 v41 from by rw [hv]; exact S40.out.mul S10.out)
                have E41 := Lib.hid hv
                clear hq hv
                clear cP
                have cP := K0.out w41 O41.out.kept
                go_wp2_with fail
                refine (modO O41.out 11 11 (iP + 14) rfl rfl HP.out (by omega) NRz3.out (S41.out.le (by decide : 198 ≤ 630000)) (SP.out.le (by decide : 64 ≤ 630000)) HD.out HP0.out).mono ?_
                rintro en w42 ⟨rfl, hq⟩
                obtain ⟨v42, hv⟩ : ∃ v42 : Int, v42 = v41 % p := ⟨_, rfl⟩
                have O42 := Lib.hid (show Own R w w42 ((w22.heap.size, v31) :: (w19.heap.size, v22) :: (w16.heap.size, v19) :: (w13.heap.size, v34) :: (w12.heap.size, v13) :: (w10.heap.size, v12) :: (w8.heap.size, v10) :: (w6.heap.size, v8) :: (w4.heap.size, v6) :: (w2.heap.size, v4) :: (wA.heap.size, v2) :: (w.heap.size + 1 + 1, v42) :: (w.heap.size + 1, v36) :: (w.heap.size, v29) :: L) from by rw [hv]; exact hq)
                have S42 := Lib.hid (show Sz 64 v42 from by rw [hv]; exact Sz.emod _ HP0.out SP.out)
                have E42 := Lib.hid hv
                clear hq hv
                clear cP
                have cP := K0.out w42 O42.out.kept
                have HPOST := Lib.hid (show AddPost Z1 Z2 p v2 v4 v6 v10 v12 v13 v16 v21 v29 v36 v42 from ⟨v22, v23, v24, v25, v26, v27, v28, v30, v31, v32, v33, v34, v35, v37, v38, v39, v40, v41, E22.out, E23.out, E24.out, E25.out, E26.out, E27.out, E28.out, E29.out, E30.out, E31.out, E32.out, E33.out, E34.out, E35.out, E36.out, E37.out, E38.out, E39.out, E40.out, E41.out, E42.out⟩)
                go_wp2_with fail
                have hO : Own R w w42 (((w.heap.size + 1 + 1, v42) : Nat × Int) :: (w.heap.size + 1, v36) :: (w.heap.size, v29) :: L) := Own.choose (L := L) (A := [(w22.heap.size, v31), (w19.heap.size, v22), (w16.heap.size, v19), (w13.heap.size, v34), (w12.heap.size, v13), (w10.heap.size, v12), (w8.heap.size, v10), (w6.heap.size, v8), (w4.heap.size, v6), (w2.heap.size, v4), (wA.heap.size, v2), (w.heap.size + 1 + 1, v42), (w.heap.size + 1, v36), (w.heap.size, v29)]) O42.out [11, 12, 13] (by decide) (by simp)
                have HO := Lib.hid hO
                clear hO
                have HST := Lib.hid (And.intro HPRE.out (And.intro HSAME.out HPOST.out))
                go_ret3
                exact ⟨w.heap.size, w.heap.size + 1, w.heap.size + 1 + 1, v29, v36, v42, rfl, HSS.out.after HO.out, NRx3.out, NRy3.out, NRz3.out, v2, v4, v6, v9, v10, v12, v13, v16, v21, HST.out.1, .inr HST.out.2⟩
end
end Go.Proofs.YtohhkjamddojmaaGreatDoor.Big

namespace Go.Proofs.YtohhkjamddojmaaGreatDoor.Big
open EcLaw

theorem dvd_mod {p v w : Int} (h : w = v % p) : p ∣ w - v := h ▸ sub_emod_dvd p v
theorem dvd_fix {p v w : Int} (h : w = if v < 0 then v + p else v) : p ∣ w - v := by
  subst h
  split
  · exact ⟨1, by omega⟩
  · exact ⟨0, by omega⟩
theorem mod_in {p v w : Int} (hp : 0 < p) (h : w = v % p) : 0 ≤ w ∧ w < p := by
  subst h
  exact ⟨Int.emod_nonneg _ (by omega), Int.emod_lt_of_pos _ hp⟩

/-- three coordinates are reduced -/
def Red (p X Y Z : Int) : Prop := (0 ≤ X ∧ X < p) ∧ (0 ≤ Y ∧ Y < p) ∧ (0 ≤ Z ∧ Z < p)
theorem dbl_law {p X Y Z X3 Y3 Z3 : Int} (hp : 0 < p) (D : DblSteps X Y Z p X3 Y3 Z3) : Red p X3 Y3 Z3 ∧
    ∃ M S, p ∣ M - (3*X^2 + (-3)*Z^4) ∧ p ∣ S - 4*X*Y^2 ∧ p ∣ X3 - (M^2 - 2*S) ∧ p ∣ Y3 - (M*(S - X3) - 8*Y^4) ∧ p ∣ Z3 - 2*Y*Z := by
  obtain ⟨v1, v2, v3, v4, v5, v6, v7, v8, v9, v10, v11, v12, v13, v14, v15, v16, v17, v19, v20, v21, v22, v23, v24, v26, v27, v28, v29, v30, v31, v32, v33, v34, e1, e2, e3, e4, e5, e6, e7, e8, e9, e10, e11, e12, e13, e14, e15, e16, e17, e18, e19, e20, e21, e22, e23, e24, e25, e26, e27, e28, e29, e30, e31, e32, e33, e34, e35⟩ := D
  refine ⟨⟨mod_in hp e18, mod_in hp e35, mod_in hp e25⟩, v11, 4 * v12, ?_⟩
  have c2 := dvd_mod e2
  have c4 := dvd_mod e4
  have c6 := dvd_fix e6
  have c15 := dvd_mod e15
  have c17 := dvd_fix e17
  have c18 := dvd_mod e18
  have c22 := dvd_fix e22
  have c24 := dvd_fix e24
  have c25 := dvd_mod e25
  have c28 := dvd_fix e28
  have c32 := dvd_mod e32
  have c34 := dvd_fix e34
  have c35 := dvd_mod e35
  have k6 : p ∣ v6 - (X - Z^2) := lin2 1 (-1) c6 c2 (by grind)
  have kM : p ∣ v11 - (3*X^2 + (-3)*Z^4) := lin2 (3*(X + v2)) (3*(X - Z^2)) k6 c2 (by grind)
  have kS : p ∣ 4 * v12 - 4*X*Y^2 := dvd_of_eq_mul (4*X) c4 (by grind)
  have kX : p ∣ X3 - (v11^2 - 2*(4*v12)) := lin3 1 1 (-1) c18 c17 c15 (by grind)
  have kZ : p ∣ Z3 - 2*Y*Z := by
    have t1 := lin3 1 1 1 c25 c24 c22 rfl
    exact lin3 1 (-1) (-1) t1 c2 c4 (by grind)
  refine ⟨kM, kS, kX, ?_, kZ⟩
  have t1 := lin2 1 1 c35 c34 rfl
  have t2 : p ∣ v11 * v28 - v11 * (4*v12 - X3) := dvd_of_eq_mul v11 c28 (by grind)
  have t3 : p ∣ v32 - 8*Y^4 := lin2 1 (8*(v4 + Y^2)) c32 c4 (by grind)
  exact lin3 1 1 (-1) t1 t2 t3 (by grind)
theorem z3_id {p Z1 Z2 Z3 a b h : Int} (t : p ∣ Z3 - ((Z1 + Z2) * (Z1 + Z2) - a - b) * h) (c2 : p ∣ a - Z1 * Z1) (c4 : p ∣ b - Z2 * Z2) : p ∣ Z3 - 2*Z1*Z2*h := lin3 1 (-h) (-h) t c2 c4 (by grind)
theorem add_law {p X1 Y1 Z1 X2 Y2 Z2 X3 Y3 Z3 : Int} (hp : 0 < p) (A : AddStepsP X1 Y1 Z1 X2 Y2 Z2 p X3 Y3 Z3) : Red p X3 Y3 Z3 ∧
    ∃ U1 U2 H S1 S2 R, p ∣ U1 - X1*Z2^2 ∧ p ∣ U2 - X2*Z1^2 ∧ p ∣ H - (U2 - U1) ∧ p ∣ S1 - Y1*Z2^3 ∧ p ∣ S2 - Y2*Z1^3 ∧ p ∣ R - (S2 - S1) ∧
      (((p ∣ H ∧ p ∣ R) ∧ DblSteps X1 Y1 Z1 p X3 Y3 Z3) ∨ (¬ (p ∣ H ∧ p ∣ R) ∧ p ∣ X3 - (4*R^2 - 4*H^3 - 8*U1*H^2) ∧ p ∣ Y3 - (2*R*(4*U1*H^2 - X3) - 8*S1*H^3) ∧ p ∣ Z3 - 2*Z1*Z2*H)) := by
  obtain ⟨v2, v4, v6, v9, v10, v12, v13, v16, v21, ⟨v1, v3, v5, v7, v8, v11, v14, v15, v17, v18, v19, v20, e1, e2, e3, e4, e5, e6, e7, e8, e9, e10, e11, e12, e13, e14, e15, e16, e17, e18, e19, e20, e21⟩, hor⟩ := A
  have c2 := dvd_mod e2
  have c4 := dvd_mod e4
  have c6 := dvd_mod e6
  have c8 := dvd_mod e8
  have c10 := dvd_fix e10
  have c16 := dvd_mod e16
  have c19 := dvd_mod e19
  have c21 := dvd_fix e21
  have kU1 : p ∣ v6 - X1*Z2^2 := lin2 1 X1 c6 c4 (by grind)
  have kU2 : p ∣ v8 - X2*Z1^2 := lin2 1 X2 c8 c2 (by grind)
  have kH : p ∣ v10 - (v8 - v6) := dvd_of_eq_mul 1 c10 (by grind)
  have kS1 : p ∣ v16 - Y1*Z2^3 := lin2 1 (Y1*Z2) c16 c4 (by grind)
  have kS2 : p ∣ v19 - Y2*Z1^3 := lin2 1 (Y2*Z1) c19 c2 (by grind)
  have kR : p ∣ v21 - (v19 - v16) := dvd_of_eq_mul 1 c21 (by grind)
  have i6 := mod_in hp e6
  have i8 := mod_in hp e8
  have i16 := mod_in hp e16
  have i19 := mod_in hp e19
  have hH : p ∣ v10 ↔ v9 = 0 := by
    constructor
    · intro h
      have h1 : p ∣ v8 - v6 := lin2 1 (-1) h kH (by grind)
      have := eq_of_range i8.1 i8.2 i6.1 i6.2 h1
      omega
    · intro h
      rw [e10, h, if_neg (by omega)]
      exact ⟨0, by omega⟩
  have hR : p ∣ v21 ↔ v21 = 0 := by
    constructor
    · intro h
      have h1 : p ∣ v19 - v16 := lin2 1 (-1) h kR (by grind)
      have := eq_of_range i19.1 i19.2 i16.1 i16.2 h1
      rw [e21, e20, if_neg (by omega)]
      omega
    · intro h
      rw [h]
      exact ⟨0, by omega⟩
  rcases hor with ⟨hs, hd⟩ | ⟨hs, hpost⟩
  · exact ⟨(dbl_law hp hd).1, v6, v8, v10, v16, v19, v21, kU1, kU2, kH, kS1, kS2, kR, .inl ⟨⟨hH.2 hs.1, hR.2 hs.2⟩, hd⟩⟩
  · obtain ⟨v22, v23, v24, v25, v26, v27, v28, v30, v31, v32, v33, v34, v35, v37, v38, v39, v40, v41, f22, f23, f24, f25, f26, f27, f28, f29, f30, f31, f32, f33, f34, f35, f36, f37, f38, f39, f40, f41, f42⟩ := hpost
    refine ⟨⟨mod_in hp f29, mod_in hp f36, mod_in hp f42⟩, v6, v8, v10, v16, v19, v21, kU1, kU2, kH, kS1, kS2, kR, .inr ⟨fun h => hs ⟨hH.1 h.1, hR.1 h.2⟩, ?_, ?_, ?_⟩⟩
    · exact dvd_of_eq_mul 1 (dvd_mod f29) (by grind)
    · exact dvd_of_eq_mul 1 (dvd_mod f36) (by grind)
    · have t := dvd_mod f42
      rw [f41, f40, f39, f38, f37] at t
      rw [e1] at c2
      rw [e3] at c4
      exact z3_id t c2 c4

/-- coordinates of a point -/
def IsJ (p : Int) (A : Pt) (X Y Z : Int) : Prop := Red p X Y Z ∧ Jac p X Y Z A
theorem red_zero {p Z : Int} (h0 : 0 ≤ Z) (h1 : Z < p) (h : p ∣ Z) : Z = 0 := by
  have := Int.emod_eq_of_lt h0 h1
  rw [Int.emod_eq_zero_of_dvd h] at this
  exact this.symm
theorem dbl_isJ {p b X Y Z X3 Y3 Z3 : Int} {A : Pt} (h : Prm p) (hA : On p (-3) b A) (j : IsJ p A X Y Z) (D : DblSteps X Y Z p X3 Y3 Z3) : IsJ p (add p (-3) A A) X3 Y3 Z3 := by
  obtain ⟨hr, M, S, hM, hS, hX, hY, hZ⟩ := dbl_law (by have := h.two; omega) D
  refine ⟨hr, ?_⟩
  cases A with
  | inf => exact jac_double_inf (Y := Y) j.2 hZ
  | aff x y => exact jac_double h hA j.2 hM hS hX hY hZ
theorem add_isJ {p b X1 Y1 Z1 X2 Y2 Z2 X3 Y3 Z3 : Int} {A B : Pt} (h : Prm p) (hA : On p (-3) b A) (hB : On p (-3) b B) (jA : IsJ p A X1 Y1 Z1) (jB : IsJ p B X2 Y2 Z2) (n1 : Z1 ≠ 0) (n2 : Z2 ≠ 0) (D : AddStepsP X1 Y1 Z1 X2 Y2 Z2 p X3 Y3 Z3) : IsJ p (add p (-3) A B) X3 Y3 Z3 := by
  obtain ⟨hr, U1, U2, H, S1, S2, R, hU1, hU2, hH, hS1, hS2, hR, hor⟩ := add_law (by have := h.two; omega) D
  refine ⟨hr, ?_⟩
  cases A with
  | inf => exact absurd (red_zero jA.1.2.2.1 jA.1.2.2.2 jA.2) n1
  | aff x1 y1 =>
    cases B with
    | inf => exact absurd (red_zero jB.1.2.2.1 jB.1.2.2.2 jB.2) n2
    | aff x2 y2 =>
      rcases hor with ⟨⟨h0, r0⟩, hd⟩ | ⟨hne, hX, hY, hZ⟩
      · have hsame : Pt.aff x1 y1 = Pt.aff x2 y2 := by
          obtain ⟨m1, ex1, ey1⟩ := jA.2
          obtain ⟨m2, ex2, ey2⟩ := jB.2
          have n12 := h.nmul m1 m2
          have n4 := h.nmul n12 n12
          have n6 := h.nmul n4 n12
          have gx : p ∣ (Z1*Z2*(Z1*Z2)) * (x1 - x2) := by
            have a1 : p ∣ U2 - U1 := lin2 1 (-1) h0 hH (by grind)
            have a2 : p ∣ U1 - x1*(Z1*Z2)^2 := lin2 1 (Z2^2) hU1 ex1 (by grind)
            have a3 : p ∣ U2 - x2*(Z1*Z2)^2 := lin2 1 (Z1^2) hU2 ex2 (by grind)
            exact lin3 (-1) (-1) 1 a1 a2 a3 (by grind)
          have gy : p ∣ (Z1*Z2*(Z1*Z2)*(Z1*Z2)) * (y1 - y2) := by
            have a1 : p ∣ S2 - S1 := lin2 1 (-1) r0 hR (by grind)
            have a2 : p ∣ S1 - y1*(Z1*Z2)^3 := lin2 1 (Z2^3) hS1 ey1 (by grind)
            have a3 : p ∣ S2 - y2*(Z1*Z2)^3 := lin2 1 (Z1^3) hS2 ey2 (by grind)
            exact lin3 (-1) (-1) 1 a1 a2 a3 (by grind)
          exact aff_eq hA hB (h.cancel n4 gx) (h.cancel n6 gy)
        rw [← hsame]
        exact (dbl_isJ h hA jA hd).2
      · exact jac_add h hA hB jA.2 jB.2 hU1 hU2 hH hS1 hS2 hR hX hY hZ hne
end Go.Proofs.YtohhkjamddojmaaGreatDoor.Big
