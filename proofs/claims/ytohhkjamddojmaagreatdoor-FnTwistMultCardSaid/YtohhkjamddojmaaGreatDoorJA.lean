/- Doubling in Jacobian coordinates on the curve y^2 = x^3 - 3x + b: the steps as the program takes them. -/
import Derived.Test.YtohhkjamddojmaaGreatDoorTA
import Derived.Test.YtohhkjamddojmaaGreatDoorLA
import Derived.Deep.Cut
namespace Go.Proofs.YtohhkjamddojmaaGreatDoor.Big
open Go.RowKit
attribute [local go_sem] ptr

theorem sz_lsh {n : Nat} {a : Int} (s : Nat) (h : Sz n a) : Sz (n + s) (a * 2 ^ s) := by
  unfold Sz at *
  rw [lsh_abs, Nat.pow_add]
  exact Nat.mul_lt_mul_of_pos_right h (Nat.pow_pos (by decide))
theorem sz_fix {n : Nat} {a p : Int} (h : Sz n a) (k : Sz n p) : Sz (n + 1) (if a < 0 then a + p else a) := by
  split
  · exact h.add k
  · exact h.le (Nat.le_succ n)
theorem sign_ne {a : Int} (h : ¬ a < 0) : a.sign ≠ -1 := fun e => h (Int.sign_eq_neg_one_iff_neg.1 e)
attribute [local irreducible] Sz

section
variable {R : Nat → Prop} {w0 w w' : World} {L L' : List (Nat × Int)}
/-- the steps -/
def DblSteps (X Y Z p : Int) (v18 v35 v25 : Int) : Prop := ∃ v1 v2 v3 v4 v5 v6 v7 v8 v9 v10 v11 v12 v13 v14 v15 v16 v17 v19 v20 v21 v22 v23 v24 v26 v27 v28 v29 v30 v31 v32 v33 v34 : Int, v1 = Z * Z ∧ v2 = v1 % p ∧ v3 = Y * Y ∧ v4 = v3 % p ∧ v5 = X - v2 ∧ v6 = (if v5 < 0 then v5 + p else v5) ∧ v7 = X + v2 ∧ v8 = v6 * v7 ∧ v9 = v8 ∧ v10 = v8 * 2 ^ 1 ∧ v11 = v10 + v9 ∧ v12 = X * v4 ∧ v13 = v11 * v11 ∧ v14 = v12 * 2 ^ 3 ∧ v15 = v14 % p ∧ v16 = v13 - v15 ∧ v17 = (if v16 < 0 then v16 + p else v16) ∧ v18 = v17 % p ∧ v19 = Y + Z ∧ v20 = v19 * v19 ∧ v21 = v20 - v4 ∧ v22 = (if v21 < 0 then v21 + p else v21) ∧ v23 = v22 - v2 ∧ v24 = (if v23 < 0 then v23 + p else v23) ∧ v25 = v24 % p ∧ v26 = v12 * 2 ^ 2 ∧ v27 = v26 - v18 ∧ v28 = (if v27 < 0 then v27 + p else v27) ∧ v29 = v11 * v28 ∧ v30 = v4 * v4 ∧ v31 = v30 * 2 ^ 3 ∧ v32 = v31 % p ∧ v33 = v29 - v32 ∧ v34 = (if v33 < 0 then v33 + p else v33) ∧ v35 = v34 % p
/-- what a function gives that makes three Ints -/
def TriO (R : Nat → Prop) (w0 : World) (L : List (Nat × Int)) (Q : Int → Int → Int → Prop) (e : Ending) (w' : World) : Prop :=
  ∃ x3 y3 z3 X3 Y3 Z3, e = .returned (.tuple #[ptr x3, ptr y3, ptr z3]) ∧ Own R w0 w' ((z3, Z3) :: (y3, Y3) :: (x3, X3) :: L) ∧ ¬ R x3 ∧ ¬ R y3 ∧ ¬ R z3 ∧ Q X3 Y3 Z3
set_option maxHeartbeats 40000000 in
set_option maxRecDepth 100000 in
theorem doubleO (h : Own R w0 w L) (c x y z P ix iy iz iP : Nat) (X Y Z p : Int) (hcP : w.cell? ⟨c, 0, .none⟩ = some (ptr P)) (hRc : R c) (hx : L[ix]? = some (x, X)) (hy : L[iy]? = some (y, Y)) (hz : L[iz]? = some (z, Z)) (hP : L[iP]? = some (P, p))
    (sX : Sz 64 X) (sY : Sz 64 Y) (sZ : Sz 64 Z) (sp : Sz 64 p) (hdiv : DivOK p.natAbs) (hp0 : p ≠ 0) :
    Calls Tryz.prog 301 #[ptr c, ptr x, ptr y, ptr z] w (TriO R w0 L (DblSteps X Y Z p)) := by
  have HSS := Lib.hid h
  have O0 := Lib.hid h.since
  have HX := Lib.hid hx
  have HY := Lib.hid hy
  have HZ := Lib.hid hz
  have HP := Lib.hid hP
  have SX := Lib.hid sX
  have SY := Lib.hid sY
  have SZ := Lib.hid sZ
  have SP := Lib.hid sp
  have HD := Lib.hid hdiv
  have HP0 := Lib.hid hp0
  have K0 := Lib.hid (fun (w' : World) (k : Kept R w w') => (k.cell hRc hcP : w'.cell? ⟨c, 0, .none⟩ = some (ptr P)))
  have cP := hcP
  clear h hx hy hz hP sX sY sZ sp hdiv hp0 hRc hcP
  unfold ptr at *
  go_enter Tryz.func301, Tryz.ntmps301
  obtain ⟨hN, hR⟩ := O0.out.new
  have HN0 := Lib.hid hN
  have NRdelta := Lib.hid hR
  clear hN hR
  go_wp2_with fail
  refine (mulO HN0.out 0 (iz + 1) (iz + 1) rfl HZ.out HZ.out NRdelta.out (SZ.out.le (by decide : 64 ≤ 704)) (SZ.out.le (by decide : 64 ≤ 2496))).mono ?_
  rintro en w1 ⟨rfl, hq⟩
  obtain ⟨v1, hv⟩ : ∃ v1 : Int, v1 = Z * Z := ⟨_, rfl⟩
  have O1 := Lib.hid (show Own R w w1 ((w.heap.size, v1) :: L) from by rw [hv]; exact hq)
  have S1 := Lib.hid (show Sz 128 v1 from by rw [hv]; exact SZ.out.mul SZ.out)
  have E1 := Lib.hid hv
  clear hq hv
  clear cP
  have cP := K0.out w1 O1.out.kept
  go_wp2_with fail
  refine (modO O1.out 0 0 (iP + 1) rfl rfl HP.out (by omega) NRdelta.out (S1.out.le (by decide : 128 ≤ 630000)) (SP.out.le (by decide : 64 ≤ 630000)) HD.out HP0.out).mono ?_
  rintro en w2 ⟨rfl, hq⟩
  obtain ⟨v2, hv⟩ : ∃ v2 : Int, v2 = v1 % p := ⟨_, rfl⟩
  have O2 := Lib.hid (show Own R w w2 ((w.heap.size, v2) :: L) from by rw [hv]; exact hq)
  have S2 := Lib.hid (show Sz 64 v2 from by rw [hv]; exact Sz.emod _ HP0.out SP.out)
  have E2 := Lib.hid hv
  clear hq hv
  clear cP
  have cP := K0.out w2 O2.out.kept
  obtain ⟨hN, hR⟩ := O2.out.new
  have HN2 := Lib.hid hN
  have NRgamma := Lib.hid hR
  clear hN hR
  go_wp2_with fail
  refine (mulO HN2.out 0 (iy + 2) (iy + 2) rfl HY.out HY.out NRgamma.out (SY.out.le (by decide : 64 ≤ 704)) (SY.out.le (by decide : 64 ≤ 2496))).mono ?_
  rintro en w3 ⟨rfl, hq⟩
  obtain ⟨v3, hv⟩ : ∃ v3 : Int, v3 = Y * Y := ⟨_, rfl⟩
  have O3 := Lib.hid (show Own R w w3 ((w2.heap.size, v3) :: (w.heap.size, v2) :: L) from by rw [hv]; exact hq)
  have S3 := Lib.hid (show Sz 128 v3 from by rw [hv]; exact SY.out.mul SY.out)
  have E3 := Lib.hid hv
  clear hq hv
  clear cP
  have cP := K0.out w3 O3.out.kept
  go_wp2_with fail
  refine (modO O3.out 0 0 (iP + 2) rfl rfl HP.out (by omega) NRgamma.out (S3.out.le (by decide : 128 ≤ 630000)) (SP.out.le (by decide : 64 ≤ 630000)) HD.out HP0.out).mono ?_
  rintro en w4 ⟨rfl, hq⟩
  obtain ⟨v4, hv⟩ : ∃ v4 : Int, v4 = v3 % p := ⟨_, rfl⟩
  have O4 := Lib.hid (show Own R w w4 ((w2.heap.size, v4) :: (w.heap.size, v2) :: L) from by rw [hv]; exact hq)
  have S4 := Lib.hid (show Sz 64 v4 from by rw [hv]; exact Sz.emod _ HP0.out SP.out)
  have E4 := Lib.hid hv
  clear hq hv
  clear cP
  have cP := K0.out w4 O4.out.kept
  obtain ⟨hN, hR⟩ := O4.out.new
  have HN4 := Lib.hid hN
  have NRalpha := Lib.hid hR
  clear hN hR
  go_wp2_with fail
  refine (subO HN4.out 0 (ix + 3) 2 rfl HX.out rfl NRalpha.out (SX.out.le (by decide : 64 ≤ 640000)) (S2.out.le (by decide : 64 ≤ 640000))).mono ?_
  rintro en w5 ⟨rfl, hq⟩
  obtain ⟨v5, hv⟩ : ∃ v5 : Int, v5 = X - v2 := ⟨_, rfl⟩
  have O5 := Lib.hid (show Own R w w5 ((w4.heap.size, v5) :: (w2.heap.size, v4) :: (w.heap.size, v2) :: L) from by rw [hv]; exact hq)
  have S5 := Lib.hid (show Sz 65 v5 from by rw [hv]; exact (SX.out.le (by decide : 64 ≤ 64)).sub (S2.out.le (by decide : 64 ≤ 64)))
  have E5 := Lib.hid hv
  clear hq hv
  clear cP
  have cP := K0.out w5 O5.out.kept
  go_upto_if 48 with (go_at_call 121; refine (signO O5.out 0 rfl).mono ?_; rintro en wq ⟨rfl, rfl⟩)
  obtain ⟨v6, hv⟩ : ∃ v6 : Int, v6 = (if v5 < 0 then v5 + p else v5) := ⟨_, rfl⟩
  have E6 := Lib.hid hv
  have S6 := Lib.hid (show Sz 66 v6 from by rw [hv]; exact sz_fix (S5.out.le (by decide : 65 ≤ 65)) (SP.out.le (by decide : 64 ≤ 65)))
  clear hv
  go_cut [] from 20 (fun wx => Own R w wx ((w4.heap.size, v6) :: (w2.heap.size, v4) :: (w.heap.size, v2) :: L))
  case first =>
    as_aux_lemma =>
      by_cases hc : v5 < 0
      · have hs : (v5.sign == (-1 : Int)) = true := by rw [Int.sign_eq_neg_one_of_neg hc]; rfl
        have HV := Lib.hid (show v6 = v5 + p by rw [E6.out, if_pos hc])
        clear hc
        go_wp2_with fail
        refine (addO O5.out 0 0 (iP + 3) rfl rfl HP.out NRalpha.out (S5.out.le (by decide : 65 ≤ 640000)) (SP.out.le (by decide : 64 ≤ 640000))).mono ?_
        rintro en wq ⟨rfl, hq⟩
        have HQ := Lib.hid (show Own R w wq ((w4.heap.size, v6) :: (w2.heap.size, v4) :: (w.heap.size, v2) :: L) from by rw [HV.out]; exact hq)
        clear hq
        go_wp2_with fail
        go_meet
        case rel => exact HQ.out
      · have hs : (v5.sign == (-1 : Int)) = false := by rw [beq_eq_false_iff_ne]; exact sign_ne hc
        have HQ := Lib.hid (show Own R w w5 ((w4.heap.size, v6) :: (w2.heap.size, v4) :: (w.heap.size, v2) :: L) from by rw [E6.out, if_neg hc]; exact O5.out)
        clear hc
        go_wp2_with fail
        go_meet
        case rel => exact HQ.out
  case rest =>
    as_aux_lemma =>
      obtain ⟨w6, hwc⟩ : ∃ w6, w6 = wc := ⟨_, rfl⟩
      subst hwc
      have O6 := Lib.hid hcut
      clear hcut
      clear cP
      have cP := K0.out w6 O6.out.kept
      obtain ⟨hN, hR⟩ := O6.out.new
      have HN6 := Lib.hid hN
      have NRalpha2 := Lib.hid hR
      clear hN hR
      go_wp2_with fail
      refine (addO HN6.out 0 (ix + 4) 3 rfl HX.out rfl NRalpha2.out (SX.out.le (by decide : 64 ≤ 640000)) (S2.out.le (by decide : 64 ≤ 640000))).mono ?_
      rintro en w7 ⟨rfl, hq⟩
      obtain ⟨v7, hv⟩ : ∃ v7 : Int, v7 = X + v2 := ⟨_, rfl⟩
      have O7 := Lib.hid (show Own R w w7 ((w6.heap.size, v7) :: (w4.heap.size, v6) :: (w2.heap.size, v4) :: (w.heap.size, v2) :: L) from by rw [hv]; exact hq)
      have S7 := Lib.hid (show Sz 65 v7 from by rw [hv]; exact (SX.out.le (by decide : 64 ≤ 64)).add (S2.out.le (by decide : 64 ≤ 64)))
      have E7 := Lib.hid hv
      clear hq hv
      clear cP
      have cP := K0.out w7 O7.out.kept
      go_wp2_with fail
      refine (mulO O7.out 1 1 0 rfl rfl rfl NRalpha.out (S6.out.le (by decide : 66 ≤ 704)) (S7.out.le (by decide : 65 ≤ 2496))).mono ?_
      rintro en w8 ⟨rfl, hq⟩
      obtain ⟨v8, hv⟩ : ∃ v8 : Int, v8 = v6 * v7 := ⟨_, rfl⟩
      have O8 := Lib.hid (show Own R w w8 ((w6.heap.size, v7) :: (w4.heap.size, v8) :: (w2.heap.size, v4) :: (w.heap.size, v2) :: L) from by rw [hv]; exact hq)
      have S8 := Lib.hid (show Sz 131 v8 from by rw [hv]; exact S6.out.mul S7.out)
      have E8 := Lib.hid hv
      clear hq hv
      clear cP
      have cP := K0.out w8 O8.out.kept
      go_wp2_with fail
      refine (setO O8.out 0 1 rfl rfl NRalpha2.out (S8.out.le (by decide : 131 ≤ 640000))).mono ?_
      rintro en w9 ⟨rfl, hq⟩
      obtain ⟨v9, hv⟩ : ∃ v9 : Int, v9 = v8 := ⟨_, rfl⟩
      have O9 := Lib.hid (show Own R w w9 ((w6.heap.size, v9) :: (w4.heap.size, v8) :: (w2.heap.size, v4) :: (w.heap.size, v2) :: L) from by rw [hv]; exact hq)
      have S9 := Lib.hid (show Sz 131 v9 from by rw [hv]; exact S8.out)
      have E9 := Lib.hid hv
      clear hq hv
      clear cP
      have cP := K0.out w9 O9.out.kept
      go_wp2_with fail
      refine (lshO O9.out 1 1 1 rfl rfl NRalpha.out (S8.out.le (by decide : 131 ≤ 640000)) (by decide) (by decide)).mono ?_
      rintro en w10 ⟨rfl, hq⟩
      obtain ⟨v10, hv⟩ : ∃ v10 : Int, v10 = v8 * 2 ^ 1 := ⟨_, rfl⟩
      have O10 := Lib.hid (show Own R w w10 ((w6.heap.size, v9) :: (w4.heap.size, v10) :: (w2.heap.size, v4) :: (w.heap.size, v2) :: L) from by rw [hv]; exact hq)
      have S10 := Lib.hid (show Sz 132 v10 from by rw [hv]; exact sz_lsh 1 S8.out)
      have E10 := Lib.hid hv
      clear hq hv
      clear cP
      have cP := K0.out w10 O10.out.kept
      go_wp2_with fail
      refine (addO O10.out 1 1 0 rfl rfl rfl NRalpha.out (S10.out.le (by decide : 132 ≤ 640000)) (S9.out.le (by decide : 131 ≤ 640000))).mono ?_
      rintro en w11 ⟨rfl, hq⟩
      obtain ⟨v11, hv⟩ : ∃ v11 : Int, v11 = v10 + v9 := ⟨_, rfl⟩
      have O11 := Lib.hid (show Own R w w11 ((w6.heap.size, v9) :: (w4.heap.size, v11) :: (w2.heap.size, v4) :: (w.heap.size, v2) :: L) from by rw [hv]; exact hq)
      have S11 := Lib.hid (show Sz 133 v11 from by rw [hv]; exact (S10.out.le (by decide : 132 ≤ 132)).add (S9.out.le (by decide : 131 ≤ 132)))
      have E11 := Lib.hid hv
      clear hq hv
      clear cP
      have cP := K0.out w11 O11.out.kept
      go_wp2_with fail
      refine (mulO O11.out 0 (ix + 4) 2 rfl HX.out rfl NRalpha2.out (SX.out.le (by decide : 64 ≤ 704)) (S4.out.le (by decide : 64 ≤ 2496))).mono ?_
      rintro en w12 ⟨rfl, hq⟩
      obtain ⟨v12, hv⟩ : ∃ v12 : Int, v12 = X * v4 := ⟨_, rfl⟩
      have O12 := Lib.hid (show Own R w w12 ((w6.heap.size, v12) :: (w4.heap.size, v11) :: (w2.heap.size, v4) :: (w.heap.size, v2) :: L) from by rw [hv]; exact hq)
      have S12 := Lib.hid (show Sz 128 v12 from by rw [hv]; exact SX.out.mul S4.out)
      have E12 := Lib.hid hv
      clear hq hv
      clear cP
      have cP := K0.out w12 O12.out.kept
      obtain ⟨hN, hR⟩ := O12.out.new
      have HN12 := Lib.hid hN
      have NRx3 := Lib.hid hR
      clear hN hR
      go_wp2_with fail
      refine (mulO HN12.out 0 2 2 rfl rfl rfl NRx3.out (S11.out.le (by decide : 133 ≤ 704)) (S11.out.le (by decide : 133 ≤ 2496))).mono ?_
      rintro en w13 ⟨rfl, hq⟩
      obtain ⟨v13, hv⟩ : ∃ v13 : Int, v13 = v11 * v11 := ⟨_, rfl⟩
      have O13 := Lib.hid (show Own R w w13 ((w12.heap.size, v13) :: (w6.heap.size, v12) :: (w4.heap.size, v11) :: (w2.heap.size, v4) :: (w.heap.size, v2) :: L) from by rw [hv]; exact hq)
      have S13 := Lib.hid (show Sz 266 v13 from by rw [hv]; exact S11.out.mul S11.out)
      have E13 := Lib.hid hv
      clear hq hv
      clear cP
      have cP := K0.out w13 O13.out.kept
      obtain ⟨hN, hR⟩ := O13.out.new
      have HN13 := Lib.hid hN
      have NRbeta8 := Lib.hid hR
      clear hN hR
      go_wp2_with fail
      refine (lshO HN13.out 0 2 3 rfl rfl NRbeta8.out (S12.out.le (by decide : 128 ≤ 640000)) (by decide) (by decide)).mono ?_
      rintro en w14 ⟨rfl, hq⟩
      obtain ⟨v14, hv⟩ : ∃ v14 : Int, v14 = v12 * 2 ^ 3 := ⟨_, rfl⟩
      have O14 := Lib.hid (show Own R w w14 ((w13.heap.size, v14) :: (w12.heap.size, v13) :: (w6.heap.size, v12) :: (w4.heap.size, v11) :: (w2.heap.size, v4) :: (w.heap.size, v2) :: L) from by rw [hv]; exact hq)
      have S14 := Lib.hid (show Sz 131 v14 from by rw [hv]; exact sz_lsh 3 S12.out)
      have E14 := Lib.hid hv
      clear hq hv
      clear cP
      have cP := K0.out w14 O14.out.kept
      go_wp2_with fail
      refine (modO O14.out 0 0 (iP + 6) rfl rfl HP.out (by omega) NRbeta8.out (S14.out.le (by decide : 131 ≤ 630000)) (SP.out.le (by decide : 64 ≤ 630000)) HD.out HP0.out).mono ?_
      rintro en w15 ⟨rfl, hq⟩
      obtain ⟨v15, hv⟩ : ∃ v15 : Int, v15 = v14 % p := ⟨_, rfl⟩
      have O15 := Lib.hid (show Own R w w15 ((w13.heap.size, v15) :: (w12.heap.size, v13) :: (w6.heap.size, v12) :: (w4.heap.size, v11) :: (w2.heap.size, v4) :: (w.heap.size, v2) :: L) from by rw [hv]; exact hq)
      have S15 := Lib.hid (show Sz 64 v15 from by rw [hv]; exact Sz.emod _ HP0.out SP.out)
      have E15 := Lib.hid hv
      clear hq hv
      clear cP
      have cP := K0.out w15 O15.out.kept
      go_wp2_with fail
      refine (subO O15.out 1 1 0 rfl rfl rfl NRx3.out (S13.out.le (by decide : 266 ≤ 640000)) (S15.out.le (by decide : 64 ≤ 640000))).mono ?_
      rintro en w16 ⟨rfl, hq⟩
      obtain ⟨v16, hv⟩ : ∃ v16 : Int, v16 = v13 - v15 := ⟨_, rfl⟩
      have O16 := Lib.hid (show Own R w w16 ((w13.heap.size, v15) :: (w12.heap.size, v16) :: (w6.heap.size, v12) :: (w4.heap.size, v11) :: (w2.heap.size, v4) :: (w.heap.size, v2) :: L) from by rw [hv]; exact hq)
      have S16 := Lib.hid (show Sz 267 v16 from by rw [hv]; exact (S13.out.le (by decide : 266 ≤ 266)).sub (S15.out.le (by decide : 64 ≤ 266)))
      have E16 := Lib.hid hv
      clear hq hv
      clear cP
      have cP := K0.out w16 O16.out.kept
      go_upto_if 98 with (go_at_call 121; refine (signO O16.out 1 rfl).mono ?_; rintro en wq ⟨rfl, rfl⟩)
      obtain ⟨v17, hv⟩ : ∃ v17 : Int, v17 = (if v16 < 0 then v16 + p else v16) := ⟨_, rfl⟩
      have E17 := Lib.hid hv
      have S17 := Lib.hid (show Sz 268 v17 from by rw [hv]; exact sz_fix (S16.out.le (by decide : 267 ≤ 267)) (SP.out.le (by decide : 64 ≤ 267)))
      clear hv
      go_cut [] from 20 (fun wx => Own R w wx ((w13.heap.size, v15) :: (w12.heap.size, v17) :: (w6.heap.size, v12) :: (w4.heap.size, v11) :: (w2.heap.size, v4) :: (w.heap.size, v2) :: L))
      case first =>
        as_aux_lemma =>
          by_cases hc : v16 < 0
          · have hs : (v16.sign == (-1 : Int)) = true := by rw [Int.sign_eq_neg_one_of_neg hc]; rfl
            have HV := Lib.hid (show v17 = v16 + p by rw [E17.out, if_pos hc])
            clear hc
            go_wp2_with fail
            refine (addO O16.out 1 1 (iP + 6) rfl rfl HP.out NRx3.out (S16.out.le (by decide : 267 ≤ 640000)) (SP.out.le (by decide : 64 ≤ 640000))).mono ?_
            rintro en wq ⟨rfl, hq⟩
            have HQ := Lib.hid (show Own R w wq ((w13.heap.size, v15) :: (w12.heap.size, v17) :: (w6.heap.size, v12) :: (w4.heap.size, v11) :: (w2.heap.size, v4) :: (w.heap.size, v2) :: L) from by rw [HV.out]; exact hq)
            clear hq
            go_wp2_with fail
            go_meet
            case rel => exact HQ.out
          · have hs : (v16.sign == (-1 : Int)) = false := by rw [beq_eq_false_iff_ne]; exact sign_ne hc
            have HQ := Lib.hid (show Own R w w16 ((w13.heap.size, v15) :: (w12.heap.size, v17) :: (w6.heap.size, v12) :: (w4.heap.size, v11) :: (w2.heap.size, v4) :: (w.heap.size, v2) :: L) from by rw [E17.out, if_neg hc]; exact O16.out)
            clear hc
            go_wp2_with fail
            go_meet
            case rel => exact HQ.out
      case rest =>
        as_aux_lemma =>
          obtain ⟨w17, hwc⟩ : ∃ w17, w17 = wc := ⟨_, rfl⟩
          subst hwc
          have O17 := Lib.hid hcut
          clear hcut
          clear cP
          have cP := K0.out w17 O17.out.kept
          go_wp2_with fail
          refine (modO O17.out 1 1 (iP + 6) rfl rfl HP.out (by omega) NRx3.out (S17.out.le (by decide : 268 ≤ 630000)) (SP.out.le (by decide : 64 ≤ 630000)) HD.out HP0.out).mono ?_
          rintro en w18 ⟨rfl, hq⟩
          obtain ⟨v18, hv⟩ : ∃ v18 : Int, v18 = v17 % p := ⟨_, rfl⟩
          have O18 := Lib.hid (show Own R w w18 ((w13.heap.size, v15) :: (w12.heap.size, v18) :: (w6.heap.size, v12) :: (w4.heap.size, v11) :: (w2.heap.size, v4) :: (w.heap.size, v2) :: L) from by rw [hv]; exact hq)
          have S18 := Lib.hid (show Sz 64 v18 from by rw [hv]; exact Sz.emod _ HP0.out SP.out)
          have E18 := Lib.hid hv
          clear hq hv
          clear cP
          have cP := K0.out w18 O18.out.kept
          obtain ⟨hN, hR⟩ := O18.out.new
          have HN18 := Lib.hid hN
          have NRz3 := Lib.hid hR
          clear hN hR
          go_wp2_with fail
          refine (addO HN18.out 0 (iy + 7) (iz + 7) rfl HY.out HZ.out NRz3.out (SY.out.le (by decide : 64 ≤ 640000)) (SZ.out.le (by decide : 64 ≤ 640000))).mono ?_
          rintro en w19 ⟨rfl, hq⟩
          obtain ⟨v19, hv⟩ : ∃ v19 : Int, v19 = Y + Z := ⟨_, rfl⟩
          have O19 := Lib.hid (show Own R w w19 ((w18.heap.size, v19) :: (w13.heap.size, v15) :: (w12.heap.size, v18) :: (w6.heap.size, v12) :: (w4.heap.size, v11) :: (w2.heap.size, v4) :: (w.heap.size, v2) :: L) from by rw [hv]; exact hq)
          have S19 := Lib.hid (show Sz 65 v19 from by rw [hv]; exact (SY.out.le (by decide : 64 ≤ 64)).add (SZ.out.le (by decide : 64 ≤ 64)))
          have E19 := Lib.hid hv
          clear hq hv
          clear cP
          have cP := K0.out w19 O19.out.kept
          go_wp2_with fail
          refine (mulO O19.out 0 0 0 rfl rfl rfl NRz3.out (S19.out.le (by decide : 65 ≤ 704)) (S19.out.le (by decide : 65 ≤ 2496))).mono ?_
          rintro en w20 ⟨rfl, hq⟩
          obtain ⟨v20, hv⟩ : ∃ v20 : Int, v20 = v19 * v19 := ⟨_, rfl⟩
          have O20 := Lib.hid (show Own R w w20 ((w18.heap.size, v20) :: (w13.heap.size, v15) :: (w12.heap.size, v18) :: (w6.heap.size, v12) :: (w4.heap.size, v11) :: (w2.heap.size, v4) :: (w.heap.size, v2) :: L) from by rw [hv]; exact hq)
          have S20 := Lib.hid (show Sz 130 v20 from by rw [hv]; exact S19.out.mul S19.out)
          have E20 := Lib.hid hv
          clear hq hv
          clear cP
          have cP := K0.out w20 O20.out.kept
          go_wp2_with fail
          refine (subO O20.out 0 0 5 rfl rfl rfl NRz3.out (S20.out.le (by decide : 130 ≤ 640000)) (S4.out.le (by decide : 64 ≤ 640000))).mono ?_
          rintro en w21 ⟨rfl, hq⟩
          obtain ⟨v21, hv⟩ : ∃ v21 : Int, v21 = v20 - v4 := ⟨_, rfl⟩
          have O21 := Lib.hid (show Own R w w21 ((w18.heap.size, v21) :: (w13.heap.size, v15) :: (w12.heap.size, v18) :: (w6.heap.size, v12) :: (w4.heap.size, v11) :: (w2.heap.size, v4) :: (w.heap.size, v2) :: L) from by rw [hv]; exact hq)
          have S21 := Lib.hid (show Sz 131 v21 from by rw [hv]; exact (S20.out.le (by decide : 130 ≤ 130)).sub (S4.out.le (by decide : 64 ≤ 130)))
          have E21 := Lib.hid hv
          clear hq hv
          clear cP
          have cP := K0.out w21 O21.out.kept
          go_upto_if 127 with (go_at_call 121; refine (signO O21.out 0 rfl).mono ?_; rintro en wq ⟨rfl, rfl⟩)
          obtain ⟨v22, hv⟩ : ∃ v22 : Int, v22 = (if v21 < 0 then v21 + p else v21) := ⟨_, rfl⟩
          have E22 := Lib.hid hv
          have S22 := Lib.hid (show Sz 132 v22 from by rw [hv]; exact sz_fix (S21.out.le (by decide : 131 ≤ 131)) (SP.out.le (by decide : 64 ≤ 131)))
          clear hv
          go_cut [] from 20 (fun wx => Own R w wx ((w18.heap.size, v22) :: (w13.heap.size, v15) :: (w12.heap.size, v18) :: (w6.heap.size, v12) :: (w4.heap.size, v11) :: (w2.heap.size, v4) :: (w.heap.size, v2) :: L))
          case first =>
            as_aux_lemma =>
              by_cases hc : v21 < 0
              · have hs : (v21.sign == (-1 : Int)) = true := by rw [Int.sign_eq_neg_one_of_neg hc]; rfl
                have HV := Lib.hid (show v22 = v21 + p by rw [E22.out, if_pos hc])
                clear hc
                go_wp2_with fail
                refine (addO O21.out 0 0 (iP + 7) rfl rfl HP.out NRz3.out (S21.out.le (by decide : 131 ≤ 640000)) (SP.out.le (by decide : 64 ≤ 640000))).mono ?_
                rintro en wq ⟨rfl, hq⟩
                have HQ := Lib.hid (show Own R w wq ((w18.heap.size, v22) :: (w13.heap.size, v15) :: (w12.heap.size, v18) :: (w6.heap.size, v12) :: (w4.heap.size, v11) :: (w2.heap.size, v4) :: (w.heap.size, v2) :: L) from by rw [HV.out]; exact hq)
                clear hq
                go_wp2_with fail
                go_meet
                case rel => exact HQ.out
              · have hs : (v21.sign == (-1 : Int)) = false := by rw [beq_eq_false_iff_ne]; exact sign_ne hc
                have HQ := Lib.hid (show Own R w w21 ((w18.heap.size, v22) :: (w13.heap.size, v15) :: (w12.heap.size, v18) :: (w6.heap.size, v12) :: (w4.heap.size, v11) :: (w2.heap.size, v4) :: (w.heap.size, v2) :: L) from by rw [E22.out, if_neg hc]; exact O21.out)
                clear hc
                go_wp2_with fail
                go_meet
                case rel => exact HQ.out
          case rest =>
            as_aux_lemma =>
              obtain ⟨w22, hwc⟩ : ∃ w22, w22 = wc := ⟨_, rfl⟩
              subst hwc
              have O22 := Lib.hid hcut
              clear hcut
              clear cP
              have cP := K0.out w22 O22.out.kept
              go_wp2_with fail
              refine (subO O22.out 0 0 6 rfl rfl rfl NRz3.out (S22.out.le (by decide : 132 ≤ 640000)) (S2.out.le (by decide : 64 ≤ 640000))).mono ?_
              rintro en w23 ⟨rfl, hq⟩
              obtain ⟨v23, hv⟩ : ∃ v23 : Int, v23 = v22 - v2 := ⟨_, rfl⟩
              have O23 := Lib.hid (show Own R w w23 ((w18.heap.size, v23) :: (w13.heap.size, v15) :: (w12.heap.size, v18) :: (w6.heap.size, v12) :: (w4.heap.size, v11) :: (w2.heap.size, v4) :: (w.heap.size, v2) :: L) from by rw [hv]; exact hq)
              have S23 := Lib.hid (show Sz 133 v23 from by rw [hv]; exact (S22.out.le (by decide : 132 ≤ 132)).sub (S2.out.le (by decide : 64 ≤ 132)))
              have E23 := Lib.hid hv
              clear hq hv
              clear cP
              have cP := K0.out w23 O23.out.kept
              go_upto_if 141 with (go_at_call 121; refine (signO O23.out 0 rfl).mono ?_; rintro en wq ⟨rfl, rfl⟩)
              obtain ⟨v24, hv⟩ : ∃ v24 : Int, v24 = (if v23 < 0 then v23 + p else v23) := ⟨_, rfl⟩
              have E24 := Lib.hid hv
              have S24 := Lib.hid (show Sz 134 v24 from by rw [hv]; exact sz_fix (S23.out.le (by decide : 133 ≤ 133)) (SP.out.le (by decide : 64 ≤ 133)))
              clear hv
              go_cut [] from 20 (fun wx => Own R w wx ((w18.heap.size, v24) :: (w13.heap.size, v15) :: (w12.heap.size, v18) :: (w6.heap.size, v12) :: (w4.heap.size, v11) :: (w2.heap.size, v4) :: (w.heap.size, v2) :: L))
              case first =>
                as_aux_lemma =>
                  by_cases hc : v23 < 0
                  · have hs : (v23.sign == (-1 : Int)) = true := by rw [Int.sign_eq_neg_one_of_neg hc]; rfl
                    have HV := Lib.hid (show v24 = v23 + p by rw [E24.out, if_pos hc])
                    clear hc
                    go_wp2_with fail
                    refine (addO O23.out 0 0 (iP + 7) rfl rfl HP.out NRz3.out (S23.out.le (by decide : 133 ≤ 640000)) (SP.out.le (by decide : 64 ≤ 640000))).mono ?_
                    rintro en wq ⟨rfl, hq⟩
                    have HQ := Lib.hid (show Own R w wq ((w18.heap.size, v24) :: (w13.heap.size, v15) :: (w12.heap.size, v18) :: (w6.heap.size, v12) :: (w4.heap.size, v11) :: (w2.heap.size, v4) :: (w.heap.size, v2) :: L) from by rw [HV.out]; exact hq)
                    clear hq
                    go_wp2_with fail
                    go_meet
                    case rel => exact HQ.out
                  · have hs : (v23.sign == (-1 : Int)) = false := by rw [beq_eq_false_iff_ne]; exact sign_ne hc
                    have HQ := Lib.hid (show Own R w w23 ((w18.heap.size, v24) :: (w13.heap.size, v15) :: (w12.heap.size, v18) :: (w6.heap.size, v12) :: (w4.heap.size, v11) :: (w2.heap.size, v4) :: (w.heap.size, v2) :: L) from by rw [E24.out, if_neg hc]; exact O23.out)
                    clear hc
                    go_wp2_with fail
                    go_meet
                    case rel => exact HQ.out
              case rest =>
                as_aux_lemma =>
                  obtain ⟨w24, hwc⟩ : ∃ w24, w24 = wc := ⟨_, rfl⟩
                  subst hwc
                  have O24 := Lib.hid hcut
                  clear hcut
                  clear cP
                  have cP := K0.out w24 O24.out.kept
                  go_wp2_with fail
                  refine (modO O24.out 0 0 (iP + 7) rfl rfl HP.out (by omega) NRz3.out (S24.out.le (by decide : 134 ≤ 630000)) (SP.out.le (by decide : 64 ≤ 630000)) HD.out HP0.out).mono ?_
                  rintro en w25 ⟨rfl, hq⟩
                  obtain ⟨v25, hv⟩ : ∃ v25 : Int, v25 = v24 % p := ⟨_, rfl⟩
                  have O25 := Lib.hid (show Own R w w25 ((w18.heap.size, v25) :: (w13.heap.size, v15) :: (w12.heap.size, v18) :: (w6.heap.size, v12) :: (w4.heap.size, v11) :: (w2.heap.size, v4) :: (w.heap.size, v2) :: L) from by rw [hv]; exact hq)
                  have S25 := Lib.hid (show Sz 64 v25 from by rw [hv]; exact Sz.emod _ HP0.out SP.out)
                  have E25 := Lib.hid hv
                  clear hq hv
                  clear cP
                  have cP := K0.out w25 O25.out.kept
                  go_wp2_with fail
                  refine (lshO O25.out 3 3 2 rfl rfl NRalpha2.out (S12.out.le (by decide : 128 ≤ 640000)) (by decide) (by decide)).mono ?_
                  rintro en w26 ⟨rfl, hq⟩
                  obtain ⟨v26, hv⟩ : ∃ v26 : Int, v26 = v12 * 2 ^ 2 := ⟨_, rfl⟩
                  have O26 := Lib.hid (show Own R w w26 ((w18.heap.size, v25) :: (w13.heap.size, v15) :: (w12.heap.size, v18) :: (w6.heap.size, v26) :: (w4.heap.size, v11) :: (w2.heap.size, v4) :: (w.heap.size, v2) :: L) from by rw [hv]; exact hq)
                  have S26 := Lib.hid (show Sz 130 v26 from by rw [hv]; exact sz_lsh 2 S12.out)
                  have E26 := Lib.hid hv
                  clear hq hv
                  clear cP
                  have cP := K0.out w26 O26.out.kept
                  go_wp2_with fail
                  refine (subO O26.out 3 3 2 rfl rfl rfl NRalpha2.out (S26.out.le (by decide : 130 ≤ 640000)) (S18.out.le (by decide : 64 ≤ 640000))).mono ?_
                  rintro en w27 ⟨rfl, hq⟩
                  obtain ⟨v27, hv⟩ : ∃ v27 : Int, v27 = v26 - v18 := ⟨_, rfl⟩
                  have O27 := Lib.hid (show Own R w w27 ((w18.heap.size, v25) :: (w13.heap.size, v15) :: (w12.heap.size, v18) :: (w6.heap.size, v27) :: (w4.heap.size, v11) :: (w2.heap.size, v4) :: (w.heap.size, v2) :: L) from by rw [hv]; exact hq)
                  have S27 := Lib.hid (show Sz 131 v27 from by rw [hv]; exact (S26.out.le (by decide : 130 ≤ 130)).sub (S18.out.le (by decide : 64 ≤ 130)))
                  have E27 := Lib.hid hv
                  clear hq hv
                  clear cP
                  have cP := K0.out w27 O27.out.kept
                  go_upto_if 165 with (go_at_call 121; refine (signO O27.out 3 rfl).mono ?_; rintro en wq ⟨rfl, rfl⟩)
                  obtain ⟨v28, hv⟩ : ∃ v28 : Int, v28 = (if v27 < 0 then v27 + p else v27) := ⟨_, rfl⟩
                  have E28 := Lib.hid hv
                  have S28 := Lib.hid (show Sz 132 v28 from by rw [hv]; exact sz_fix (S27.out.le (by decide : 131 ≤ 131)) (SP.out.le (by decide : 64 ≤ 131)))
                  clear hv
                  go_cut [] from 20 (fun wx => Own R w wx ((w18.heap.size, v25) :: (w13.heap.size, v15) :: (w12.heap.size, v18) :: (w6.heap.size, v28) :: (w4.heap.size, v11) :: (w2.heap.size, v4) :: (w.heap.size, v2) :: L))
                  case first =>
                    as_aux_lemma =>
                      by_cases hc : v27 < 0
                      · have hs : (v27.sign == (-1 : Int)) = true := by rw [Int.sign_eq_neg_one_of_neg hc]; rfl
                        have HV := Lib.hid (show v28 = v27 + p by rw [E28.out, if_pos hc])
                        clear hc
                        go_wp2_with fail
                        refine (addO O27.out 3 3 (iP + 7) rfl rfl HP.out NRalpha2.out (S27.out.le (by decide : 131 ≤ 640000)) (SP.out.le (by decide : 64 ≤ 640000))).mono ?_
                        rintro en wq ⟨rfl, hq⟩
                        have HQ := Lib.hid (show Own R w wq ((w18.heap.size, v25) :: (w13.heap.size, v15) :: (w12.heap.size, v18) :: (w6.heap.size, v28) :: (w4.heap.size, v11) :: (w2.heap.size, v4) :: (w.heap.size, v2) :: L) from by rw [HV.out]; exact hq)
                        clear hq
                        go_wp2_with fail
                        go_meet
                        case rel => exact HQ.out
                      · have hs : (v27.sign == (-1 : Int)) = false := by rw [beq_eq_false_iff_ne]; exact sign_ne hc
                        have HQ := Lib.hid (show Own R w w27 ((w18.heap.size, v25) :: (w13.heap.size, v15) :: (w12.heap.size, v18) :: (w6.heap.size, v28) :: (w4.heap.size, v11) :: (w2.heap.size, v4) :: (w.heap.size, v2) :: L) from by rw [E28.out, if_neg hc]; exact O27.out)
                        clear hc
                        go_wp2_with fail
                        go_meet
                        case rel => exact HQ.out
                  case rest =>
                    as_aux_lemma =>
                      obtain ⟨w28, hwc⟩ : ∃ w28, w28 = wc := ⟨_, rfl⟩
                      subst hwc
                      have O28 := Lib.hid hcut
                      clear hcut
                      clear cP
                      have cP := K0.out w28 O28.out.kept
                      go_wp2_with fail
                      refine (mulO O28.out 4 4 3 rfl rfl rfl NRalpha.out (S11.out.le (by decide : 133 ≤ 704)) (S28.out.le (by decide : 132 ≤ 2496))).mono ?_
                      rintro en w29 ⟨rfl, hq⟩
                      obtain ⟨v29, hv⟩ : ∃ v29 : Int, v29 = v11 * v28 := ⟨_, rfl⟩
                      have O29 := Lib.hid (show Own R w w29 ((w18.heap.size, v25) :: (w13.heap.size, v15) :: (w12.heap.size, v18) :: (w6.heap.size, v28) :: (w4.heap.size, v29) :: (w2.heap.size, v4) :: (w.heap.size, v2) :: L) from by rw [hv]; exact hq)
                      have S29 := Lib.hid (show Sz 265 v29 from by rw [hv]; exact S11.out.mul S28.out)
                      have E29 := Lib.hid hv
                      clear hq hv
                      clear cP
                      have cP := K0.out w29 O29.out.kept
                      go_wp2_with fail
                      refine (mulO O29.out 5 5 5 rfl rfl rfl NRgamma.out (S4.out.le (by decide : 64 ≤ 704)) (S4.out.le (by decide : 64 ≤ 2496))).mono ?_
                      rintro en w30 ⟨rfl, hq⟩
                      obtain ⟨v30, hv⟩ : ∃ v30 : Int, v30 = v4 * v4 := ⟨_, rfl⟩
                      have O30 := Lib.hid (show Own R w w30 ((w18.heap.size, v25) :: (w13.heap.size, v15) :: (w12.heap.size, v18) :: (w6.heap.size, v28) :: (w4.heap.size, v29) :: (w2.heap.size, v30) :: (w.heap.size, v2) :: L) from by rw [hv]; exact hq)
                      have S30 := Lib.hid (show Sz 128 v30 from by rw [hv]; exact S4.out.mul S4.out)
                      have E30 := Lib.hid hv
                      clear hq hv
                      clear cP
                      have cP := K0.out w30 O30.out.kept
                      go_wp2_with fail
                      refine (lshO O30.out 5 5 3 rfl rfl NRgamma.out (S30.out.le (by decide : 128 ≤ 640000)) (by decide) (by decide)).mono ?_
                      rintro en w31 ⟨rfl, hq⟩
                      obtain ⟨v31, hv⟩ : ∃ v31 : Int, v31 = v30 * 2 ^ 3 := ⟨_, rfl⟩
                      have O31 := Lib.hid (show Own R w w31 ((w18.heap.size, v25) :: (w13.heap.size, v15) :: (w12.heap.size, v18) :: (w6.heap.size, v28) :: (w4.heap.size, v29) :: (w2.heap.size, v31) :: (w.heap.size, v2) :: L) from by rw [hv]; exact hq)
                      have S31 := Lib.hid (show Sz 131 v31 from by rw [hv]; exact sz_lsh 3 S30.out)
                      have E31 := Lib.hid hv
                      clear hq hv
                      clear cP
                      have cP := K0.out w31 O31.out.kept
                      go_wp2_with fail
                      refine (modO O31.out 5 5 (iP + 7) rfl rfl HP.out (by omega) NRgamma.out (S31.out.le (by decide : 131 ≤ 630000)) (SP.out.le (by decide : 64 ≤ 630000)) HD.out HP0.out).mono ?_
                      rintro en w32 ⟨rfl, hq⟩
                      obtain ⟨v32, hv⟩ : ∃ v32 : Int, v32 = v31 % p := ⟨_, rfl⟩
                      have O32 := Lib.hid (show Own R w w32 ((w18.heap.size, v25) :: (w13.heap.size, v15) :: (w12.heap.size, v18) :: (w6.heap.size, v28) :: (w4.heap.size, v29) :: (w2.heap.size, v32) :: (w.heap.size, v2) :: L) from by rw [hv]; exact hq)
                      have S32 := Lib.hid (show Sz 64 v32 from by rw [hv]; exact Sz.emod _ HP0.out SP.out)
                      have E32 := Lib.hid hv
                      clear hq hv
                      clear cP
                      have cP := K0.out w32 O32.out.kept
                      go_wp2_with fail
                      refine (subO O32.out 4 4 5 rfl rfl rfl NRalpha.out (S29.out.le (by decide : 265 ≤ 640000)) (S32.out.le (by decide : 64 ≤ 640000))).mono ?_
                      rintro en w33 ⟨rfl, hq⟩
                      obtain ⟨v33, hv⟩ : ∃ v33 : Int, v33 = v29 - v32 := ⟨_, rfl⟩
                      have O33 := Lib.hid (show Own R w w33 ((w18.heap.size, v25) :: (w13.heap.size, v15) :: (w12.heap.size, v18) :: (w6.heap.size, v28) :: (w4.heap.size, v33) :: (w2.heap.size, v32) :: (w.heap.size, v2) :: L) from by rw [hv]; exact hq)
                      have S33 := Lib.hid (show Sz 266 v33 from by rw [hv]; exact (S29.out.le (by decide : 265 ≤ 265)).sub (S32.out.le (by decide : 64 ≤ 265)))
                      have E33 := Lib.hid hv
                      clear hq hv
                      clear cP
                      have cP := K0.out w33 O33.out.kept
                      go_upto_if 197 with (go_at_call 121; refine (signO O33.out 4 rfl).mono ?_; rintro en wq ⟨rfl, rfl⟩)
                      obtain ⟨v34, hv⟩ : ∃ v34 : Int, v34 = (if v33 < 0 then v33 + p else v33) := ⟨_, rfl⟩
                      have E34 := Lib.hid hv
                      have S34 := Lib.hid (show Sz 267 v34 from by rw [hv]; exact sz_fix (S33.out.le (by decide : 266 ≤ 266)) (SP.out.le (by decide : 64 ≤ 266)))
                      clear hv
                      go_cut [] from 20 (fun wx => Own R w wx ((w18.heap.size, v25) :: (w13.heap.size, v15) :: (w12.heap.size, v18) :: (w6.heap.size, v28) :: (w4.heap.size, v34) :: (w2.heap.size, v32) :: (w.heap.size, v2) :: L))
                      case first =>
                        as_aux_lemma =>
                          by_cases hc : v33 < 0
                          · have hs : (v33.sign == (-1 : Int)) = true := by rw [Int.sign_eq_neg_one_of_neg hc]; rfl
                            have HV := Lib.hid (show v34 = v33 + p by rw [E34.out, if_pos hc])
                            clear hc
                            go_wp2_with fail
                            refine (addO O33.out 4 4 (iP + 7) rfl rfl HP.out NRalpha.out (S33.out.le (by decide : 266 ≤ 640000)) (SP.out.le (by decide : 64 ≤ 640000))).mono ?_
                            rintro en wq ⟨rfl, hq⟩
                            have HQ := Lib.hid (show Own R w wq ((w18.heap.size, v25) :: (w13.heap.size, v15) :: (w12.heap.size, v18) :: (w6.heap.size, v28) :: (w4.heap.size, v34) :: (w2.heap.size, v32) :: (w.heap.size, v2) :: L) from by rw [HV.out]; exact hq)
                            clear hq
                            go_wp2_with fail
                            go_meet
                            case rel => exact HQ.out
                          · have hs : (v33.sign == (-1 : Int)) = false := by rw [beq_eq_false_iff_ne]; exact sign_ne hc
                            have HQ := Lib.hid (show Own R w w33 ((w18.heap.size, v25) :: (w13.heap.size, v15) :: (w12.heap.size, v18) :: (w6.heap.size, v28) :: (w4.heap.size, v34) :: (w2.heap.size, v32) :: (w.heap.size, v2) :: L) from by rw [E34.out, if_neg hc]; exact O33.out)
                            clear hc
                            go_wp2_with fail
                            go_meet
                            case rel => exact HQ.out
                      case rest =>
                        as_aux_lemma =>
                          obtain ⟨w34, hwc⟩ : ∃ w34, w34 = wc := ⟨_, rfl⟩
                          subst hwc
                          have O34 := Lib.hid hcut
                          clear hcut
                          clear cP
                          have cP := K0.out w34 O34.out.kept
                          go_wp2_with fail
                          refine (modO O34.out 4 4 (iP + 7) rfl rfl HP.out (by omega) NRalpha.out (S34.out.le (by decide : 267 ≤ 630000)) (SP.out.le (by decide : 64 ≤ 630000)) HD.out HP0.out).mono ?_
                          rintro en w35 ⟨rfl, hq⟩
                          obtain ⟨v35, hv⟩ : ∃ v35 : Int, v35 = v34 % p := ⟨_, rfl⟩
                          have O35 := Lib.hid (show Own R w w35 ((w18.heap.size, v25) :: (w13.heap.size, v15) :: (w12.heap.size, v18) :: (w6.heap.size, v28) :: (w4.heap.size, v35) :: (w2.heap.size, v32) :: (w.heap.size, v2) :: L) from by rw [hv]; exact hq)
                          have S35 := Lib.hid (show Sz 64 v35 from by rw [hv]; exact Sz.emod _ HP0.out SP.out)
                          have E35 := Lib.hid hv
                          clear hq hv
                          clear cP
                          have cP := K0.out w35 O35.out.kept
                          go_wp2_with fail
                          have hO : Own R w w35 (((w18.heap.size, v25) : Nat × Int) :: (w4.heap.size, v35) :: (w12.heap.size, v18) :: L) := Own.choose (L := L) (A := [(w18.heap.size, v25), (w13.heap.size, v15), (w12.heap.size, v18), (w6.heap.size, v28), (w4.heap.size, v35), (w2.heap.size, v32), (w.heap.size, v2)]) O35.out [0, 4, 2] (by decide) (by simp)
                          have HO := Lib.hid hO
                          have HST := Lib.hid (show DblSteps X Y Z p v18 v35 v25 from ⟨v1, v2, v3, v4, v5, v6, v7, v8, v9, v10, v11, v12, v13, v14, v15, v16, v17, v19, v20, v21, v22, v23, v24, v26, v27, v28, v29, v30, v31, v32, v33, v34, E1.out, E2.out, E3.out, E4.out, E5.out, E6.out, E7.out, E8.out, E9.out, E10.out, E11.out, E12.out, E13.out, E14.out, E15.out, E16.out, E17.out, E18.out, E19.out, E20.out, E21.out, E22.out, E23.out, E24.out, E25.out, E26.out, E27.out, E28.out, E29.out, E30.out, E31.out, E32.out, E33.out, E34.out, E35.out⟩)
                          go_ret3
                          exact ⟨w12.heap.size, w4.heap.size, w18.heap.size, v18, v35, v25, rfl, HSS.out.after HO.out, NRx3.out, NRalpha.out, NRz3.out, HST.out⟩
end
end Go.Proofs.YtohhkjamddojmaaGreatDoor.Big
