/- The law of multiples on a twist's curve. -/
import Derived.Test.YtohhkjamddojmaaGreatDoorKF
import Derived.Test.YtohhkjamddojmaaGreatDoorJY
namespace Go.Proofs.YtohhkjamddojmaaGreatDoor.Big
open Go.RowKit
open EcLaw (Pt Prm On Cv)
attribute [local go_sem] ptr
attribute [local irreducible] Sz

section
variable {R : Nat → Prop} {w0 w w' : World} {L L' : List (Nat × Int)}
set_option maxHeartbeats 8000000 in
set_option maxRecDepth 100000 in
theorem lawMulO (h : Own R w0 w []) (p b z X1 Y1 n : Int) (zs : Nat) (hzs : zs < 256) :
    Calls Tryz.prog 12 #[.agg #[.int .i64 p, .int .i64 b, .int .i64 z], .int .i64 X1, .int .i64 Y1, .int .i64 n, .int .u8 zs] w (fun e w' => e = .returned (.bool true) ∧ Own R w0 w' []) := by
  have U := Lib.hid (fun (w' : World) (M : List (Nat × Int)) (hh : Own (RO R w.heap.size) (w.alloc (.cells #[.int .i64 p, .int .i64 b, .int .i64 z] 57)) w' M) =>
    Own.unguard (h.box (.cells #[.int .i64 p, .int .i64 b, .int .i64 z] 57)) (heap_alloc_new w _) (by intro _ _ _ _ e; simp at e) hh)
  have g1 := h.guard (.cells #[.int .i64 p, .int .i64 b, .int .i64 z] 57)
  have BL := Lib.hid (fun w' M (hh : Own (RO R w.heap.size) (w.alloc (.cells #[.int .i64 p, .int .i64 b, .int .i64 z] 57)) w' M) => hh.block (heap_alloc_new w _) (RO.self _ _))
  have HT := Lib.hid (isTwistO2 g1 p b z)
  have HZS := Lib.hid hzs
  clear h g1
  go_enter Tryz.func12, Tryz.ntmps12
  go_wp2_with fail
  refine HT.out.mono ?_
  rintro e w1 ⟨v, rfl, h1, hv⟩
  have H1 := Lib.hid h1
  have k0 := BL.out _ _ h1
  have q0 := block_cell (k := 0) k0 rfl
  have q1 := block_cell (k := 1) k0 rfl
  have q2 := block_cell (k := 2) k0 rfl
  have HV := Lib.hid hv
  clear h1 hv HT k0
  rcases v with _ | _
  · go_wp2_with fail
    go_ret
    exact ⟨rfl, U.out _ _ H1.out⟩
  obtain ⟨pn, bn, zn, rfl, rfl, rfl, p5, pB, z1, zp, bp, hdc, hk⟩ := HV.out rfl
  have PP := Lib.hid (And.intro p5 (And.intro pB (And.intro z1 (And.intro zp bp))))
  have HK := Lib.hid hk
  have HDC := Lib.hid hdc
  clear HV p5 pB z1 zp bp hk hdc
  by_cases c1 : (2000 : Int) ≤ pn
  · go_wp2_with fail
    go_ret
    exact ⟨rfl, U.out _ _ H1.out⟩
  by_cases c2 : n < 0
  · go_wp2_with fail
    go_ret
    exact ⟨rfl, U.out _ _ H1.out⟩
  by_cases c3 : (4000 : Int) ≤ n
  · go_wp2_with fail
    go_ret
    exact ⟨rfl, U.out _ _ H1.out⟩
  obtain ⟨nn, rfl⟩ : ∃ m : Nat, n = m := ⟨n.toNat, by omega⟩
  have HN := Lib.hid (show nn < 4000 by omega)
  have C3 := Lib.hid (straightO H1.out pn bn zn PP.out.1 PP.out.2.1 PP.out.2.2.2.1 PP.out.2.2.2.2)
  go_wp2_with fail
  refine C3.out.mono ?_
  rintro e w2 ⟨⟨i, A, B, hi, hA, hB, rfl⟩, h2⟩
  have k0 := BL.out _ _ h2
  have q0 := block_cell (k := 0) k0 rfl
  have q1 := block_cell (k := 1) k0 rfl
  have q2 := block_cell (k := 2) k0 rfl
  have lt0 : w.heap.size < w2.heap.size := (Array.getElem?_eq_some_iff.1 k0).1
  have HP := Lib.hid (isP_of PP.out.1 HK.out)
  have pz : 0 < pn := by have := PP.out.1; omega
  have HAB := Lib.hid (show A < pn ∧ B < pn from ⟨by rw [hA]; exact Nat.mod_lt _ pz, by rw [hB]; exact Nat.mod_lt _ pz⟩)
  have HC := Lib.hid (coef_of PP.out.1 HP.out PP.out.2.2.1 PP.out.2.2.2.1 hi hA hB)
  have HCV := Lib.hid (cv_of PP.out.1 HP.out HDC.out)
  have H2 := Lib.hid h2
  have GC := Lib.hid (coprime_of PP.out.1 PP.out.2.2.1 PP.out.2.2.2.1 HK.out)
  clear h2 hi hA hB C3 pz k0 c1 c2 c3
  by_cases hB0 : B = 0
  · have hb : ((B : Int) == 0) = true := by rw [hB0]; rfl
    clear hB0
    go_wp2_with fail
    go_ret
    exact ⟨rfl, U.out _ _ (H2.out.box _)⟩
  have hb : ((B : Int) == 0) = false := by rw [beq_eq_false_iff_ne]; omega
  have HB0 := Lib.hid hB0
  clear hB0
  have g3 := H2.out.guard (.cells #[.int .i64 pn, .int .i64 A, .int .i64 B] 79)
  have u3 := fun w' M (hh : Own (RO (RO R w.heap.size) w2.heap.size) (w2.alloc (.cells #[.int .i64 pn, .int .i64 A, .int .i64 B] 79)) w' M) => Own.unguard (H2.out.box (.cells #[.int .i64 pn, .int .i64 A, .int .i64 B] 79)) (heap_alloc_new w2 (.cells #[.int .i64 pn, .int .i64 A, .int .i64 B] 79)) (by intro _ _ _ _ e; simp at e) hh
  have U3 := Lib.hid (fun w' (M : List (Nat × Int)) (hh : Own (RO (RO R w.heap.size) w2.heap.size) (w2.alloc (.cells #[.int .i64 pn, .int .i64 A, .int .i64 B] 79)) w' M) => U.out _ _ (u3 w' M hh))
  have CK := Lib.hid (fun w' (hh : Own (RO (RO R w.heap.size) w2.heap.size) (w2.alloc (.cells #[.int .i64 pn, .int .i64 A, .int .i64 B] 79)) w' []) => And.intro (BL.out _ _ (u3 w' [] hh)) (hh.block (heap_alloc_new w2 (.cells #[.int .i64 pn, .int .i64 A, .int .i64 B] 79)) (RO.self _ _)))
  have G3 := Lib.hid g3
  clear g3 u3
  go_wp2_with fail
  refine (specOnAny G3.out pn A B X1 Y1 PP.out.1 PP.out.2.1 HAB.out.1 HAB.out.2).mono ?_
  rintro e w4 ⟨v1, rfl, h4, hv1⟩
  have H4 := Lib.hid h4
  obtain ⟨k0, k2⟩ := CK.out _ h4
  have q0 := block_cell (k := 0) k0 rfl
  have q1 := block_cell (k := 1) k0 rfl
  have q2 := block_cell (k := 2) k0 rfl
  have t0 := block_cell (k := 0) k2 rfl
  have t1 := block_cell (k := 1) k2 rfl
  have t2 := block_cell (k := 2) k2 rfl
  have HV1 := Lib.hid hv1
  clear h4 hv1 k0 k2 lt0
  rcases v1 with _ | _
  · go_wp2_with fail
    go_ret
    exact ⟨rfl, U3.out _ _ H4.out⟩
  obtain ⟨x1, y1, rfl, rfl, hx1, hy1, ho1⟩ := HV1.out rfl
  have P1 := Lib.hid (And.intro hx1 (And.intro hy1 ho1))
  clear hx1 hy1 ho1 HV1
  have o1 := on_of P1.out.1 P1.out.2.1 P1.out.2.2
  obtain ⟨z4, hz4⟩ : ∃ z4, z4 = zs % 4 := ⟨_, rfl⟩
  have hm4 : (zs : Int).tmod 4 = (z4 : Int) := by rw [Int.tmod_eq_emod_of_nonneg (by omega)]; omega
  have hm5 : IntKind.i64.wrap (z4 : Int) = (z4 : Int) := IntWalk.i64_in _ (by omega)
  have BY := Lib.hid (fun q => bytesO (H4.out.drew q) nn z4 (by have := HN.out; omega) (by omega))
  have TM := Lib.hid (fun (R' : Nat → Prop) w' (o : Own R' w' w' []) (kb kc : Nat) (ks : List Nat) (hRk : R' kb) (hk) (hks) (hl : ks.length < 1000000) => twistMulO o pn bn zn x1 y1 kb 0 kc ks hRk hk hks hl PP.out.2.2.1 PP.out.2.2.2.1 PP.out.2.2.2.2 (by have := PP.out.1; omega) (by have := PP.out.2.1; omega) GC.out HCV.out P1.out.1 P1.out.2.1 (phi_on HC.out o1) (phi_ne HC.out HB0.out HAB.out.2 o1))
  have ST := Lib.hid (fun (R' : Nat → Prop) w' (o : Own R' w' w' []) => specTimes o pn A B x1 y1 nn PP.out.1 PP.out.2.1 HP.out HAB.out.1 o1 (by have := HN.out; omega))
  have BK := Lib.hid (fun (X Y : Nat) hb => back_mul (X := X) (Y := Y) HC.out o1 P1.out.1 P1.out.2.1 nn hb)
  have Z4 := Lib.hid (show z4 < 4 by omega)
  clear o1 hz4 hzs
  go_upto_region 6 with fail
  go_cut [12, 13, 14] from 44 (fun s12 s13 s14 wx => ∃ X Y : Nat, s12 = .int .i64 X ∧ s13 = .int .i64 Y ∧ s14 = .bool true ∧ RowKit.Hid (Own (RO (RO R w.heap.size) w2.heap.size) (w2.alloc (.cells #[.int .i64 pn, .int .i64 A, .int .i64 B] 79)) wx [] ∧ AffIs (EcLaw.mul pn A nn (.aff x1 y1)) X Y))
  case first =>
    go_region_held3 (fun w' => w'.cell? ⟨w.heap.size, 0, .none⟩ = some (.int .i64 (pn : Nat)) ∧ w'.cell? ⟨w.heap.size, 1, .none⟩ = some (.int .i64 (bn : Nat)) ∧ w'.cell? ⟨w.heap.size, 2, .none⟩ = some (.int .i64 (zn : Nat))) (go_keep) (first | (go_at_call 50; refine (TM.out _ _ N2.out g cap ks (RO.self _ _) HKS.out.1 HKS.out.2.1 HKS.out.2.2.1).mono ?_; rintro en w7 ⟨X, Y, hx, rfl, hq⟩; have h7 := N1.out.narrow (fun k hk => .inl hk) hq; obtain ⟨k0, k2⟩ := CK.out _ h7; have q0 := block_cell (k := 0) k0 rfl; have q1 := block_cell (k := 1) k0 rfl; have q2 := block_cell (k := 2) k0 rfl; have H7 := Lib.hid h7; have HB := Lib.hid (BK.out X Y (by rw [HKS.out.2.2.2] at hx; exact hx)); clear hx hq h7 k0 k2) | (go_at_call 18; refine (BY.out _).mono ?_; rintro en w6 ⟨ks, g, cap, rfl, a1, a2, a3, a4, a5, a6, a7, a8⟩; obtain ⟨k0, k2⟩ := CK.out _ a1; have q0 := block_cell (k := 0) k0 rfl; have q1 := block_cell (k := 1) k0 rfl; have q2 := block_cell (k := 2) k0 rfl; have N1 := Lib.hid a1; have N2 := Lib.hid a2; have HKS := Lib.hid (And.intro a3 (And.intro a4 (And.intro (show ks.length < 1000000 by have := Z4.out; omega) a7))); clear a1 a2 a3 a4 a5 a6 a7 a8 k0 k2))
    all_goals
      go_wp2_with fail
      go_meet
      case rel => exact ⟨X, Y, rfl, rfl, rfl, ⟨H7.out, HB.out⟩⟩
  case rest =>
    obtain ⟨X, Y, rfl, rfl, rfl, HR⟩ := hcut
    obtain ⟨k0, k2⟩ := CK.out _ HR.out.1
    have t0 := block_cell (k := 0) k2 rfl
    have t1 := block_cell (k := 1) k2 rfl
    have t2 := block_cell (k := 2) k2 rfl
    have H5 := Lib.hid HR.out.1.since
    have HS := Lib.hid (ST.out _ _ H5.out)
    clear k0 k2
    go_wp2_with fail
    refine HS.out.mono ?_
    rintro e w8 ⟨rfl, h8⟩
    have H8 := Lib.hid (HR.out.1.after h8)
    clear h8 HS
    go_wp2_with fail
    refine (sameAny H8.out HR.out.2).mono ?_
    rintro e w9 ⟨rfl, h9⟩
    have H9 := Lib.hid h9
    clear h9
    go_wp2_with fail
    go_ret
    exact ⟨rfl, U3.out _ _ H9.out⟩
end
end Go.Proofs.YtohhkjamddojmaaGreatDoor.Big
