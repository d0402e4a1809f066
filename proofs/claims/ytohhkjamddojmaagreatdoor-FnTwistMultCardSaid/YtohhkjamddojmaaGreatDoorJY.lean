/- The law of sums on a twist's curve. -/
import Derived.Test.YtohhkjamddojmaaGreatDoorJW
import Derived.Deep.Cut
namespace Go.Proofs.YtohhkjamddojmaaGreatDoor.Big
open Go.RowKit
open EcLaw (Pt Prm On)
attribute [local go_sem] ptr
attribute [local irreducible] Sz

/-- the same point, by its coordinates: true -/
theorem sameAny {R : Nat → Prop} {w0 w : World} (h : Own R w0 w []) {A : Pt} {X Y : Nat} (hs : AffIs A X Y) :
    Calls Tryz.prog 51 #[ptV A, .int .i64 X, .int .i64 Y, .bool true] w (fun e w' => e = .returned (.bool true) ∧ Own R w0 w' []) := by
  cases A with
  | inf =>
    obtain ⟨h1, h2⟩ := hs
    obtain rfl : X = 0 := by omega
    obtain rfl : Y = 0 := by omega
    exact sameInf h
  | aff x y =>
    obtain ⟨rfl, rfl⟩ := hs
    exact sameAff h X Y
theorem back_is {p b z A B x1 y1 x2 y2 X Y : Nat} {w : Int} (h : Coef p b z A B w) (o1 : On (p : Int) A B (.aff x1 y1)) (o2 : On (p : Int) A B (.aff x2 y2)) (hb : BackZ p z (EcLaw.add p (-3) (phi p z x1 y1) (phi p z x2 y2)) X Y) :
    AffIs (EcLaw.add p A (.aff x1 y1) (.aff x2 y2)) X Y := by
  rcases phi_add h o1 o2 with ⟨e1, e2⟩ | ⟨x3, y3, e1, l1, l2, e2⟩
  · rw [e2] at hb
    rw [e1]
    obtain ⟨rfl, rfl⟩ := back_inf hb
    exact ⟨rfl, rfl⟩
  · rw [e2] at hb
    rw [e1]
    obtain ⟨rfl, rfl⟩ := back_aff l1 l2 hb
    exact ⟨rfl, rfl⟩

section
variable {R : Nat → Prop} {w0 w w' : World} {L L' : List (Nat × Int)}
/-- two points have been laid; they are kept from here on -/
def TwoPts (R : Nat → Prop) (w0 : World) (v1 v2 : Value × Value × Value) (s1 s2 : Value) (wx : World) : Prop :=
  ∃ (a c : Nat) (G : Nat → Prop), s1 = ptr a ∧ s2 = ptr c ∧ G a ∧ G c ∧ wx.heap[a]? = some (.cells #[v1.1, v1.2.1, v1.2.2] 98) ∧ wx.heap[c]? = some (.cells #[v2.1, v2.2.1, v2.2.2] 98) ∧ Own G wx wx [] ∧ (∀ w'' M, Own G wx w'' M → Own R w0 w'' M) ∧ ∀ k, R k → G k
theorem twoPts (h : Own R w0 w []) (v1 v2 : Value × Value × Value) :
    ∃ G : Nat → Prop, G w.heap.size ∧ G (w.heap.size + 1) ∧ (((w.alloc (.cells #[v1.1, v1.2.1, v1.2.2] 98)).alloc (.cells #[v2.1, v2.2.1, v2.2.2] 98)).drew).heap[w.heap.size]? = some (.cells #[v1.1, v1.2.1, v1.2.2] 98) ∧
      (((w.alloc (.cells #[v1.1, v1.2.1, v1.2.2] 98)).alloc (.cells #[v2.1, v2.2.1, v2.2.2] 98)).drew).heap[w.heap.size + 1]? = some (.cells #[v2.1, v2.2.1, v2.2.2] 98) ∧
      Own G (((w.alloc (.cells #[v1.1, v1.2.1, v1.2.2] 98)).alloc (.cells #[v2.1, v2.2.1, v2.2.2] 98)).drew) (((w.alloc (.cells #[v1.1, v1.2.1, v1.2.2] 98)).alloc (.cells #[v2.1, v2.2.1, v2.2.2] 98)).drew) [] ∧
      (∀ w'' M, Own G (((w.alloc (.cells #[v1.1, v1.2.1, v1.2.2] 98)).alloc (.cells #[v2.1, v2.2.1, v2.2.2] 98)).drew) w'' M → Own R w0 w'' M) ∧ ∀ k, R k → G k := by
  have g1 := h.guard (.cells #[v1.1, v1.2.1, v1.2.2] 98)
  have g2 := g1.guard (.cells #[v2.1, v2.2.1, v2.2.2] 98)
  have n0 := heap_alloc_new w (.cells #[v1.1, v1.2.1, v1.2.2] 98)
  have n1 := heap_alloc_new (w.alloc (.cells #[v1.1, v1.2.1, v1.2.2] 98)) (.cells #[v2.1, v2.2.1, v2.2.2] 98)
  have e0 := h.box (.cells #[v1.1, v1.2.1, v1.2.2] 98)
  have e1 := g1.box (.cells #[v2.1, v2.2.1, v2.2.2] 98)
  have s1 : (w.alloc (.cells #[v1.1, v1.2.1, v1.2.2] 98)).heap.size = w.heap.size + 1 := Array.size_push _
  rw [s1] at g2 n1
  have m0 := e1.block n0 (RO.self _ _)
  refine ⟨_, .inl (RO.self _ _), RO.self _ _, m0, n1, g2.drew1.since, fun w'' M hh => ?_, fun k hk => .inl (.inl hk)⟩
  exact Own.unguard e0 n0 (by intro _ _ _ _ e; simp at e) (Own.unguard e1 n1 (by intro _ _ _ _ e; simp at e) (g2.drew1.after hh))
set_option maxHeartbeats 8000000 in
set_option maxRecDepth 100000 in
theorem lawAddO (h : Own R w0 w []) (p b z X1 Y1 X2 Y2 : Int) :
    Calls Tryz.prog 13 #[.agg #[.int .i64 p, .int .i64 b, .int .i64 z], .agg #[.int .i64 X1, .int .i64 Y1, .int .i64 X2, .int .i64 Y2]] w (fun e w' => e = .returned (.bool true) ∧ Own R w0 w' []) := by
  have g1 := h.guard (.cells #[.int .i64 p, .int .i64 b, .int .i64 z] 57)
  have g2 := g1.guard (.cells #[.int .i64 X1, .int .i64 Y1, .int .i64 X2, .int .i64 Y2] 102)
  have e0 := h.box (.cells #[.int .i64 p, .int .i64 b, .int .i64 z] 57)
  have e1 := g1.box (.cells #[.int .i64 X1, .int .i64 Y1, .int .i64 X2, .int .i64 Y2] 102)
  have n0 := heap_alloc_new w (.cells #[.int .i64 p, .int .i64 b, .int .i64 z] 57)
  have n1 := heap_alloc_new (w.alloc (.cells #[.int .i64 p, .int .i64 b, .int .i64 z] 57)) (.cells #[.int .i64 X1, .int .i64 Y1, .int .i64 X2, .int .i64 Y2] 102)
  have s1 : (w.alloc (.cells #[.int .i64 p, .int .i64 b, .int .i64 z] 57)).heap.size = w.heap.size + 1 := Array.size_push _
  rw [s1] at g2 n1
  have m0 := e1.block n0 (RO.self _ _)
  have UU : ∀ w' M, Own (RO (RO R w.heap.size) (w.heap.size + 1)) ((w.alloc (.cells #[.int .i64 p, .int .i64 b, .int .i64 z] 57)).alloc (.cells #[.int .i64 X1, .int .i64 Y1, .int .i64 X2, .int .i64 Y2] 102)) w' M → Own R w0 w' M := fun w' M hh =>
    Own.unguard e0 n0 (by intro _ _ _ _ e; simp at e) (Own.unguard e1 n1 (by intro _ _ _ _ e; simp at e) hh)
  have U := Lib.hid UU
  have BL := Lib.hid (fun w' M (hh : Own (RO (RO R w.heap.size) (w.heap.size + 1)) ((w.alloc (.cells #[.int .i64 p, .int .i64 b, .int .i64 z] 57)).alloc (.cells #[.int .i64 X1, .int .i64 Y1, .int .i64 X2, .int .i64 Y2] 102)) w' M) => And.intro (hh.block m0 (.inl (RO.self _ _))) (hh.block n1 (RO.self _ _)))
  have HT := Lib.hid (isTwistO g2 p b z)
  clear h g1 g2 e0 e1 n0 n1 s1 m0 UU
  go_enter Tryz.func13, Tryz.ntmps13
  go_wp2_with fail
  refine HT.out.mono ?_
  rintro e w1 ⟨v, rfl, h1, hv⟩
  have H1 := Lib.hid h1
  obtain ⟨k0, k1⟩ := BL.out _ _ h1
  have q0 := block_cell (k := 0) k0 rfl
  have q1 := block_cell (k := 1) k0 rfl
  have q2 := block_cell (k := 2) k0 rfl
  have HV := Lib.hid hv
  clear h1 hv HT k0 k1
  rcases v with _ | _
  · go_wp2_with fail
    go_ret
    exact ⟨rfl, U.out _ _ H1.out⟩
  obtain ⟨pn, bn, zn, rfl, rfl, rfl, p5, pB, z1, zp, bp, hk⟩ := HV.out rfl
  have PP := Lib.hid (And.intro p5 (And.intro pB (And.intro z1 (And.intro zp bp))))
  have HK := Lib.hid hk
  clear HV p5 pB z1 zp bp hk
  have C3 := Lib.hid (straightO H1.out pn bn zn PP.out.1 PP.out.2.1 PP.out.2.2.2.1 PP.out.2.2.2.2)
  go_wp2_with fail
  refine C3.out.mono ?_
  rintro e w2 ⟨⟨i, A, B, hi, hA, hB, rfl⟩, h2⟩
  obtain ⟨k0, k1⟩ := BL.out _ _ h2
  have q0 := block_cell (k := 0) k0 rfl
  have q1 := block_cell (k := 1) k0 rfl
  have q2 := block_cell (k := 2) k0 rfl
  have r0 := block_cell (k := 0) k1 rfl
  have r1 := block_cell (k := 1) k1 rfl
  have r2 := block_cell (k := 2) k1 rfl
  have r3 := block_cell (k := 3) k1 rfl
  have lt0 : w.heap.size < w2.heap.size := (Array.getElem?_eq_some_iff.1 k0).1
  have lt1 : w.heap.size + 1 < w2.heap.size := (Array.getElem?_eq_some_iff.1 k1).1
  have HP := Lib.hid (isP_of PP.out.1 HK.out)
  have pz : 0 < pn := by have := PP.out.1; omega
  have HAB := Lib.hid (show A < pn ∧ B < pn from ⟨by rw [hA]; exact Nat.mod_lt _ pz, by rw [hB]; exact Nat.mod_lt _ pz⟩)
  have HC := Lib.hid (coef_of PP.out.1 HP.out PP.out.2.2.1 PP.out.2.2.2.1 hi hA hB)
  have H2 := Lib.hid h2
  have GC := Lib.hid (coprime_of PP.out.1 PP.out.2.2.1 PP.out.2.2.2.1 HK.out)
  clear h2 hi hA hB C3 pz k0 k1
  by_cases hB0 : B = 0
  · have hb : ((B : Int) == 0) = true := by rw [hB0]; rfl
    clear hB0
    go_wp2_with fail
    go_ret
    exact ⟨rfl, U.out _ _ (H2.out.box _)⟩
  have hb : ((B : Int) == 0) = false := by rw [beq_eq_false_iff_ne]; omega
  have HB0 := Lib.hid hB0
  clear hB0
  have g3 := H2.out.guard (.cells #[.int .i64 pn, .int .i64 A, .int .i64 B] 79)
  have u3 := fun w' M (hh : Own (RO (RO (RO R w.heap.size) (w.heap.size + 1)) w2.heap.size) (w2.alloc (.cells #[.int .i64 pn, .int .i64 A, .int .i64 B] 79)) w' M) => Own.unguard (H2.out.box (.cells #[.int .i64 pn, .int .i64 A, .int .i64 B] 79)) (heap_alloc_new w2 (.cells #[.int .i64 pn, .int .i64 A, .int .i64 B] 79)) (by intro _ _ _ _ e; simp at e) hh
  have U3 := Lib.hid (fun w' (M : List (Nat × Int)) (hh : Own (RO (RO (RO R w.heap.size) (w.heap.size + 1)) w2.heap.size) (w2.alloc (.cells #[.int .i64 pn, .int .i64 A, .int .i64 B] 79)) w' M) => U.out _ _ (u3 w' M hh))
  have CK := Lib.hid (fun w' (hh : Own (RO (RO (RO R w.heap.size) (w.heap.size + 1)) w2.heap.size) (w2.alloc (.cells #[.int .i64 pn, .int .i64 A, .int .i64 B] 79)) w' []) => And.intro (BL.out _ _ (u3 w' [] hh)) (hh.block (heap_alloc_new w2 (.cells #[.int .i64 pn, .int .i64 A, .int .i64 B] 79)) (RO.self _ _)))
  have G3 := Lib.hid g3
  clear g3 u3
  go_wp2_with fail
  refine (specOnAny G3.out pn A B X1 Y1 PP.out.1 PP.out.2.1 HAB.out.1 HAB.out.2).mono ?_
  rintro e w4 ⟨v1, rfl, h4, hv1⟩
  have H4 := Lib.hid h4
  obtain ⟨⟨k0, k1⟩, k2⟩ := CK.out _ h4
  have q0 := block_cell (k := 0) k0 rfl
  have q1 := block_cell (k := 1) k0 rfl
  have q2 := block_cell (k := 2) k0 rfl
  have r0 := block_cell (k := 0) k1 rfl
  have r1 := block_cell (k := 1) k1 rfl
  have r2 := block_cell (k := 2) k1 rfl
  have r3 := block_cell (k := 3) k1 rfl
  have t0 := block_cell (k := 0) k2 rfl
  have t1 := block_cell (k := 1) k2 rfl
  have t2 := block_cell (k := 2) k2 rfl
  have HV1 := Lib.hid hv1
  clear h4 hv1 k0 k1 k2 lt0 lt1
  rcases v1 with _ | _
  · go_wp2_with fail
    go_ret
    exact ⟨rfl, U3.out _ _ H4.out⟩
  obtain ⟨x1, y1, rfl, rfl, hx1, hy1, ho1⟩ := HV1.out rfl
  have P1 := Lib.hid (And.intro hx1 (And.intro hy1 ho1))
  clear hx1 hy1 ho1 HV1
  go_wp2_with fail
  refine (specOnAny H4.out pn A B X2 Y2 PP.out.1 PP.out.2.1 HAB.out.1 HAB.out.2).mono ?_
  rintro e w5 ⟨v2, rfl, h5, hv2⟩
  have H5 := Lib.hid h5
  obtain ⟨⟨k0, k1⟩, k2⟩ := CK.out _ h5
  have q0 := block_cell (k := 0) k0 rfl
  have q1 := block_cell (k := 1) k0 rfl
  have q2 := block_cell (k := 2) k0 rfl
  have r0 := block_cell (k := 0) k1 rfl
  have r1 := block_cell (k := 1) k1 rfl
  have r2 := block_cell (k := 2) k1 rfl
  have r3 := block_cell (k := 3) k1 rfl
  have t0 := block_cell (k := 0) k2 rfl
  have t1 := block_cell (k := 1) k2 rfl
  have t2 := block_cell (k := 2) k2 rfl
  have lt0 : w.heap.size < w5.heap.size := (Array.getElem?_eq_some_iff.1 k0).1
  have lt1 : w.heap.size + 1 < w5.heap.size := (Array.getElem?_eq_some_iff.1 k1).1
  have lt2 : w2.heap.size < w5.heap.size := (Array.getElem?_eq_some_iff.1 k2).1
  have HV2 := Lib.hid hv2
  clear h5 hv2 k0 k1 k2
  rcases v2 with _ | _
  · go_wp2_with fail
    go_ret
    exact ⟨rfl, U3.out _ _ H5.out⟩
  obtain ⟨x2, y2, rfl, rfl, hx2, hy2, ho2⟩ := HV2.out rfl
  have P2 := Lib.hid (And.intro hx2 (And.intro hy2 ho2))
  clear hx2 hy2 ho2 HV2
  go_upto_region 6 with fail
  go_cut [6, 7] from 14 (fun s6 s7 wx => TwoPts (RO (RO (RO R w.heap.size) (w.heap.size + 1)) w2.heap.size) (w2.alloc (.cells #[.int .i64 pn, .int .i64 A, .int .i64 B] 79)) (.int .i64 x1, .int .i64 y1, .bool false) (.int .i64 x2, .int .i64 y2, .bool false) s6 s7 wx)
  case first =>
    have HW1 := Lib.hid (twoPts H5.out (.int .i64 x1, .int .i64 y1, .bool false) (.int .i64 x2, .int .i64 y2, .bool false))
    have HW2 := Lib.hid (twoPts H5.out (.int .i64 x2, .int .i64 y2, .bool false) (.int .i64 x1, .int .i64 y1, .bool false))
    go_region
    · go_wp2_with fail
      go_meet
      case rel =>
        obtain ⟨G, a1, a2, a3, a4, a5, a6, a7⟩ := HW1.out
        exact ⟨_, _, G, rfl, rfl, a1, a2, a3, a4, a5, a6, a7⟩
    · go_wp2_with fail
      go_meet
      case rel =>
        obtain ⟨G, a1, a2, a3, a4, a5, a6, a7⟩ := HW2.out
        exact ⟨_, _, G, rfl, rfl, a2, a1, a4, a3, a5, a6, a7⟩
  case rest =>
    obtain ⟨pa, pc, G, rfl, rfl, Ga, Gc, ha, hc, hO, hU, hG⟩ := hcut
    have HO := Lib.hid hO
    have HU := Lib.hid hU
    have CK6 := Lib.hid (fun w' (o : Own G wc w' []) => And.intro (CK.out _ (hU _ _ o)) (And.intro (o.block ha Ga) (o.block hc Gc)))
    have o1 := on_of P1.out.1 P1.out.2.1 P1.out.2.2
    have o2 := on_of P2.out.1 P2.out.2.1 P2.out.2.2
    have TA := Lib.hid (twistAddO hO pn bn zn x1 y1 x2 y2 PP.out.2.2.1 PP.out.2.2.2.1 PP.out.2.2.2.2 (by have := PP.out.1; omega) (by have := PP.out.2.1; omega) GC.out HC.out.prm P1.out.1 P1.out.2.1 P2.out.1 P2.out.2.1 (phi_on HC.out o1) (phi_ne HC.out HB0.out HAB.out.2 o1) (phi_on HC.out o2) (phi_ne HC.out HB0.out HAB.out.2 o2))
    have TD := Lib.hid (fun w' (o : Own G wc w' []) => twistDblO o pn bn zn x1 y1 PP.out.2.2.1 PP.out.2.2.2.1 PP.out.2.2.2.2 (by have := PP.out.1; omega) (by have := PP.out.2.1; omega) GC.out HC.out.prm P1.out.1 P1.out.2.1 (phi_on HC.out o1) (phi_ne HC.out HB0.out HAB.out.2 o1))
    have SA := Lib.hid (fun w' (o : Own G wc w' []) => specAddO o pn A B x1 y1 x2 y2 PP.out.1 PP.out.2.1 HP.out HAB.out.1 o1 o2)
    have SD := Lib.hid (fun w' (o : Own G wc w' []) => specAddO o pn A B x1 y1 x1 y1 PP.out.1 PP.out.2.1 HP.out HAB.out.1 o1 o1)
    have BA := Lib.hid (fun (X Y : Nat) hb => back_is (X := X) (Y := Y) HC.out o1 o2 hb)
    have BD := Lib.hid (fun (X Y : Nat) hb => back_is (X := X) (Y := Y) HC.out o1 o1 hb)
    obtain ⟨⟨⟨k0, k1⟩, k2⟩, k3, k4⟩ := CK6.out _ hO
    have q0 := block_cell (k := 0) k0 rfl
    have q1 := block_cell (k := 1) k0 rfl
    have q2 := block_cell (k := 2) k0 rfl
    have r0 := block_cell (k := 0) k1 rfl
    have r1 := block_cell (k := 1) k1 rfl
    have r2 := block_cell (k := 2) k1 rfl
    have r3 := block_cell (k := 3) k1 rfl
    clear hO hU hG ha hc Ga Gc k0 k1 k2 k3 k4 o1 o2
    unfold ptr at *
    go_wp2_with fail
    refine TA.out.mono ?_
    rintro e w7 ⟨X, Y, hx, rfl, h7⟩
    have H7 := Lib.hid h7
    have B1 := Lib.hid (BA.out X Y hx)
    obtain ⟨⟨⟨k0, k1⟩, k2⟩, k3, k4⟩ := CK6.out _ h7
    have q0 := block_cell (k := 0) k0 rfl
    have q1 := block_cell (k := 1) k0 rfl
    have q2 := block_cell (k := 2) k0 rfl
    have r0 := block_cell (k := 0) k1 rfl
    have r1 := block_cell (k := 1) k1 rfl
    have r2 := block_cell (k := 2) k1 rfl
    have r3 := block_cell (k := 3) k1 rfl
    have t0 := block_cell (k := 0) k2 rfl
    have t1 := block_cell (k := 1) k2 rfl
    have t2 := block_cell (k := 2) k2 rfl
    have s0 := block_cell (k := 0) k3 rfl
    have s1 := block_cell (k := 1) k3 rfl
    have s2 := block_cell (k := 2) k3 rfl
    have u0 := block_cell (k := 0) k4 rfl
    have u1 := block_cell (k := 1) k4 rfl
    have u2 := block_cell (k := 2) k4 rfl
    clear k0 k1 k2 k3 k4
    clear h7 hx TA BA
    go_wp2_with fail
    refine (TD.out _ H7.out).mono ?_
    rintro e w8 ⟨U, V, hu, rfl, h8⟩
    have H8 := Lib.hid h8
    have B2 := Lib.hid (BD.out U V hu)
    obtain ⟨⟨⟨k0, k1⟩, k2⟩, k3, k4⟩ := CK6.out _ h8
    have q0 := block_cell (k := 0) k0 rfl
    have q1 := block_cell (k := 1) k0 rfl
    have q2 := block_cell (k := 2) k0 rfl
    have r0 := block_cell (k := 0) k1 rfl
    have r1 := block_cell (k := 1) k1 rfl
    have r2 := block_cell (k := 2) k1 rfl
    have r3 := block_cell (k := 3) k1 rfl
    have t0 := block_cell (k := 0) k2 rfl
    have t1 := block_cell (k := 1) k2 rfl
    have t2 := block_cell (k := 2) k2 rfl
    have s0 := block_cell (k := 0) k3 rfl
    have s1 := block_cell (k := 1) k3 rfl
    have s2 := block_cell (k := 2) k3 rfl
    have u0 := block_cell (k := 0) k4 rfl
    have u1 := block_cell (k := 1) k4 rfl
    have u2 := block_cell (k := 2) k4 rfl
    clear k0 k1 k2 k3 k4
    clear h8 hu TD BD
    go_wp2_with fail
    refine (SA.out _ H8.out).mono ?_
    rintro e w9 ⟨rfl, h9⟩
    have H9 := Lib.hid h9
    obtain ⟨⟨⟨k0, k1⟩, k2⟩, k3, k4⟩ := CK6.out _ h9
    have q0 := block_cell (k := 0) k0 rfl
    have q1 := block_cell (k := 1) k0 rfl
    have q2 := block_cell (k := 2) k0 rfl
    have t0 := block_cell (k := 0) k2 rfl
    have t1 := block_cell (k := 1) k2 rfl
    have t2 := block_cell (k := 2) k2 rfl
    have s0 := block_cell (k := 0) k3 rfl
    have s1 := block_cell (k := 1) k3 rfl
    have s2 := block_cell (k := 2) k3 rfl
    have u0 := block_cell (k := 0) k4 rfl
    have u1 := block_cell (k := 1) k4 rfl
    have u2 := block_cell (k := 2) k4 rfl
    clear k0 k1 k2 k3 k4
    clear h9 SA
    go_wp2_with fail
    refine (sameAny H9.out B1.out).mono ?_
    rintro e w10 ⟨rfl, h10⟩
    have H10 := Lib.hid h10
    obtain ⟨⟨⟨k0, k1⟩, k2⟩, k3, k4⟩ := CK6.out _ h10
    have q0 := block_cell (k := 0) k0 rfl
    have q1 := block_cell (k := 1) k0 rfl
    have q2 := block_cell (k := 2) k0 rfl
    have t0 := block_cell (k := 0) k2 rfl
    have t1 := block_cell (k := 1) k2 rfl
    have t2 := block_cell (k := 2) k2 rfl
    have s0 := block_cell (k := 0) k3 rfl
    have s1 := block_cell (k := 1) k3 rfl
    have s2 := block_cell (k := 2) k3 rfl
    have u0 := block_cell (k := 0) k4 rfl
    have u1 := block_cell (k := 1) k4 rfl
    have u2 := block_cell (k := 2) k4 rfl
    clear k0 k1 k2 k3 k4
    clear h10
    go_wp2_with fail
    refine (SD.out _ H10.out).mono ?_
    rintro e w11 ⟨rfl, h11⟩
    have H11 := Lib.hid h11
    obtain ⟨⟨⟨k0, k1⟩, k2⟩, k3, k4⟩ := CK6.out _ h11
    have q0 := block_cell (k := 0) k0 rfl
    have q1 := block_cell (k := 1) k0 rfl
    have q2 := block_cell (k := 2) k0 rfl
    have t0 := block_cell (k := 0) k2 rfl
    have t1 := block_cell (k := 1) k2 rfl
    have t2 := block_cell (k := 2) k2 rfl
    have s0 := block_cell (k := 0) k3 rfl
    have s1 := block_cell (k := 1) k3 rfl
    have s2 := block_cell (k := 2) k3 rfl
    have u0 := block_cell (k := 0) k4 rfl
    have u1 := block_cell (k := 1) k4 rfl
    have u2 := block_cell (k := 2) k4 rfl
    clear k0 k1 k2 k3 k4
    clear h11 SD
    go_wp2_with fail
    refine (sameAny H11.out B2.out).mono ?_
    rintro e w12 ⟨rfl, h12⟩
    have H12 := Lib.hid h12
    clear h12
    go_wp2_with fail
    go_ret
    exact ⟨rfl, U3.out _ _ (HU.out _ _ H12.out)⟩
end
end Go.Proofs.YtohhkjamddojmaaGreatDoor.Big
