/- A twist's curve by its definition; the law of IsOnCurve. Is a point on a curve, by its definition? The law of twists: on the curve. -/
import Derived.Test.YtohhkjamddojmaaGreatDoorSA
import Derived.Test.YtohhkjamddojmaaGreatDoorJE
import Derived.Test.YtohhkjamddojmaaGreatDoorTJ
import Derived.StillTailTactics
import Derived.Deep.Cut
import Derived.Test.YtohhkjamddojmaaGreatDoorEcLaw
namespace Go.Proofs.YtohhkjamddojmaaGreatDoor.Big
open Go.RowKit
attribute [local go_sem] ptr
attribute [local irreducible] Sz

section
variable {R : Nat → Prop} {w0 w w' : World} {L L' : List (Nat × Int)}
theorem Own.three' {v0 v1 v2 : Value} {T : TypeId} : (w.alloc (.cells #[v0, v1, v2] T)).cell? ⟨w.heap.size, 0, .none⟩ = some v0 ∧ (w.alloc (.cells #[v0, v1, v2] T)).cell? ⟨w.heap.size, 1, .none⟩ = some v1 ∧ (w.alloc (.cells #[v0, v1, v2] T)).cell? ⟨w.heap.size, 2, .none⟩ = some v2 := by
  have hb := heap_alloc_new w (.cells #[v0, v1, v2] T)
  exact ⟨block_cell hb rfl, block_cell hb rfl, block_cell hb rfl⟩

theorem set3 {w : World} {b : Nat} {x0 x1 x2 : Value} {T : TypeId} (y0 y1 y2 : Value) (h : w.heap[b]? = some (.cells #[x0, x1, x2] T)) :
    (w.setCell ⟨b, 0, .none⟩ y0).heap[b]? = some (.cells #[y0, x1, x2] T) ∧ ((w.setCell ⟨b, 0, .none⟩ y0).setCell ⟨b, 1, .none⟩ y1).heap[b]? = some (.cells #[y0, y1, x2] T) ∧ (((w.setCell ⟨b, 0, .none⟩ y0).setCell ⟨b, 1, .none⟩ y1).setCell ⟨b, 2, .none⟩ y2).heap[b]? = some (.cells #[y0, y1, y2] T) := by
  have h0 : (w.setCell ⟨b, 0, .none⟩ y0).heap[b]? = some (.cells #[y0, x1, x2] T) := by simp only [World.setCell, Array.getElem?_modify, if_true]; rw [h]; simp
  have h1 : ((w.setCell ⟨b, 0, .none⟩ y0).setCell ⟨b, 1, .none⟩ y1).heap[b]? = some (.cells #[y0, y1, x2] T) := by
    generalize w.setCell ⟨b, 0, .none⟩ y0 = w1 at *
    simp only [World.setCell, Array.getElem?_modify, if_true]; rw [h0]; simp
  refine ⟨h0, h1, ?_⟩
  generalize (w.setCell ⟨b, 0, .none⟩ y0).setCell ⟨b, 1, .none⟩ y1 = w2 at *
  simp only [World.setCell, Array.getElem?_modify, if_true]; rw [h1]; simp
theorem kept_at {R : Nat → Prop} {w : World} {b o : Nat} {v : Value} (hb : ¬ R b) : Kept R w (w.setCell ⟨b, o, .none⟩ v) := (Grow.of (grown_set w b o v)).weaken (fun k _ e => by cases e; exact hb)
/-- the curve by its definition -/
def StraightP (R : Nat → Prop) (w0 : World) (p b z : Nat) (e : Ending) (w' : World) : Prop :=
  (∃ i A B : Nat, i = z ^ (p - 2) % p ∧ A = (p - 3) * (i ^ 4 % p) % p ∧ B = b * (i ^ 6 % p) % p ∧ e = .returned (.agg #[.int .i64 p, .int .i64 A, .int .i64 B])) ∧ Own R w0 w' []
set_option maxHeartbeats 4000000 in
set_option maxRecDepth 100000 in
theorem straightO (h : Own R w0 w []) (p b z : Nat) (h5 : 5 ≤ p) (hp : p < 65536) (zp : z < p) (bp : b < p) :
    Calls Tryz.prog 39 #[.agg #[.int .i64 p, .int .i64 b, .int .i64 z]] w (StraightP R w0 p b z) := by
  obtain ⟨i, hi⟩ : ∃ i, i = z ^ (p - 2) % p := ⟨_, rfl⟩
  have ip : i < p := by rw [hi]; exact Nat.mod_lt _ (by omega)
  obtain ⟨i4, hi4⟩ : ∃ i4, i4 = i ^ 4 % p := ⟨_, rfl⟩
  obtain ⟨i6, hi6⟩ : ∃ i6, i6 = i ^ 6 % p := ⟨_, rfl⟩
  have i4p : i4 < p := by rw [hi4]; exact Nat.mod_lt _ (by omega)
  have i6p : i6 < p := by rw [hi6]; exact Nat.mod_lt _ (by omega)
  obtain ⟨A, hA⟩ : ∃ A, A = (p - 3) * i4 % p := ⟨_, rfl⟩
  obtain ⟨B, hB⟩ : ∃ B, B = b * i6 % p := ⟨_, rfl⟩
  have emod : ∀ n : Nat, n < p → ((n : Int) % (p : Int)).toNat = n := fun n hn => by rw [Int.emod_eq_of_lt (by omega) (by omega), Int.toNat_natCast]
  have HI : RowKit.Hid (∀ w, Calls Tryz.prog 85 #[.int .i64 z, .int .i64 p] w (fun e w' => e = .returned (.int .i64 i) ∧ w' = w)) := Lib.hid (fun w => by
    have := invI z p w (by omega) (by omega)
    rw [emod z zp, ← hi] at this; exact this)
  have HP4 : RowKit.Hid (∀ w, Calls Tryz.prog 32 #[.int .i64 i, .int .i64 4, .int .i64 p] w (fun e w' => e = .returned (.int .i64 i4) ∧ w' = w)) := Lib.hid (fun w => by
    have := powI i 4 p w (by omega) (by omega) (by omega)
    rw [emod i ip, ← hi4] at this; exact this)
  have HP6 : RowKit.Hid (∀ w, Calls Tryz.prog 32 #[.int .i64 i, .int .i64 6, .int .i64 p] w (fun e w' => e = .returned (.int .i64 i6) ∧ w' = w)) := Lib.hid (fun w => by
    have := powI i 6 p w (by omega) (by omega) (by omega)
    rw [emod i ip, ← hi6] at this; exact this)
  have hs : wrap64 ((p : Int) - 3) = ((p - 3 : Nat) : Int) := by rw [w64_in (by omega)]; omega
  have hs2 : (p : Int) - 3 = ((p - 3 : Nat) : Int) := by omega
  have hsI : IntKind.i64.wrap ((p : Int) - 3) = ((p - 3 : Nat) : Int) := by rw [wrapI]; exact hs
  have m4 : (wrap64 (((p - 3 : Nat) : Int) * i4)).tmod p = A := by rw [hA]; exact mul64 _ _ _ (by omega) (by omega)
  have m6 : (wrap64 ((b : Int) * i6)).tmod p = B := by rw [hB]; exact mul64 _ _ _ (by omega) (by omega)
  have m4I : (IntKind.i64.wrap (((p - 3 : Nat) : Int) * i4)).tmod p = A := by rw [wrapI]; exact m4
  have m6I : (IntKind.i64.wrap ((b : Int) * i6)).tmod p = B := by rw [wrapI]; exact m6
  have HFA := Lib.hid (show ∀ w', Own R w0 w' [] → StraightP R w0 p b z (.returned (.agg #[.int .i64 p, .int .i64 A, .int .i64 B])) w' from fun w' o => ⟨⟨i, A, B, hi, by rw [hA, hi4], by rw [hB, hi6], rfl⟩, o⟩)
  have H := Lib.hid h
  have hpz : ¬ p = 0 := by omega
  obtain ⟨q0, q1, q2⟩ := Own.three' (w := w) (v0 := .int .i64 p) (v1 := .int .i64 b) (v2 := .int .i64 z) (T := 57)
  clear h hi hi4 hi6 hA hB emod ip i4p i6p zp bp
  have w3 : IntKind.i64.wrap ((p - 3 : Nat) : Int) = ((p - 3 : Nat) : Int) := by rw [wrapI]; exact w64_in (by omega)
  have HP3 := Lib.hid (show ¬ R (w.heap.size + 1) by have := (H.out.box (.cells #[.int .i64 p, .int .i64 b, .int .i64 z] 57)).fresh; rwa [show (w.alloc (.cells #[.int .i64 p, .int .i64 b, .int .i64 z] 57)).heap.size = w.heap.size + 1 from Array.size_push _] at this)
  generalize hp3 : p - 3 = p3 at *
  clear hp3
  go_enter Tryz.func39, Tryz.ntmps39
  go_wp2_with fail
  refine (HI.out _).mono ?_
  rintro en w1 ⟨rfl, rfl⟩
  go_wp2_with fail
  obtain ⟨W, hW⟩ : ∃ W : World, W = ((w.alloc (.cells #[.int .i64 p, .int .i64 b, .int .i64 z] 57)).alloc (.cells #[.int .i64 0, .int .i64 0, .int .i64 0] 79)) := ⟨_, rfl⟩
  have HB0 : W.heap[w.heap.size]? = some (.cells #[.int .i64 p, .int .i64 b, .int .i64 z] 57) := by rw [hW]; exact (heap_alloc_old _ _ (by simp)).trans (heap_alloc_new _ _)
  have HB1 : W.heap[w.heap.size + 1]? = some (.cells #[.int .i64 0, .int .i64 0, .int .i64 0] 79) := by
    rw [hW]
    have := heap_alloc_new (w.alloc (.cells #[.int .i64 p, .int .i64 b, .int .i64 z] 57)) (.cells #[.int .i64 0, .int .i64 0, .int .i64 0] 79)
    rwa [show (w.alloc (.cells #[.int .i64 p, .int .i64 b, .int .i64 z] 57)).heap.size = w.heap.size + 1 from Array.size_push _] at this
  rw [← hW]
  refine wp_region_still_tail 24 (by kernel_rfl) (by kernel_rfl) ?_
  simp only [List.take_succ_cons, List.take_zero, List.drop_succ_cons, List.drop_zero]
  obtain ⟨V, hV⟩ : ∃ V : World, V = W.drew := ⟨_, rfl⟩
  change wpStill _ _ W.drew _ _ _
  rw [← hV]
  have HV0 : V.heap[w.heap.size]? = some (.cells #[.int .i64 p, .int .i64 b, .int .i64 z] 57) := by rw [hV]; exact HB0
  have HV1 : V.heap[w.heap.size + 1]? = some (.cells #[.int .i64 0, .int .i64 0, .int .i64 0] 79) := by rw [hV]; exact HB1
  have q0 := block_cell (k := 0) HV0 rfl
  have q1 := block_cell (k := 1) HV0 rfl
  have q2 := block_cell (k := 2) HV0 rfl
  have r0 := block_cell (k := 0) HV1 rfl
  have r1 := block_cell (k := 1) HV1 rfl
  have r2 := block_cell (k := 2) HV1 rfl
  have s0 := block_free (o := 0) HV1
  have s1 := block_free (o := 1) HV1
  have s2 := block_free (o := 2) HV1
  obtain ⟨g0, g1, g2⟩ := set3 (.int .i64 p) (.int .i64 A) (.int .i64 B) HV1
  have t1 := block_cell (k := 1) g0 rfl
  have t1f := block_free (o := 1) g0
  have t2 := block_cell (k := 2) g1 rfl
  have t2f := block_free (o := 2) g1
  have u0 := block_cell (k := 0) g2 rfl
  have u1 := block_cell (k := 1) g2 rfl
  have u2 := block_cell (k := 2) g2 rfl
  have HVO := Lib.hid (show Own R w0 V [] by rw [hV, hW]; exact (((H.out.box _).box _).drew 1))
  have HHV := Lib.hid hV
  clear HB0 HB1 HV0 HV1 hV hW g0 g1 g2
  iterate 8 still_step
  still_call (HP4.out _)
  iterate 9 still_step
  still_call (HP6.out _)
  iterate 5 still_step
  refine wpStill_nil ?_
  change wpList _ _ _ _ _ W.drew
  rw [← HHV.out]
  go_wp2
  have HW := Lib.hid (HVO.out.turned (((kept_at HP3.out).trans (kept_at HP3.out)).trans (kept_at HP3.out) : Kept R V (((V.setCell ⟨w.heap.size + 1, 0, .none⟩ (.int .i64 p)).setCell ⟨w.heap.size + 1, 1, .none⟩ (.int .i64 A)).setCell ⟨w.heap.size + 1, 2, .none⟩ (.int .i64 B))))
  have hfa := HFA.out _ HW.out
  simp [bodyPost, results, Tryz.results39, go_sem, u0, u1, u2]
  exact hfa

end
end Go.Proofs.YtohhkjamddojmaaGreatDoor.Big

namespace Go.Proofs.YtohhkjamddojmaaGreatDoor.Big
open Go.RowKit
attribute [local go_sem] ptr
attribute [local irreducible] Sz

section
variable {R : Nat → Prop} {w0 w w' : World} {L L' : List (Nat × Int)}
/-- is a point on the curve by its definition? -/
def onB (p A B x y : Nat) : Bool := y * y % p == ((x * x % p) * x + A * x + B) % p
set_option maxHeartbeats 4000000 in
set_option maxRecDepth 100000 in
theorem specOnO (h : Own R w0 w L) (p A B x y : Nat) (h5 : 5 ≤ p) (hp : p < 65536) (ha : A < p) (hb : B < p) (hx : x < p) (hy : y < p) :
    Calls Tryz.prog 40 #[.agg #[.int .i64 p, .int .i64 A, .int .i64 B], .int .i64 x, .int .i64 y] w (fun e w' => e = .returned (.bool (onB p A B x y)) ∧ Own R w0 w' L) := by
  obtain ⟨d, hd⟩ : ∃ d, d = onB p A B x y := ⟨_, rfl⟩
  rw [← hd]
  obtain ⟨yy, hyy⟩ : ∃ yy, yy = y * y % p := ⟨_, rfl⟩
  obtain ⟨xx, hxx⟩ : ∃ xx, xx = x * x % p := ⟨_, rfl⟩
  have xxp : xx < p := by rw [hxx]; exact Nat.mod_lt _ (by omega)
  obtain ⟨xc, hxc⟩ : ∃ xc, xc = xx * x := ⟨_, rfl⟩
  have xcp : xx * x < 65536 * 65536 := Nat.mul_lt_mul'' (show xx < 65536 by omega) (show x < 65536 by omega)
  rw [← hxc] at xcp
  obtain ⟨ax, hax⟩ : ∃ ax, ax = A * x := ⟨_, rfl⟩
  have axp : A * x < 65536 * 65536 := Nat.mul_lt_mul'' (show A < 65536 by omega) (show x < 65536 by omega)
  rw [← hax] at axp
  obtain ⟨s, hs⟩ : ∃ s, s = (xc + ax + B) % p := ⟨_, rfl⟩
  have m1 : (wrap64 ((y : Int) * y)).tmod p = yy := by rw [hyy]; exact mul64 _ _ _ (by omega) (by omega)
  have m2 : (wrap64 ((x : Int) * x)).tmod p = xx := by rw [hxx]; exact mul64 _ _ _ (by omega) (by omega)
  have m3 : wrap64 ((xx : Int) * x) = xc := by rw [hxc, show (xx : Int) * x = ((xx * x : Nat) : Int) by simp, w64_in (by omega)]
  have m4 : wrap64 ((A : Int) * x) = ax := by rw [hax, show (A : Int) * x = ((A * x : Nat) : Int) by simp, w64_in (by omega)]
  obtain ⟨t1, ht1⟩ : ∃ t1, t1 = xc + ax := ⟨_, rfl⟩
  obtain ⟨t2, ht2⟩ : ∃ t2, t2 = t1 + B := ⟨_, rfl⟩
  have e5 : (xc : Int) + ax = t1 := by rw [ht1]; exact (Int.natCast_add _ _).symm
  have b5 : t1 < 9223372036854775808 := by rw [ht1]; exact Nat.lt_of_lt_of_le (Nat.add_lt_add xcp axp) (by decide)
  have m5 : wrap64 ((xc : Int) + ax) = t1 := by rw [e5]; exact w64_in ⟨by omega, by omega⟩
  have e6 : (t1 : Int) + B = t2 := by rw [ht2]; exact (Int.natCast_add _ _).symm
  have b6 : t2 < 9223372036854775808 := by rw [ht2, ht1]; exact Nat.lt_of_lt_of_le (Nat.add_lt_add (Nat.add_lt_add xcp axp) (Nat.lt_trans hb hp)) (by decide)
  have m6 : wrap64 ((t1 : Int) + B) = t2 := by rw [e6]; exact w64_in ⟨by omega, by omega⟩
  have n1 : (IntKind.i64.wrap ((y : Int) * y)).tmod p = yy := by rw [wrapI]; exact m1
  have n2 : (IntKind.i64.wrap ((x : Int) * x)).tmod p = xx := by rw [wrapI]; exact m2
  have n3 : IntKind.i64.wrap ((xx : Int) * x) = xc := by rw [wrapI]; exact m3
  have n4 : IntKind.i64.wrap ((A : Int) * x) = ax := by rw [wrapI]; exact m4
  have n5 : IntKind.i64.wrap ((xc : Int) + ax) = t1 := by rw [wrapI]; exact m5
  have n6 : IntKind.i64.wrap ((t1 : Int) + B) = t2 := by rw [wrapI]; exact m6
  have hsd : ((t2 : Int) % (p : Int)) = (s : Int) := by rw [hs, ht2, ht1]; push_cast; rfl
  have HM := Lib.hid (fun w => modI (t2 : Int) p w (by omega) (by omega))
  rw [hsd] at HM
  have hcmp : ((yy : Int) == (s : Int)) = d := by
    rw [hd, hyy, hs, hxc, hax, hxx]
    unfold onB
    rw [Bool.eq_iff_iff, beq_iff_eq, beq_iff_eq]
    exact Int.ofNat_inj
  have g1 : ¬ (x : Int) < 0 := by omega
  have g2 : ¬ (p : Int) ≤ x := by omega
  have g3 : ¬ (y : Int) < 0 := by omega
  have g4 : ¬ (p : Int) ≤ y := by omega
  have H := Lib.hid h
  have hpz : ¬ p = 0 := by omega
  clear h hd hyy hxx hxc hax hs ht1 ht2 hsd xxp xcp axp m1 m2 m3 m4 m5 m6 e5 e6 b5 b6
  go_enter Tryz.func40, Tryz.ntmps40
  go_wp2_with fail
  go_upto_region 3 with fail
  refine wp_region_quiet_lit (by kernel_rfl) (by kernel_rfl) ?_
  iterate 24 (quiet_step (fail))
  quiet_step ((go_at_call 79; exact quietC HM.out _ _))
  repeat (quiet_step (fail))
  refine wpQuiet_nil ?_
  intro _ hw'
  obtain ⟨nq, hw''⟩ := hw'
  subst hw''
  have HW := Lib.hid ((H.out.box (.cells #[.int .i64 p, .int .i64 A, .int .i64 B] 79)).drew nq)
  go_wp2_with fail
  go_ret
  exact ⟨rfl, HW.out⟩
end
end Go.Proofs.YtohhkjamddojmaaGreatDoor.Big

namespace Go.Proofs.YtohhkjamddojmaaGreatDoor.Big
open Go.RowKit
attribute [local go_sem] ptr
attribute [local irreducible] Sz

theorem nmod (n p : Nat) : (p : Int) ∣ ((n % p : Nat) : Int) - (n : Int) := by rw [Int.natCast_emod]; exact EcLaw.sub_emod_dvd _ _
theorem emod_iff {a c p : Int} : a % p = c % p ↔ p ∣ a - c := by
  rw [Int.emod_eq_emod_iff_emod_sub_eq_zero]
  exact ⟨Int.dvd_of_emod_eq_zero, Int.emod_eq_zero_of_dvd⟩
theorem isP_of {p : Nat} (h5 : 5 ≤ p) (hk : ∀ k, 2 ≤ k → k * k ≤ p → ¬ k ∣ p) : NumLaw.IsP p := EcLaw.isP_of_trial (by omega) hk
theorem inv_of {p z : Nat} (hP : NumLaw.IsP p) (z1 : 1 ≤ z) (zp : z < p) : (p : Int) ∣ ((z ^ (p - 2) % p : Nat) : Int) * (z : Int) - 1 := by
  have hz : ¬ p ∣ z := fun h => by have := Nat.le_of_dvd z1 h; omega
  have hf := hP.fermat1 hz
  have h2 := hP.1
  have e : z ^ (p - 1) = z ^ (p - 2) * z := by rw [← Nat.pow_succ]; congr 1; omega
  have h1 := nmod (z ^ (p - 1)) p
  rw [hf, e] at h1
  have h3 := nmod (z ^ (p - 2)) p
  push_cast at h1 h3 ⊢
  exact EcLaw.lin2 (z : Int) (-1) h3 h1 (by grind)
theorem on_eq {p b z x y i A B : Nat} (h5 : 5 ≤ p) (hk : ∀ k, 2 ≤ k → k * k ≤ p → ¬ k ∣ p) (z1 : 1 ≤ z) (zp : z < p) (hi : i = z ^ (p - 2) % p) (hA : A = (p - 3) * (i ^ 4 % p) % p) (hB : B = b * (i ^ 6 % p) % p) :
    decide (polyV ((x * (z ^ 2 % p) % p : Nat) : Int) (b : Int) (p : Int) = ((y * (z ^ 3 % p) % p : Nat) : Int) * ((y * (z ^ 3 % p) % p : Nat) : Int) % (p : Int)) = onB p A B x y := by
  have hP := isP_of h5 hk
  have hw := inv_of hP z1 zp
  rw [← hi] at hw
  obtain ⟨tx, htx⟩ : ∃ tx, tx = x * (z ^ 2 % p) % p := ⟨_, rfl⟩
  obtain ⟨ty, hty⟩ : ∃ ty, ty = y * (z ^ 3 % p) % p := ⟨_, rfl⟩
  rw [← htx, ← hty]
  have c1 : (p : Int) ∣ (tx : Int) - x * z ^ 2 := by
    have a1 := nmod (x * (z ^ 2 % p)) p
    have a2 := nmod (z ^ 2) p
    rw [← htx] at a1
    push_cast at a1 a2
    exact EcLaw.lin2 1 (x : Int) a1 a2 (by grind)
  have c2 : (p : Int) ∣ (ty : Int) - y * z ^ 3 := by
    have a1 := nmod (y * (z ^ 3 % p)) p
    have a2 := nmod (z ^ 3) p
    rw [← hty] at a1
    push_cast at a1 a2
    exact EcLaw.lin2 1 (y : Int) a1 a2 (by grind)
  have c3 : (p : Int) ∣ (A : Int) + 3 * i ^ 4 := by
    have a1 := nmod ((p - 3) * (i ^ 4 % p)) p
    have a2 := nmod (i ^ 4) p
    rw [← hA] at a1
    have e : ((p - 3 : Nat) : Int) = (p : Int) - 3 := by omega
    have a3 : (p : Int) ∣ (p : Int) := Int.dvd_refl _
    rw [Int.natCast_mul, e] at a1
    push_cast at a1 a2
    exact EcLaw.lin3 1 (-3) ((i : Int) ^ 4 % p) a1 a2 a3 (by grind)
  have c4 : (p : Int) ∣ (B : Int) - b * i ^ 6 := by
    have a1 := nmod (b * (i ^ 6 % p)) p
    have a2 := nmod (i ^ 6) p
    rw [← hB] at a1
    push_cast at a1 a2
    exact EcLaw.lin2 1 (b : Int) a1 a2 (by grind)
  have core := EcLaw.on_core (b := (b : Int)) c1 c2 c3 c4 hw
  rw [Bool.eq_iff_iff, decide_eq_true_iff]
  unfold polyV onB
  rw [emod_iff, beq_iff_eq]
  have e1 : ((tx : Int) * tx * tx - (tx * 2 ^ 1 + tx) + b) = (tx * tx * tx - (tx * 2 + tx) + b) := by grind
  rw [e1]
  refine core.trans ?_
  have a5 := nmod (x * x) p
  rw [← Int.ofNat_inj]
  push_cast
  rw [emod_iff]
  push_cast at a5
  constructor
  · intro h; exact EcLaw.lin2 1 (-x) h a5 (by grind)
  · intro h; exact EcLaw.lin2 1 (x : Int) h a5 (by grind)

section
variable {R : Nat → Prop} {w0 w w' : World} {L L' : List (Nat × Int)}
set_option maxHeartbeats 4000000 in
set_option maxRecDepth 100000 in
theorem lawOnO (h : Own R w0 w []) (p b z x y : Int) :
    Calls Tryz.prog 9 #[.agg #[.int .i64 p, .int .i64 b, .int .i64 z], .int .i64 x, .int .i64 y] w (fun e w' => e = .returned (.bool true) ∧ Own R w0 w' []) := by
  have U := Lib.hid (fun (w' : World) (M : List (Nat × Int)) (hh : Own (RO R w.heap.size) (w.alloc (.cells #[.int .i64 p, .int .i64 b, .int .i64 z] 57)) w' M) =>
    Own.unguard (h.box (.cells #[.int .i64 p, .int .i64 b, .int .i64 z] 57)) (heap_alloc_new w _) (by intro _ _ _ _ e; simp at e) hh)
  have G := Lib.hid (h.guard (.cells #[.int .i64 p, .int .i64 b, .int .i64 z] 57))
  have HT := Lib.hid (isTwistO G.out p b z)
  clear h
  go_enter Tryz.func9, Tryz.ntmps9
  go_wp2_with fail
  refine HT.out.mono ?_
  rintro e w1 ⟨v, rfl, h1, hv⟩
  have H1 := Lib.hid h1
  obtain ⟨q0, q1, q2⟩ := h1.three
  have HV := Lib.hid hv
  clear h1 hv HT
  rcases v with _ | _
  · go_wp2_with fail
    go_ret
    exact ⟨rfl, U.out _ _ H1.out⟩
  obtain ⟨pn, bn, zn, rfl, rfl, rfl, p5, pB, z1, zp, bp, hk⟩ := HV.out rfl
  have PP := Lib.hid (And.intro p5 (And.intro pB (And.intro z1 (And.intro zp bp))))
  have HK := Lib.hid hk
  clear HV p5 pB z1 zp bp hk
  by_cases c1 : x < 0
  · go_wp2_with fail
    go_ret
    exact ⟨rfl, U.out _ _ H1.out⟩
  by_cases c2 : (pn : Int) ≤ x
  · go_wp2_with fail
    go_ret
    exact ⟨rfl, U.out _ _ H1.out⟩
  by_cases c3 : y < 0
  · go_wp2_with fail
    go_ret
    exact ⟨rfl, U.out _ _ H1.out⟩
  by_cases c4 : (pn : Int) ≤ y
  · go_wp2_with fail
    go_ret
    exact ⟨rfl, U.out _ _ H1.out⟩
  obtain ⟨xn, rfl⟩ : ∃ n : Nat, x = n := ⟨x.toNat, by omega⟩
  obtain ⟨yn, rfl⟩ : ∃ n : Nat, y = n := ⟨y.toNat, by omega⟩
  have g1 : (0 : Int) ≤ (xn : Int) := by omega
  have g2 : (xn : Int) < pn := by omega
  have g3 : (0 : Int) ≤ (yn : Int) := by omega
  have g4 : (yn : Int) < pn := by omega
  have PX := Lib.hid (show xn < pn ∧ yn < pn by omega)
  have GC := Lib.hid (coprime_of PP.out.1 PP.out.2.2.1 PP.out.2.2.2.1 HK.out)
  clear c1 c2 c3 c4
  have C2 := Lib.hid (twistOnO H1.out pn bn zn xn yn PP.out.2.2.1 PP.out.2.2.2.1 PP.out.2.2.2.2 (by have := PP.out.1; omega) (by have := PP.out.2.1; omega) GC.out PX.out.1 PX.out.2)
  obtain ⟨d, hd⟩ : ∃ d, d = decide (polyV ((xn * (zn ^ 2 % pn) % pn : Nat) : Int) (bn : Int) (pn : Int) = ((yn * (zn ^ 3 % pn) % pn : Nat) : Int) * ((yn * (zn ^ 3 % pn) % pn : Nat) : Int) % (pn : Int)) := ⟨_, rfl⟩
  rw [← hd] at C2
  have HD := Lib.hid hd
  clear hd
  go_wp2_with fail
  refine C2.out.mono ?_
  rintro e w2 ⟨rfl, h2⟩
  have H2 := Lib.hid h2
  obtain ⟨q0, q1, q2⟩ := h2.three
  clear C2 h2
  have C3 := Lib.hid (straightO H2.out pn bn zn PP.out.1 PP.out.2.1 PP.out.2.2.2.1 PP.out.2.2.2.2)
  go_wp2_with fail
  refine C3.out.mono ?_
  rintro e w3 ⟨⟨i, A, B, hi, hA, hB, rfl⟩, h3⟩
  have pz : 0 < pn := by have := PP.out.1; omega
  have HE := Lib.hid (show onB pn A B xn yn = d by rw [HD.out]; exact (on_eq PP.out.1 HK.out PP.out.2.2.1 PP.out.2.2.2.1 hi hA hB).symm)
  have C4 := Lib.hid (specOnO h3 pn A B xn yn PP.out.1 PP.out.2.1 (by rw [hA]; exact Nat.mod_lt _ pz) (by rw [hB]; exact Nat.mod_lt _ pz) PX.out.1 PX.out.2)
  rw [HE.out] at C4
  clear C3 h3 hi hA hB pz
  go_wp2_with fail
  refine C4.out.mono ?_
  rintro e w4 ⟨rfl, h4⟩
  have H4 := Lib.hid (U.out _ _ h4)
  have hdd : (d == d) = true := by simp
  clear C4 h4
  go_wp2_with fail
  go_ret
  exact ⟨rfl, H4.out⟩
end
end Go.Proofs.YtohhkjamddojmaaGreatDoor.Big
