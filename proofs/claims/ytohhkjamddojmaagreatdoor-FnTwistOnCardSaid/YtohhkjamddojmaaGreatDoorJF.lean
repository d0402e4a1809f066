/- A twist's curve by its definition; the law of IsOnCurve. -/
import Derived.Test.YtohhkjamddojmaaGreatDoorSA
import Derived.Test.YtohhkjamddojmaaGreatDoorJE
import Derived.Test.YtohhkjamddojmaaGreatDoorTwO
import Derived.StillTailTactics
namespace Go.Proofs.YtohhkjamddojmaaGreatDoor.Big
open Go.RowKit
attribute [local go_sem] ptr
attribute [local irreducible] Sz

section
variable {R : Nat → Prop} {w0 w w' : World} {L L' : List (Nat × Int)}
theorem Own.three' {v0 v1 v2 : Value} {T : TypeId} : (w.alloc (.cells #[v0, v1, v2] T)).cell? ⟨w.heap.size, 0, .none⟩ = some v0 ∧ (w.alloc (.cells #[v0, v1, v2] T)).cell? ⟨w.heap.size, 1, .none⟩ = some v1 ∧ (w.alloc (.cells #[v0, v1, v2] T)).cell? ⟨w.heap.size, 2, .none⟩ = some v2 := by
  have hb := heap_alloc_new w (.cells #[v0, v1, v2] T)
  exact ⟨block_cell hb rfl, block_cell hb rfl, block_cell hb rfl⟩

theorem set3 {w : World} {b : Nat} {x0 x1 x2 : Value} {T : TypeId} (y0 y1 y2 : Value) (h : w.heap[b]? = some (.cells #[x0, x1, x2] T)) :
    (w.setCell ⟨b, 0, .none⟩ y0).heap[b]? = some (.cells #[y0, x1, x2] T) ∧ ((w.setCell ⟨b, 0, .none⟩ y0).setCell ⟨b, 1, .none⟩ y1).heap[b]? = some (.cells #[y0, y1, x2] T) ∧ (((w.setCell ⟨b, 0, .none⟩ y0).setCell ⟨b, 1, .none⟩ y1).setCell ⟨b, 2, .none⟩ y2).heap[b]? = some (.cells #[y0, y1, y2] T) := by
  have h0 : (w.setCell ⟨b, 0, .none⟩ y0).heap[b]? = some (.cells #[y0, x1, x2] T) := by simp only [World.setCell, Array.getElem?_modify, if_true]; rw [h]; simp
  have h1 : ((w.setCell ⟨b, 0, .none⟩ y0).setCell ⟨b, 1, .none⟩ y1).heap[b]? = some (.cells #[y0, y1, x2] T) := by
    generalize w.setCell ⟨b, 0, .none⟩ y0 = w1 at *
    simp only [World.setCell, Array.getElem?_modify, if_true]; rw [h0]; simp
  refine ⟨h0, h1, ?_⟩
  generalize (w.setCell ⟨b, 0, .none⟩ y0).setCell ⟨b, 1, .none⟩ y1 = w2 at *
  simp only [World.setCell, Array.getElem?_modify, if_true]; rw [h1]; simp
theorem kept_at {R : Nat → Prop} {w : World} {b o : Nat} {v : Value} (hb : ¬ R b) : Kept R w (w.setCell ⟨b, o, .none⟩ v) := (Grow.of (grown_set w b o v)).weaken (fun k _ e => by cases e; exact hb)
/-- the curve by its definition -/
def StraightP (R : Nat → Prop) (w0 : World) (p b z : Nat) (e : Ending) (w' : World) : Prop :=
  (∃ i A B : Nat, i = z ^ (p - 2) % p ∧ A = (p - 3) * (i ^ 4 % p) % p ∧ B = b * (i ^ 6 % p) % p ∧ e = .returned (.agg #[.int .i64 p, .int .i64 A, .int .i64 B])) ∧ Own R w0 w' []
set_option maxHeartbeats 4000000 in
set_option maxRecDepth 100000 in
theorem straightO (h : Own R w0 w []) (p b z : Nat) (h5 : 5 ≤ p) (hp : p < 65536) (zp : z < p) (bp : b < p) :
    Calls Tryz.prog 39 #[.agg #[.int .i64 p, .int .i64 b, .int .i64 z]] w (StraightP R w0 p b z) := by
  obtain ⟨i, hi⟩ : ∃ i, i = z ^ (p - 2) % p := ⟨_, rfl⟩
  have ip : i < p := by rw [hi]; exact Nat.mod_lt _ (by omega)
  obtain ⟨i4, hi4⟩ : ∃ i4, i4 = i ^ 4 % p := ⟨_, rfl⟩
  obtain ⟨i6, hi6⟩ : ∃ i6, i6 = i ^ 6 % p := ⟨_, rfl⟩
  have i4p : i4 < p := by rw [hi4]; exact Nat.mod_lt _ (by omega)
  have i6p : i6 < p := by rw [hi6]; exact Nat.mod_lt _ (by omega)
  obtain ⟨A, hA⟩ : ∃ A, A = (p - 3) * i4 % p := ⟨_, rfl⟩
  obtain ⟨B, hB⟩ : ∃ B, B = b * i6 % p := ⟨_, rfl⟩
  have emod : ∀ n : Nat, n < p → ((n : Int) % (p : Int)).toNat = n := fun n hn => by rw [Int.emod_eq_of_lt (by omega) (by omega), Int.toNat_natCast]
  have HI : RowKit.Hid (∀ w, Calls Tryz.prog 85 #[.int .i64 z, .int .i64 p] w (fun e w' => e = .returned (.int .i64 i) ∧ w' = w)) := Lib.hid (fun w => by
    have := invI z p w (by omega) (by omega)
    rw [emod z zp, ← hi] at this; exact this)
  have HP4 : RowKit.Hid (∀ w, Calls Tryz.prog 32 #[.int .i64 i, .int .i64 4, .int .i64 p] w (fun e w' => e = .returned (.int .i64 i4) ∧ w' = w)) := Lib.hid (fun w => by
    have := powI i 4 p w (by omega) (by omega) (by omega)
    rw [emod i ip, ← hi4] at this; exact this)
  have HP6 : RowKit.Hid (∀ w, Calls Tryz.prog 32 #[.int .i64 i, .int .i64 6, .int .i64 p] w (fun e w' => e = .returned (.int .i64 i6) ∧ w' = w)) := Lib.hid (fun w => by
    have := powI i 6 p w (by omega) (by omega) (by omega)
    rw [emod i ip, ← hi6] at this; exact this)
  have hs : wrap64 ((p : Int) - 3) = ((p - 3 : Nat) : Int) := by rw [w64_in (by omega)]; omega
  have hs2 : (p : Int) - 3 = ((p - 3 : Nat) : Int) := by omega
  have hsI : IntKind.i64.wrap ((p : Int) - 3) = ((p - 3 : Nat) : Int) := by rw [wrapI]; exact hs
  have m4 : (wrap64 (((p - 3 : Nat) : Int) * i4)).tmod p = A := by rw [hA]; exact mul64 _ _ _ (by omega) (by omega)
  have m6 : (wrap64 ((b : Int) * i6)).tmod p = B := by rw [hB]; exact mul64 _ _ _ (by omega) (by omega)
  have m4I : (IntKind.i64.wrap (((p - 3 : Nat) : Int) * i4)).tmod p = A := by rw [wrapI]; exact m4
  have m6I : (IntKind.i64.wrap ((b : Int) * i6)).tmod p = B := by rw [wrapI]; exact m6
  have HFA := Lib.hid (show ∀ w', Own R w0 w' [] → StraightP R w0 p b z (.returned (.agg #[.int .i64 p, .int .i64 A, .int .i64 B])) w' from fun w' o => ⟨⟨i, A, B, hi, by rw [hA, hi4], by rw [hB, hi6], rfl⟩, o⟩)
  have H := Lib.hid h
  have hpz : ¬ p = 0 := by omega
  obtain ⟨q0, q1, q2⟩ := Own.three' (w := w) (v0 := .int .i64 p) (v1 := .int .i64 b) (v2 := .int .i64 z) (T := 57)
  clear h hi hi4 hi6 hA hB emod ip i4p i6p zp bp
  have w3 : IntKind.i64.wrap ((p - 3 : Nat) : Int) = ((p - 3 : Nat) : Int) := by rw [wrapI]; exact w64_in (by omega)
  have HP3 := Lib.hid (show ¬ R (w.heap.size + 1) by have := (H.out.box (.cells #[.int .i64 p, .int .i64 b, .int .i64 z] 57)).fresh; rwa [show (w.alloc (.cells #[.int .i64 p, .int .i64 b, .int .i64 z] 57)).heap.size = w.heap.size + 1 from Array.size_push _] at this)
  generalize hp3 : p - 3 = p3 at *
  clear hp3
  go_enter Tryz.func39, Tryz.ntmps39
  go_wp2_with fail
  refine (HI.out _).mono ?_
  rintro en w1 ⟨rfl, rfl⟩
  go_wp2_with fail
  obtain ⟨W, hW⟩ : ∃ W : World, W = ((w.alloc (.cells #[.int .i64 p, .int .i64 b, .int .i64 z] 57)).alloc (.cells #[.int .i64 0, .int .i64 0, .int .i64 0] 79)) := ⟨_, rfl⟩
  have HB0 : W.heap[w.heap.size]? = some (.cells #[.int .i64 p, .int .i64 b, .int .i64 z] 57) := by rw [hW]; exact (heap_alloc_old _ _ (by simp)).trans (heap_alloc_new _ _)
  have HB1 : W.heap[w.heap.size + 1]? = some (.cells #[.int .i64 0, .int .i64 0, .int .i64 0] 79) := by
    rw [hW]
    have := heap_alloc_new (w.alloc (.cells #[.int .i64 p, .int .i64 b, .int .i64 z] 57)) (.cells #[.int .i64 0, .int .i64 0, .int .i64 0] 79)
    rwa [show (w.alloc (.cells #[.int .i64 p, .int .i64 b, .int .i64 z] 57)).heap.size = w.heap.size + 1 from Array.size_push _] at this
  rw [← hW]
  refine wp_region_still_tail 24 (by kernel_rfl) (by kernel_rfl) ?_
  simp only [List.take_succ_cons, List.take_zero, List.drop_succ_cons, List.drop_zero]
  obtain ⟨V, hV⟩ : ∃ V : World, V = W.drew := ⟨_, rfl⟩
  change wpStill _ _ W.drew _ _ _
  rw [← hV]
  have HV0 : V.heap[w.heap.size]? = some (.cells #[.int .i64 p, .int .i64 b, .int .i64 z] 57) := by rw [hV]; exact HB0
  have HV1 : V.heap[w.heap.size + 1]? = some (.cells #[.int .i64 0, .int .i64 0, .int .i64 0] 79) := by rw [hV]; exact HB1
  have q0 := block_cell (k := 0) HV0 rfl
  have q1 := block_cell (k := 1) HV0 rfl
  have q2 := block_cell (k := 2) HV0 rfl
  have r0 := block_cell (k := 0) HV1 rfl
  have r1 := block_cell (k := 1) HV1 rfl
  have r2 := block_cell (k := 2) HV1 rfl
  have s0 := block_free (o := 0) HV1
  have s1 := block_free (o := 1) HV1
  have s2 := block_free (o := 2) HV1
  obtain ⟨g0, g1, g2⟩ := set3 (.int .i64 p) (.int .i64 A) (.int .i64 B) HV1
  have t1 := block_cell (k := 1) g0 rfl
  have t1f := block_free (o := 1) g0
  have t2 := block_cell (k := 2) g1 rfl
  have t2f := block_free (o := 2) g1
  have u0 := block_cell (k := 0) g2 rfl
  have u1 := block_cell (k := 1) g2 rfl
  have u2 := block_cell (k := 2) g2 rfl
  have HVO := Lib.hid (show Own R w0 V [] by rw [hV, hW]; exact (((H.out.box _).box _).drew 1))
  have HHV := Lib.hid hV
  clear HB0 HB1 HV0 HV1 hV hW g0 g1 g2
  iterate 8 still_step
  still_call (HP4.out _)
  iterate 9 still_step
  still_call (HP6.out _)
  iterate 5 still_step
  refine wpStill_nil ?_
  change wpList _ _ _ _ _ W.drew
  rw [← HHV.out]
  go_wp2
  have HW := Lib.hid (HVO.out.turned (((kept_at HP3.out).trans (kept_at HP3.out)).trans (kept_at HP3.out) : Kept R V (((V.setCell ⟨w.heap.size + 1, 0, .none⟩ (.int .i64 p)).setCell ⟨w.heap.size + 1, 1, .none⟩ (.int .i64 A)).setCell ⟨w.heap.size + 1, 2, .none⟩ (.int .i64 B))))
  have hfa := HFA.out _ HW.out
  simp [bodyPost, results, Tryz.results39, go_sem, u0, u1, u2]
  exact hfa

end
end Go.Proofs.YtohhkjamddojmaaGreatDoor.Big
