/- The law of twists: to the twist and back. -/
import Derived.Test.YtohhkjamddojmaaGreatDoorTJ
namespace Go.Proofs.YtohhkjamddojmaaGreatDoor.Big
open Go.RowKit
attribute [local go_sem] ptr
attribute [local irreducible] Sz

section
variable {R : Nat → Prop} {w0 w w' : World} {L L' : List (Nat × Int)}

theorem wrapI (n : Int) : IntKind.i64.wrap n = wrap64 n := by rw [IntKind.wrap_i64]; unfold wrap64; rfl
theorem Own.three {v0 v1 v2 : Value} {T : TypeId} (h : Own (RO R w.heap.size) (w.alloc (.cells #[v0, v1, v2] T)) w' L) : w'.cell? ⟨w.heap.size, 0, .none⟩ = some v0 ∧ w'.cell? ⟨w.heap.size, 1, .none⟩ = some v1 ∧ w'.cell? ⟨w.heap.size, 2, .none⟩ = some v2 := by
  have hb := h.block (heap_alloc_new w (.cells #[v0, v1, v2] T)) (RO.self _ _)
  exact ⟨block_cell hb rfl, block_cell hb rfl, block_cell hb rfl⟩

set_option maxHeartbeats 4000000 in
set_option maxRecDepth 100000 in
theorem lawO (h : Own R w0 w []) (p b z x y : Int) :
    Calls Tryz.prog 7 #[.agg #[.int .i64 p, .int .i64 b, .int .i64 z], .int .i64 x, .int .i64 y] w (fun e w' => e = .returned (.bool true) ∧ Own R w0 w' []) := by
  have U := Lib.hid (fun (w' : World) (M : List (Nat × Int)) (hh : Own (RO R w.heap.size) (w.alloc (.cells #[.int .i64 p, .int .i64 b, .int .i64 z] 57)) w' M) =>
    Own.unguard (h.box (.cells #[.int .i64 p, .int .i64 b, .int .i64 z] 57)) (heap_alloc_new w _) (by intro _ _ _ _ e; simp at e) hh)
  have G := Lib.hid (h.guard (.cells #[.int .i64 p, .int .i64 b, .int .i64 z] 57))
  have HT := Lib.hid (isTwistO G.out p b z)
  clear h
  go_enter Tryz.func7, Tryz.ntmps7
  go_wp2_with fail
  refine HT.out.mono ?_
  rintro e w1 ⟨v, rfl, h1, hv⟩
  have H1 := Lib.hid h1
  obtain ⟨q0, q1, q2⟩ := h1.three
  have HV := Lib.hid hv
  clear h1 hv HT
  rcases v with _ | _
  · go_wp2_with fail
    go_ret
    exact ⟨rfl, U.out _ _ H1.out⟩
  obtain ⟨pn, bn, zn, rfl, rfl, rfl, p5, pB, z1, zp, bp, hk⟩ := HV.out rfl
  have PP := Lib.hid (And.intro p5 (And.intro pB (And.intro z1 (And.intro zp bp))))
  have HK := Lib.hid hk
  clear HV p5 pB z1 zp bp hk
  by_cases c1 : x < 0
  · go_wp2_with fail
    go_ret
    exact ⟨rfl, U.out _ _ H1.out⟩
  by_cases c2 : (pn : Int) ≤ x
  · go_wp2_with fail
    go_ret
    exact ⟨rfl, U.out _ _ H1.out⟩
  by_cases c3 : y < 0
  · go_wp2_with fail
    go_ret
    exact ⟨rfl, U.out _ _ H1.out⟩
  by_cases c4 : (pn : Int) ≤ y
  · go_wp2_with fail
    go_ret
    exact ⟨rfl, U.out _ _ H1.out⟩
  obtain ⟨xn, rfl⟩ : ∃ n : Nat, x = n := ⟨x.toNat, by omega⟩
  obtain ⟨yn, rfl⟩ : ∃ n : Nat, y = n := ⟨y.toNat, by omega⟩
  have g1 : (0 : Int) ≤ (xn : Int) := by omega
  have g2 : (xn : Int) < pn := by omega
  have g3 : (0 : Int) ≤ (yn : Int) := by omega
  have g4 : (yn : Int) < pn := by omega
  have PX := Lib.hid (show xn < pn ∧ yn < pn by omega)
  have GC := Lib.hid (coprime_of PP.out.1 PP.out.2.2.1 PP.out.2.2.2.1 HK.out)
  clear c1 c2 c3 c4 HK
  have C2 := Lib.hid (twistToO H1.out pn bn zn xn yn PP.out.2.2.1 PP.out.2.2.2.1 PP.out.2.2.2.2 (by have := PP.out.1; omega) (by have := PP.out.2.1; omega) GC.out PX.out.1 PX.out.2)
  go_wp2_with fail
  refine C2.out.mono ?_
  rintro e w2 ⟨t, X, Y, ⟨ht, htd, hX, hY⟩, rfl, h2⟩
  have H2 := Lib.hid h2
  obtain ⟨q0, q1, q2⟩ := h2.three
  clear C2 h2
  obtain ⟨m2, hm2, HP2⟩ : ∃ m2 : Nat, m2 = zn ^ 2 % pn ∧ RowKit.Hid (∀ w, Calls Tryz.prog 32 #[.int .i64 zn, .int .i64 2, .int .i64 pn] w (fun e w' => e = .returned (.int .i64 m2) ∧ w' = w)) := ⟨_, rfl, Lib.hid (fun w => power2 zn pn PP.out.2.2.2.1 (by have := PP.out.1; omega) (by have := PP.out.2.1; omega))⟩
  obtain ⟨m3, hm3, HP3⟩ : ∃ m3 : Nat, m3 = zn ^ 3 % pn ∧ RowKit.Hid (∀ w, Calls Tryz.prog 32 #[.int .i64 zn, .int .i64 3, .int .i64 pn] w (fun e w' => e = .returned (.int .i64 m3) ∧ w' = w)) := ⟨_, rfl, Lib.hid (fun w => power3 zn pn PP.out.2.2.2.1 (by have := PP.out.1; omega) (by have := PP.out.2.1; omega))⟩
  have hp0 : 0 < pn := by have := PP.out.1; omega
  have m2l : m2 < pn := by rw [hm2]; exact Nat.mod_lt _ hp0
  have m3l : m3 < pn := by rw [hm3]; exact Nat.mod_lt _ hp0
  have e2 : (wrap64 ((xn : Int) * m2)).tmod pn = X := by rw [mulS xn m2 pn (by have := PX.out.1; have := PP.out.2.1; omega) (by have := PP.out.2.1; omega), hX, hm2]
  have e3 : (wrap64 ((yn : Int) * m3)).tmod pn = Y := by rw [mulS yn m3 pn (by have := PX.out.2; have := PP.out.2.1; omega) (by have := PP.out.2.1; omega), hY, hm3]
  have e2w : (IntKind.i64.wrap ((xn : Int) * m2)).tmod pn = X := by rw [wrapI]; exact e2
  have e3w : (IntKind.i64.wrap ((yn : Int) * m3)).tmod pn = Y := by rw [wrapI]; exact e3
  have HX := Lib.hid (show X < pn ∧ Y < pn by rw [hX, hY]; exact ⟨Nat.mod_lt _ hp0, Nat.mod_lt _ hp0⟩)
  have EX := Lib.hid (And.intro hX hY)
  have hpn : (5 : Int) ≤ (pn : Int) := by have := PP.out.1; omega
  have hpz : ¬ pn = 0 := by have := PP.out.1; omega
  clear hX hY ht htd hm2 hm3 m2l m3l hp0
  go_wp2_with fail
  refine wp_region_quiet_lit (by kernel_rfl) (by kernel_rfl) ?_
  iterate 20 (quiet_step ((go_at_call 32; exact quietC HP2.out _ _)))
  repeat (quiet_step ((go_at_call 32; exact quietC HP3.out _ _)))
  refine wpQuiet_nil ?_
  intro _ hw'
  obtain ⟨nq, hw''⟩ := hw'
  subst hw''
  have C3 := Lib.hid (twistFromO (H2.out.drew nq) pn bn zn X Y PP.out.2.2.1 PP.out.2.2.2.1 PP.out.2.2.2.2 (by have := PP.out.1; omega) (by have := PP.out.2.1; omega) GC.out HX.out.1 HX.out.2)
  clear e2 e3 e2w e3w HP2 HP3 GC
  go_wp2_with fail
  refine C3.out.mono ?_
  rintro e w3 ⟨t2, X2, Y2, ⟨ht, htd, hX2, hY2⟩, rfl, h3⟩
  have hx : X2 = xn := by rw [hX2, EX.out.1]; exact there_back PX.out.1 htd
  have hy : Y2 = yn := by rw [hY2, EX.out.2]; exact there_back PX.out.2 htd
  subst hx hy
  have H3 := Lib.hid (U.out _ _ h3)
  clear h3 hX2 hY2 ht htd C3
  go_wp2_with fail
  go_ret
  exact ⟨rfl, H3.out⟩
end
end Go.Proofs.YtohhkjamddojmaaGreatDoor.Big
