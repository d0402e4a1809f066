/- Is a point on a curve, by its definition? -/
import Derived.Test.YtohhkjamddojmaaGreatDoorSA
import Derived.Test.YtohhkjamddojmaaGreatDoorTwO
import Derived.Deep.Cut
namespace Go.Proofs.YtohhkjamddojmaaGreatDoor.Big
open Go.RowKit
attribute [local go_sem] ptr
attribute [local irreducible] Sz

section
variable {R : Nat → Prop} {w0 w w' : World} {L L' : List (Nat × Int)}
/-- is a point on the curve by its definition? -/
def onB (p A B x y : Nat) : Bool := y * y % p == ((x * x % p) * x + A * x + B) % p
set_option maxHeartbeats 4000000 in
set_option maxRecDepth 100000 in
theorem specOnO (h : Own R w0 w L) (p A B x y : Nat) (h5 : 5 ≤ p) (hp : p < 65536) (ha : A < p) (hb : B < p) (hx : x < p) (hy : y < p) :
    Calls Tryz.prog 40 #[.agg #[.int .i64 p, .int .i64 A, .int .i64 B], .int .i64 x, .int .i64 y] w (fun e w' => e = .returned (.bool (onB p A B x y)) ∧ Own R w0 w' L) := by
  obtain ⟨d, hd⟩ : ∃ d, d = onB p A B x y := ⟨_, rfl⟩
  rw [← hd]
  obtain ⟨yy, hyy⟩ : ∃ yy, yy = y * y % p := ⟨_, rfl⟩
  obtain ⟨xx, hxx⟩ : ∃ xx, xx = x * x % p := ⟨_, rfl⟩
  have xxp : xx < p := by rw [hxx]; exact Nat.mod_lt _ (by omega)
  obtain ⟨xc, hxc⟩ : ∃ xc, xc = xx * x := ⟨_, rfl⟩
  have xcp : xx * x < 65536 * 65536 := Nat.mul_lt_mul'' (show xx < 65536 by omega) (show x < 65536 by omega)
  rw [← hxc] at xcp
  obtain ⟨ax, hax⟩ : ∃ ax, ax = A * x := ⟨_, rfl⟩
  have axp : A * x < 65536 * 65536 := Nat.mul_lt_mul'' (show A < 65536 by omega) (show x < 65536 by omega)
  rw [← hax] at axp
  obtain ⟨s, hs⟩ : ∃ s, s = (xc + ax + B) % p := ⟨_, rfl⟩
  have m1 : (wrap64 ((y : Int) * y)).tmod p = yy := by rw [hyy]; exact mul64 _ _ _ (by omega) (by omega)
  have m2 : (wrap64 ((x : Int) * x)).tmod p = xx := by rw [hxx]; exact mul64 _ _ _ (by omega) (by omega)
  have m3 : wrap64 ((xx : Int) * x) = xc := by rw [hxc, show (xx : Int) * x = ((xx * x : Nat) : Int) by simp, w64_in (by omega)]
  have m4 : wrap64 ((A : Int) * x) = ax := by rw [hax, show (A : Int) * x = ((A * x : Nat) : Int) by simp, w64_in (by omega)]
  obtain ⟨t1, ht1⟩ : ∃ t1, t1 = xc + ax := ⟨_, rfl⟩
  obtain ⟨t2, ht2⟩ : ∃ t2, t2 = t1 + B := ⟨_, rfl⟩
  have e5 : (xc : Int) + ax = t1 := by rw [ht1]; exact (Int.natCast_add _ _).symm
  have b5 : t1 < 9223372036854775808 := by rw [ht1]; exact Nat.lt_of_lt_of_le (Nat.add_lt_add xcp axp) (by decide)
  have m5 : wrap64 ((xc : Int) + ax) = t1 := by rw [e5]; exact w64_in ⟨by omega, by omega⟩
  have e6 : (t1 : Int) + B = t2 := by rw [ht2]; exact (Int.natCast_add _ _).symm
  have b6 : t2 < 9223372036854775808 := by rw [ht2, ht1]; exact Nat.lt_of_lt_of_le (Nat.add_lt_add (Nat.add_lt_add xcp axp) (Nat.lt_trans hb hp)) (by decide)
  have m6 : wrap64 ((t1 : Int) + B) = t2 := by rw [e6]; exact w64_in ⟨by omega, by omega⟩
  have n1 : (IntKind.i64.wrap ((y : Int) * y)).tmod p = yy := by rw [wrapI]; exact m1
  have n2 : (IntKind.i64.wrap ((x : Int) * x)).tmod p = xx := by rw [wrapI]; exact m2
  have n3 : IntKind.i64.wrap ((xx : Int) * x) = xc := by rw [wrapI]; exact m3
  have n4 : IntKind.i64.wrap ((A : Int) * x) = ax := by rw [wrapI]; exact m4
  have n5 : IntKind.i64.wrap ((xc : Int) + ax) = t1 := by rw [wrapI]; exact m5
  have n6 : IntKind.i64.wrap ((t1 : Int) + B) = t2 := by rw [wrapI]; exact m6
  have hsd : ((t2 : Int) % (p : Int)) = (s : Int) := by rw [hs, ht2, ht1]; push_cast; rfl
  have HM := Lib.hid (fun w => modI (t2 : Int) p w (by omega) (by omega))
  rw [hsd] at HM
  have hcmp : ((yy : Int) == (s : Int)) = d := by
    rw [hd, hyy, hs, hxc, hax, hxx]
    unfold onB
    rw [Bool.eq_iff_iff, beq_iff_eq, beq_iff_eq]
    exact Int.ofNat_inj
  have g1 : ¬ (x : Int) < 0 := by omega
  have g2 : ¬ (p : Int) ≤ x := by omega
  have g3 : ¬ (y : Int) < 0 := by omega
  have g4 : ¬ (p : Int) ≤ y := by omega
  have H := Lib.hid h
  have hpz : ¬ p = 0 := by omega
  clear h hd hyy hxx hxc hax hs ht1 ht2 hsd xxp xcp axp m1 m2 m3 m4 m5 m6 e5 e6 b5 b6
  go_enter Tryz.func40, Tryz.ntmps40
  go_wp2_with fail
  go_upto_region 3 with fail
  refine wp_region_quiet_lit (by kernel_rfl) (by kernel_rfl) ?_
  iterate 24 (quiet_step (fail))
  quiet_step ((go_at_call 79; exact quietC HM.out _ _))
  repeat (quiet_step (fail))
  refine wpQuiet_nil ?_
  intro _ hw'
  obtain ⟨nq, hw''⟩ := hw'
  subst hw''
  have HW := Lib.hid ((H.out.box (.cells #[.int .i64 p, .int .i64 A, .int .i64 B] 79)).drew nq)
  go_wp2_with fail
  go_ret
  exact ⟨rfl, HW.out⟩
end
end Go.Proofs.YtohhkjamddojmaaGreatDoor.Big
