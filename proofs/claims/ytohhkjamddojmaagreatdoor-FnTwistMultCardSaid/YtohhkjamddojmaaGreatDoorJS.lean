/- Chords and tangents as the specification reckons them: plain numbers. Sums of points as the specification has them. Sums of points as the specification has them: all cases. -/
import Derived.Test.YtohhkjamddojmaaGreatDoorJF
namespace Go.Proofs.YtohhkjamddojmaaGreatDoor.Big
open EcLaw

theorem chord_sl {p a b x1 y1 x2 y2 l i : Int} (h : Prm p) (h1 : On p a b (.aff x1 y1)) (h2 : On p a b (.aff x2 y2)) (hx : ¬ p ∣ x1 - x2) (hi : p ∣ i * (x2 - x1) - 1) (hl : p ∣ l - (y2 - y1) * i) : Sl p a x1 y1 x2 y2 l := by
  have c : p ∣ l * (x1 - x2) - (y1 - y2) := lin2 (x1 - x2) (-(y2 - y1)) hl hi (by grind)
  have t : p ∣ (x1 - x2) * (l * (y1 + y2) - (x1^2 + x1*x2 + x2^2 + a)) := lin3 (y1 + y2) 1 (-1) c h1.2.2.2.2 h2.2.2.2.2 (by grind)
  exact ⟨fun e => hx e.1, c, h.cancel hx t⟩
theorem tan_sl {p a x1 y1 l i : Int} (hy : ¬ p ∣ y1 + y1) (hi : p ∣ i * (2 * y1) - 1) (hl : p ∣ l - (3 * (x1 * x1) + a) * i) : Sl p a x1 y1 x1 y1 l :=
  ⟨fun e => hy e.2, ⟨0, by grind⟩, lin2 (y1 + y1) (3 * (x1 * x1) + a) hl hi (by grind)⟩
theorem add_val {p a b x1 y1 x2 y2 l x3 y3 d : Int} (h : Prm p) (h1 : On p a b (.aff x1 y1)) (h2 : On p a b (.aff x2 y2)) (hl : Sl p a x1 y1 x2 y2 l) (e3 : x3 = (l * l - x1 - x2) % p) (ed : d = (x1 - x3) % p) (e4 : y3 = (l * d - y1) % p) :
    add p a (.aff x1 y1) (.aff x2 y2) = .aff x3 y3 := by
  have h0 := h.two
  have c3 : p ∣ x3 - (l * l - x1 - x2) := e3 ▸ sub_emod_dvd _ _
  have cd : p ∣ d - (x1 - x3) := ed ▸ sub_emod_dvd _ _
  have c4 : p ∣ y3 - (l * d - y1) := e4 ▸ sub_emod_dvd _ _
  refine add_is h h1 h2 hl ⟨?_, ?_, ?_, ?_⟩ ?_ ?_
  · rw [e3]; exact Int.emod_nonneg _ (by omega)
  · rw [e3]; exact Int.emod_lt_of_pos _ (by omega)
  · rw [e4]; exact Int.emod_nonneg _ (by omega)
  · rw [e4]; exact Int.emod_lt_of_pos _ (by omega)
  · exact dvd_of_eq_mul 1 c3 (by grind)
  · exact lin2 1 l c4 cd (by grind)
/-- an inverse as the specification reckons it -/
theorem inv_int {p : Nat} {n : Int} (hP : NumLaw.IsP p) (hn : ¬ (p : Int) ∣ n) : (p : Int) ∣ (((n % p).toNat ^ (p - 2) % p : Nat) : Int) * n - 1 := by
  have h2 := hP.1
  have h0 := Int.emod_nonneg n (show (p : Int) ≠ 0 by omega)
  have h1 := Int.emod_lt_of_pos n (show (0 : Int) < p by omega)
  have hne : n % p ≠ 0 := fun e => hn (Int.dvd_of_emod_eq_zero e)
  obtain ⟨z, hz⟩ : ∃ z : Nat, n % (p : Int) = z := ⟨(n % p).toNat, by omega⟩
  have hi := inv_of hP (z := z) (by omega) (by omega)
  rw [hz, Int.toNat_natCast]
  have hd : (p : Int) ∣ (z : Int) - n := hz ▸ sub_emod_dvd (p : Int) n
  exact lin2 1 (-(((z ^ (p - 2) % p : Nat) : Int))) hi hd (by grind)
theorem prm_of {p : Nat} (hP : NumLaw.IsP p) (h2 : 2 < p) : Prm (p : Int) := ⟨by omega, fun x y hd => hP.int x y hd⟩
theorem not_dvd_small {p : Nat} {n : Int} (h0 : n ≠ 0) (h1 : n < p) (h2 : -(p : Int) < n) : ¬ (p : Int) ∣ n := by
  intro h
  rcases Int.lt_or_gt_of_ne h0 with h3 | h3
  · have := Int.le_of_dvd (a := (p : Int)) (b := -n) (by omega) (Int.dvd_neg.2 h)
    omega
  · have := Int.le_of_dvd h3 h
    omega
theorem two_y {p : Nat} {y : Nat} (hP : NumLaw.IsP p) (h2 : 2 < p) (hy0 : y ≠ 0) (hy : y < p) : ¬ (p : Int) ∣ (y : Int) + y := by
  have h := prm_of hP h2
  intro hd
  have : (p : Int) ∣ 2 * (y : Int) := by rwa [show (2 : Int) * y = y + y by omega]
  rcases h.mul _ _ this with e | e
  · exact h.not2 e
  · exact not_dvd_small (by omega) (by omega) (by omega) e
end Go.Proofs.YtohhkjamddojmaaGreatDoor.Big

namespace Go.Proofs.YtohhkjamddojmaaGreatDoor.Big
open Go.RowKit
open EcLaw (Pt Prm On)
attribute [local go_sem] ptr
attribute [local irreducible] Sz

/-- a point as a value -/
def ptV : Pt → Value
  | .inf => .agg #[.int .i64 0, .int .i64 0, .bool true]
  | .aff x y => .agg #[.int .i64 x, .int .i64 y, .bool false]
section
variable {R : Nat → Prop} {w0 w w' : World} {L L' : List (Nat × Int)}
theorem four (w : World) (a b c d : Obj) : ((((w.alloc a).alloc b).alloc c).alloc d).heap[w.heap.size]? = some a ∧ ((((w.alloc a).alloc b).alloc c).alloc d).heap[w.heap.size + 1]? = some b ∧ ((((w.alloc a).alloc b).alloc c).alloc d).heap[w.heap.size + 1 + 1]? = some c ∧ ((((w.alloc a).alloc b).alloc c).alloc d).heap[w.heap.size + 1 + 1 + 1]? = some d := by
  have s1 : (w.alloc a).heap.size = w.heap.size + 1 := Array.size_push _
  have s2 : ((w.alloc a).alloc b).heap.size = w.heap.size + 1 + 1 := by
    show (Array.push _ _).size = _
    rw [Array.size_push, s1]
  have s3 : (((w.alloc a).alloc b).alloc c).heap.size = w.heap.size + 1 + 1 + 1 := by
    show (Array.push _ _).size = _
    rw [Array.size_push, s2]
  have n0 := heap_alloc_new w a
  have n1 := heap_alloc_new (w.alloc a) b
  have n2 := heap_alloc_new ((w.alloc a).alloc b) c
  have n3 := heap_alloc_new (((w.alloc a).alloc b).alloc c) d
  rw [s1] at n1
  rw [s2] at n2
  rw [s3] at n3
  refine ⟨?_, ?_, ?_, n3⟩
  · exact (heap_alloc_old _ _ (by rw [s3]; omega)).trans ((heap_alloc_old _ _ (by rw [s2]; omega)).trans ((heap_alloc_old _ _ (by rw [s1]; omega)).trans n0))
  · exact (heap_alloc_old _ _ (by rw [s3]; omega)).trans ((heap_alloc_old _ _ (by rw [s2]; omega)).trans n1)
  · exact (heap_alloc_old _ _ (by rw [s3]; omega)).trans n2
set_option maxHeartbeats 8000000 in
set_option maxRecDepth 100000 in
theorem specAddT (h : Own R w0 w []) (p A B : Nat) (x1 y1 : Nat) (h5 : 5 ≤ p) (hp : p < 65536) (hP : NumLaw.IsP p) (ha : A < p) (o1 : On (p : Int) A B (.aff x1 y1)) (hy0 : y1 ≠ 0) :
    Calls Tryz.prog 55 #[.agg #[.int .i64 p, .int .i64 A, .int .i64 B], ptV (.aff x1 y1), ptV (.aff x1 y1)] w (fun e w' => e = .returned (ptV (EcLaw.add (p : Int) A (.aff x1 y1) (.aff x1 y1))) ∧ Own R w0 w' []) := by
  have hp0 : 0 < p := by omega
  have hpr : Prm (p : Int) := prm_of hP (by omega)
  have hx1 : x1 < p := Int.ofNat_lt.1 o1.2.1
  have hy1 : y1 < p := Int.ofNat_lt.1 o1.2.2.2.1
  obtain ⟨xx, hxx⟩ : ∃ xx, xx = x1 * x1 % p := ⟨_, rfl⟩
  have xxp : xx < p := by rw [hxx]; exact Nat.mod_lt _ hp0
  have F1 := Lib.hid (show (IntKind.i64.wrap ((x1 : Int) * x1)).tmod p = xx from by rw [wrapI, hxx]; exact mul64 _ _ _ (by omega) (by omega))
  obtain ⟨t3, ht3⟩ : ∃ t3, t3 = 3 * xx := ⟨_, rfl⟩
  have F2 := Lib.hid (show IntKind.i64.wrap (3 * (xx : Int)) = t3 from by rw [wrapI, ht3, w64_in ⟨by omega, by omega⟩]; omega)
  obtain ⟨t4, ht4⟩ : ∃ t4, t4 = t3 + A := ⟨_, rfl⟩
  have F3 := Lib.hid (show IntKind.i64.wrap ((t3 : Int) + A) = t4 from by rw [wrapI, ht4, w64_in ⟨by omega, by omega⟩]; omega)
  obtain ⟨u, hu⟩ : ∃ u : Nat, ((t4 : Nat) : Int) % (p : Int) = u := ⟨_, rfl⟩
  have up : u < p := by have := Int.emod_lt_of_pos (t4 : Int) (show (0 : Int) < p by omega); omega
  have HU : RowKit.Hid (∀ w, Calls Tryz.prog 79 #[.int .i64 t4, .int .i64 p] w (fun e w' => e = .returned (.int .i64 u) ∧ w' = w)) := Lib.hid (fun w => by have := modI (t4 : Int) p w hp0 (by omega); rwa [hu] at this)
  obtain ⟨t5, ht5⟩ : ∃ t5 : Nat, t5 = 2 * y1 := ⟨_, rfl⟩
  have F4 := Lib.hid (show IntKind.i64.wrap (2 * (y1 : Int)) = ((t5 : Nat) : Int) from by rw [wrapI, ht5, w64_in ⟨by omega, by omega⟩]; omega)
  obtain ⟨iv, hiv⟩ : ∃ iv : Nat, iv = ((((t5 : Nat) : Int) % p).toNat ^ (p - 2) % p : Nat) := ⟨_, rfl⟩
  have ivp : iv < p := by rw [hiv]; exact Nat.mod_lt _ hp0
  have HI : RowKit.Hid (∀ w, Calls Tryz.prog 85 #[.int .i64 ((t5 : Nat) : Int), .int .i64 p] w (fun e w' => e = .returned (.int .i64 iv) ∧ w' = w)) := Lib.hid (fun w => by have := invI ((t5 : Nat) : Int) p w (by omega) (by omega); rwa [← hiv] at this)
  obtain ⟨sl, hsl⟩ : ∃ sl, sl = u * iv % p := ⟨_, rfl⟩
  have slp : sl < p := by rw [hsl]; exact Nat.mod_lt _ hp0
  have F5 := Lib.hid (show (IntKind.i64.wrap ((u : Int) * iv)).tmod p = sl from by rw [wrapI, hsl]; exact mul64 _ _ _ (by omega) (by omega))
  have hss0 : sl * sl < 65536 * 65536 := Nat.mul_lt_mul'' (show sl < 65536 by omega) (show sl < 65536 by omega)
  obtain ⟨ss, hss⟩ : ∃ ss, ss = sl * sl := ⟨_, rfl⟩
  rw [← hss] at hss0
  have F6 := Lib.hid (show wrap64 ((sl : Int) * sl) = ss from by rw [show (sl : Int) * sl = ((sl * sl : Nat) : Int) by simp, ← hss, w64_in ⟨by omega, by omega⟩])
  obtain ⟨s1, hs1⟩ : ∃ s1 : Int, s1 = (ss : Int) - x1 := ⟨_, rfl⟩
  have F7 := Lib.hid (show wrap64 ((ss : Int) - x1) = s1 from by rw [← hs1]; exact w64_in ⟨by omega, by omega⟩)
  obtain ⟨s2, hs2⟩ : ∃ s2 : Int, s2 = s1 - x1 := ⟨_, rfl⟩
  have F8 := Lib.hid (show wrap64 (s1 - x1) = s2 from by rw [← hs2]; exact w64_in ⟨by omega, by omega⟩)
  obtain ⟨x3, hx3⟩ : ∃ x3 : Nat, s2 % (p : Int) = x3 := ⟨(s2 % p).toNat, by have := Int.emod_nonneg s2 (show (p : Int) ≠ 0 by omega); omega⟩
  have x3p : x3 < p := by have := Int.emod_lt_of_pos s2 (show (0 : Int) < p by omega); omega
  have HX : RowKit.Hid (∀ w, Calls Tryz.prog 79 #[.int .i64 s2, .int .i64 p] w (fun e w' => e = .returned (.int .i64 x3) ∧ w' = w)) := Lib.hid (fun w => by have := modI s2 p w hp0 (by omega); rwa [hx3] at this)
  obtain ⟨s3, hs3⟩ : ∃ s3 : Int, s3 = (x1 : Int) - x3 := ⟨_, rfl⟩
  have F9 := Lib.hid (show IntKind.i64.wrap ((x1 : Int) - x3) = s3 from by rw [wrapI, ← hs3]; exact w64_in ⟨by omega, by omega⟩)
  obtain ⟨d, hd⟩ : ∃ d : Nat, s3 % (p : Int) = d := ⟨(s3 % p).toNat, by have := Int.emod_nonneg s3 (show (p : Int) ≠ 0 by omega); omega⟩
  have dp : d < p := by have := Int.emod_lt_of_pos s3 (show (0 : Int) < p by omega); omega
  have HDD : RowKit.Hid (∀ w, Calls Tryz.prog 79 #[.int .i64 s3, .int .i64 p] w (fun e w' => e = .returned (.int .i64 d) ∧ w' = w)) := Lib.hid (fun w => by have := modI s3 p w hp0 (by omega); rwa [hd] at this)
  have hs40 : sl * d < 65536 * 65536 := Nat.mul_lt_mul'' (show sl < 65536 by omega) (show d < 65536 by omega)
  obtain ⟨s4, hs4⟩ : ∃ s4, s4 = sl * d := ⟨_, rfl⟩
  rw [← hs4] at hs40
  have F10 := Lib.hid (show IntKind.i64.wrap ((sl : Int) * d) = s4 from by rw [wrapI, show (sl : Int) * d = ((sl * d : Nat) : Int) by simp, ← hs4, w64_in ⟨by omega, by omega⟩])
  obtain ⟨s5, hs5⟩ : ∃ s5 : Int, s5 = (s4 : Int) - y1 := ⟨_, rfl⟩
  have F11 := Lib.hid (show IntKind.i64.wrap ((s4 : Int) - y1) = s5 from by rw [wrapI, ← hs5]; exact w64_in ⟨by omega, by omega⟩)
  obtain ⟨y3, hy3⟩ : ∃ y3 : Nat, s5 % (p : Int) = y3 := ⟨(s5 % p).toNat, by have := Int.emod_nonneg s5 (show (p : Int) ≠ 0 by omega); omega⟩
  have HY : RowKit.Hid (∀ w, Calls Tryz.prog 79 #[.int .i64 s5, .int .i64 p] w (fun e w' => e = .returned (.int .i64 y3) ∧ w' = w)) := Lib.hid (fun w => by have := modI s5 p w hp0 (by omega); rwa [hy3] at this)
  have hSL : EcLaw.Sl (p : Int) A x1 y1 x1 y1 sl := by
    refine tan_sl (i := (iv : Int)) (two_y hP (by omega) hy0 hy1) ?_ ?_
    · have h1 := inv_int hP (n := ((t5 : Nat) : Int)) (by have := two_y hP (by omega) hy0 hy1; rwa [ht5, show ((2 * y1 : Nat) : Int) = (y1 : Int) + y1 by omega])
      rw [← hiv] at h1
      rwa [ht5, show ((2 * y1 : Nat) : Int) = 2 * (y1 : Int) by omega] at h1
    · have a1 := nmod (u * iv) p
      have a2 : (p : Int) ∣ (u : Int) - (t4 : Int) := hu ▸ EcLaw.sub_emod_dvd (p : Int) (t4 : Int)
      have a3 := nmod (x1 * x1) p
      rw [← hsl] at a1
      rw [← hxx] at a3
      rw [ht4, ht3] at a2
      push_cast at a1 a2 a3
      exact EcLaw.lin3 1 (iv : Int) (3 * iv : Int) a1 a2 a3 (by grind)
  have hVAL : EcLaw.add (p : Int) A (.aff x1 y1) (.aff x1 y1) = .aff x3 y3 := add_val hpr o1 o1 hSL (d := (d : Int)) (by rw [← hx3, hs2, hs1, hss]; push_cast; rfl) (by rw [← hd, hs3]) (by rw [← hy3, hs5, hs4]; push_cast; rfl)
  rw [hVAL]
  have HO0 := Lib.hid ((((h.box (.cells #[.int .i64 p, .int .i64 A, .int .i64 B] 79)).box (.cells #[.int .i64 x1, .int .i64 y1, .bool false] 98)).box (.cells #[.int .i64 x1, .int .i64 y1, .bool false] 98)).box (.cells #[.int .i64 0, .int .i64 0, .bool false] 98))
  have HFR := Lib.hid (show ¬ R (w.heap.size + 1 + 1 + 1) by
    have := (((h.box (.cells #[.int .i64 p, .int .i64 A, .int .i64 B] 79)).box (.cells #[.int .i64 x1, .int .i64 y1, .bool false] 98)).box (.cells #[.int .i64 x1, .int .i64 y1, .bool false] 98)).fresh
    have s1 : (w.alloc (.cells #[.int .i64 p, .int .i64 A, .int .i64 B] 79)).heap.size = w.heap.size + 1 := Array.size_push _
    have s2 : ((w.alloc (.cells #[.int .i64 p, .int .i64 A, .int .i64 B] 79)).alloc (.cells #[.int .i64 x1, .int .i64 y1, .bool false] 98)).heap.size = w.heap.size + 1 + 1 := by
      show (Array.push _ _).size = _
      rw [Array.size_push, s1]
    have s3 : (((w.alloc (.cells #[.int .i64 p, .int .i64 A, .int .i64 B] 79)).alloc (.cells #[.int .i64 x1, .int .i64 y1, .bool false] 98)).alloc (.cells #[.int .i64 x1, .int .i64 y1, .bool false] 98)).heap.size = w.heap.size + 1 + 1 + 1 := by
      show (Array.push _ _).size = _
      rw [Array.size_push, s2]
    rwa [s3] at this)
  obtain ⟨b0, b1, b2, b3⟩ := four w (.cells #[.int .i64 p, .int .i64 A, .int .i64 B] 79) (.cells #[.int .i64 x1, .int .i64 y1, .bool false] 98) (.cells #[.int .i64 x1, .int .i64 y1, .bool false] 98) (.cells #[.int .i64 0, .int .i64 0, .bool false] 98)
  have HBL := Lib.hid (And.intro b0 (And.intro b1 (And.intro b2 b3)))
  have hpz : ¬ p = 0 := by omega
  have hb : ((y1 : Int) == 0) = false := by rw [beq_eq_false_iff_ne]; omega
  clear h hP ha o1 hy0 hp0 hpr hx1 hy1 hu up hiv ivp hsl slp hss0 hss hs1 hs2 hx3 x3p hs3 hd dp hs40 hs4 hs5 hy3 hSL hVAL ht4 ht5 h5 hp hxx xxp ht3 b0 b1 b2 b3
  have f1 := F1.out
  have f2 := F2.out
  have f3 := F3.out
  have f4 := F4.out
  have f5 := F5.out
  have f6 := F6.out
  have f7 := F7.out
  have f8 := F8.out
  have f9 := F9.out
  have f10 := F10.out
  have f11 := F11.out
  simp only [ptV]
  go_enter Tryz.func55, Tryz.ntmps55
  go_wp2_with fail
  refine wp_region_quiet_lit (by kernel_rfl) (by kernel_rfl) ?_
  iterate 14 (quiet_step (fail))
  quiet_step ((go_at_call 79; exact quietC HU.out _ _))
  iterate 5 (quiet_step (fail))
  quiet_step ((go_at_call 85; exact quietC HI.out _ _))
  repeat (quiet_step (fail))
  refine wpQuiet_nil ?_
  intro _ hw'
  obtain ⟨nq, hw''⟩ := hw'
  subst hw''
  obtain ⟨W, hW⟩ : ∃ W : World, W = ((((w.alloc (.cells #[.int .i64 p, .int .i64 A, .int .i64 B] 79)).alloc (.cells #[.int .i64 x1, .int .i64 y1, .bool false] 98)).alloc (.cells #[.int .i64 x1, .int .i64 y1, .bool false] 98)).alloc (.cells #[.int .i64 0, .int .i64 0, .bool false] 98)).drewN nq := ⟨_, rfl⟩
  rw [← hW]
  have B0 : W.heap[w.heap.size]? = some (.cells #[.int .i64 p, .int .i64 A, .int .i64 B] 79) := by rw [hW]; exact HBL.out.1
  have B1 : W.heap[w.heap.size + 1]? = some (.cells #[.int .i64 x1, .int .i64 y1, .bool false] 98) := by rw [hW]; exact HBL.out.2.1
  have B2 : W.heap[w.heap.size + 1 + 1]? = some (.cells #[.int .i64 x1, .int .i64 y1, .bool false] 98) := by rw [hW]; exact HBL.out.2.2.1
  have B3 : W.heap[w.heap.size + 1 + 1 + 1]? = some (.cells #[.int .i64 0, .int .i64 0, .bool false] 98) := by rw [hW]; exact HBL.out.2.2.2
  have HWO := Lib.hid (show Own R w0 W [] by rw [hW]; exact HO0.out.drew nq)
  have p0 := block_cell (k := 0) B0 rfl
  have p1 := block_cell (k := 0) B1 rfl
  have p2 := block_cell (k := 1) B1 rfl
  have p3 := block_cell (k := 0) B2 rfl
  have HB4 := Lib.hid (And.intro B0 (And.intro B1 B3))
  clear hW B0 B1 B2 B3 HBL HO0
  go_wp2_with (go_at_call 79; refine (HX.out _).mono ?_; rintro en w1 ⟨rfl, rfl⟩)
  refine wp_region_still_tail 17 (by kernel_rfl) (by kernel_rfl) ?_
  simp only [List.take_succ_cons, List.take_zero, List.drop_succ_cons, List.drop_zero]
  obtain ⟨V, hV⟩ : ∃ V : World, V = w1.drew := ⟨_, rfl⟩
  change wpStill _ _ w1.drew _ _ _
  rw [← hV]
  have D0 : V.heap[w.heap.size]? = some (.cells #[.int .i64 p, .int .i64 A, .int .i64 B] 79) := by rw [hV]; exact HB4.out.1
  have D1 : V.heap[w.heap.size + 1]? = some (.cells #[.int .i64 x1, .int .i64 y1, .bool false] 98) := by rw [hV]; exact HB4.out.2.1
  have D3 : V.heap[w.heap.size + 1 + 1 + 1]? = some (.cells #[.int .i64 0, .int .i64 0, .bool false] 98) := by rw [hV]; exact HB4.out.2.2
  have r0 := block_cell (k := 0) D0 rfl
  have r1 := block_cell (k := 0) D1 rfl
  have r2 := block_cell (k := 1) D1 rfl
  have k0 := block_cell (k := 0) D3 rfl
  have k1 := block_cell (k := 1) D3 rfl
  have k2 := block_cell (k := 2) D3 rfl
  have l0 := block_free (o := 0) D3
  have l1 := block_free (o := 1) D3
  have l2 := block_free (o := 2) D3
  obtain ⟨g0, g1, g2⟩ := set3 (.int .i64 x3) (.int .i64 y3) (.bool false) D3
  have t1 := block_cell (k := 1) g0 rfl
  have t1f := block_free (o := 1) g0
  have t2 := block_cell (k := 2) g1 rfl
  have t2f := block_free (o := 2) g1
  have u0 := block_cell (k := 0) g2 rfl
  have u1 := block_cell (k := 1) g2 rfl
  have u2 := block_cell (k := 2) g2 rfl
  have HVO := Lib.hid (show Own R w0 V [] by rw [hV]; exact HWO.out.drew 1)
  have HHV := Lib.hid hV
  clear D0 D1 D3 hV g0 g1 g2 p0 p1 p2 p3
  iterate 8 still_step
  still_call (HDD.out _)
  iterate 6 still_step
  still_call (HY.out _)
  repeat still_step
  refine wpStill_nil ?_
  change wpList _ _ _ _ _ w1.drew
  rw [← HHV.out]
  go_wp2
  have HW : Own R w0 (((V.setCell ⟨w.heap.size + 1 + 1 + 1, 0, .none⟩ (.int .i64 x3)).setCell ⟨w.heap.size + 1 + 1 + 1, 1, .none⟩ (.int .i64 y3)).setCell ⟨w.heap.size + 1 + 1 + 1, 2, .none⟩ (.bool false)) [] := HVO.out.turned (((kept_at HFR.out).trans (kept_at HFR.out)).trans (kept_at HFR.out))
  simp [bodyPost, results, Tryz.results55, go_sem, u0, u1, u2]
  exact HW
set_option maxHeartbeats 8000000 in
set_option maxRecDepth 100000 in
theorem specAddC (h : Own R w0 w []) (p A B : Nat) (x1 y1 x2 y2 : Nat) (h5 : 5 ≤ p) (hp : p < 65536) (hP : NumLaw.IsP p) (_ha : A < p) (o1 : On (p : Int) A B (.aff x1 y1)) (o2 : On (p : Int) A B (.aff x2 y2)) (hx : x1 ≠ x2) :
    Calls Tryz.prog 55 #[.agg #[.int .i64 p, .int .i64 A, .int .i64 B], ptV (.aff x1 y1), ptV (.aff x2 y2)] w (fun e w' => e = .returned (ptV (EcLaw.add (p : Int) A (.aff x1 y1) (.aff x2 y2))) ∧ Own R w0 w' []) := by
  have hp0 : 0 < p := by omega
  have hpr : Prm (p : Int) := prm_of hP (by omega)
  have hx1 : x1 < p := Int.ofNat_lt.1 o1.2.1
  have hy1 : y1 < p := Int.ofNat_lt.1 o1.2.2.2.1
  have hx2 : x2 < p := Int.ofNat_lt.1 o2.2.1
  have hy2 : y2 < p := Int.ofNat_lt.1 o2.2.2.2.1
  obtain ⟨t4, ht4⟩ : ∃ t4 : Int, t4 = (y2 : Int) - y1 := ⟨_, rfl⟩
  have F3 := Lib.hid (show IntKind.i64.wrap ((y2 : Int) - y1) = t4 from by rw [wrapI, ← ht4]; exact w64_in ⟨by omega, by omega⟩)
  obtain ⟨u, hu⟩ : ∃ u : Nat, t4 % (p : Int) = u := ⟨(t4 % p).toNat, by have := Int.emod_nonneg t4 (show (p : Int) ≠ 0 by omega); omega⟩
  have up : u < p := by have := Int.emod_lt_of_pos t4 (show (0 : Int) < p by omega); omega
  have HU : RowKit.Hid (∀ w, Calls Tryz.prog 79 #[.int .i64 t4, .int .i64 p] w (fun e w' => e = .returned (.int .i64 u) ∧ w' = w)) := Lib.hid (fun w => by have := modI t4 p w hp0 (by omega); rwa [hu] at this)
  obtain ⟨t5, ht5⟩ : ∃ t5 : Int, t5 = (x2 : Int) - x1 := ⟨_, rfl⟩
  have F4 := Lib.hid (show IntKind.i64.wrap ((x2 : Int) - x1) = t5 from by rw [wrapI, ← ht5]; exact w64_in ⟨by omega, by omega⟩)
  obtain ⟨iv, hiv⟩ : ∃ iv : Nat, iv = ((t5 % p).toNat ^ (p - 2) % p : Nat) := ⟨_, rfl⟩
  have ivp : iv < p := by rw [hiv]; exact Nat.mod_lt _ hp0
  have HI : RowKit.Hid (∀ w, Calls Tryz.prog 85 #[.int .i64 t5, .int .i64 p] w (fun e w' => e = .returned (.int .i64 iv) ∧ w' = w)) := Lib.hid (fun w => by have := invI t5 p w (by omega) (by omega); rwa [← hiv] at this)
  obtain ⟨sl, hsl⟩ : ∃ sl, sl = u * iv % p := ⟨_, rfl⟩
  have slp : sl < p := by rw [hsl]; exact Nat.mod_lt _ hp0
  have F5 := Lib.hid (show (IntKind.i64.wrap ((u : Int) * iv)).tmod p = sl from by rw [wrapI, hsl]; exact mul64 _ _ _ (by omega) (by omega))
  have hss0 : sl * sl < 65536 * 65536 := Nat.mul_lt_mul'' (show sl < 65536 by omega) (show sl < 65536 by omega)
  obtain ⟨ss, hss⟩ : ∃ ss, ss = sl * sl := ⟨_, rfl⟩
  rw [← hss] at hss0
  have F6 := Lib.hid (show wrap64 ((sl : Int) * sl) = ss from by rw [show (sl : Int) * sl = ((sl * sl : Nat) : Int) by simp, ← hss, w64_in ⟨by omega, by omega⟩])
  obtain ⟨s1, hs1⟩ : ∃ s1 : Int, s1 = (ss : Int) - x1 := ⟨_, rfl⟩
  have F7 := Lib.hid (show wrap64 ((ss : Int) - x1) = s1 from by rw [← hs1]; exact w64_in ⟨by omega, by omega⟩)
  obtain ⟨s2, hs2⟩ : ∃ s2 : Int, s2 = s1 - x2 := ⟨_, rfl⟩
  have F8 := Lib.hid (show wrap64 (s1 - x2) = s2 from by rw [← hs2]; exact w64_in ⟨by omega, by omega⟩)
  obtain ⟨x3, hx3⟩ : ∃ x3 : Nat, s2 % (p : Int) = x3 := ⟨(s2 % p).toNat, by have := Int.emod_nonneg s2 (show (p : Int) ≠ 0 by omega); omega⟩
  have x3p : x3 < p := by have := Int.emod_lt_of_pos s2 (show (0 : Int) < p by omega); omega
  have HX : RowKit.Hid (∀ w, Calls Tryz.prog 79 #[.int .i64 s2, .int .i64 p] w (fun e w' => e = .returned (.int .i64 x3) ∧ w' = w)) := Lib.hid (fun w => by have := modI s2 p w hp0 (by omega); rwa [hx3] at this)
  obtain ⟨s3, hs3⟩ : ∃ s3 : Int, s3 = (x1 : Int) - x3 := ⟨_, rfl⟩
  have F9 := Lib.hid (show IntKind.i64.wrap ((x1 : Int) - x3) = s3 from by rw [wrapI, ← hs3]; exact w64_in ⟨by omega, by omega⟩)
  obtain ⟨d, hd⟩ : ∃ d : Nat, s3 % (p : Int) = d := ⟨(s3 % p).toNat, by have := Int.emod_nonneg s3 (show (p : Int) ≠ 0 by omega); omega⟩
  have dp : d < p := by have := Int.emod_lt_of_pos s3 (show (0 : Int) < p by omega); omega
  have HDD : RowKit.Hid (∀ w, Calls Tryz.prog 79 #[.int .i64 s3, .int .i64 p] w (fun e w' => e = .returned (.int .i64 d) ∧ w' = w)) := Lib.hid (fun w => by have := modI s3 p w hp0 (by omega); rwa [hd] at this)
  have hs40 : sl * d < 65536 * 65536 := Nat.mul_lt_mul'' (show sl < 65536 by omega) (show d < 65536 by omega)
  obtain ⟨s4, hs4⟩ : ∃ s4, s4 = sl * d := ⟨_, rfl⟩
  rw [← hs4] at hs40
  have F10 := Lib.hid (show IntKind.i64.wrap ((sl : Int) * d) = s4 from by rw [wrapI, show (sl : Int) * d = ((sl * d : Nat) : Int) by simp, ← hs4, w64_in ⟨by omega, by omega⟩])
  obtain ⟨s5, hs5⟩ : ∃ s5 : Int, s5 = (s4 : Int) - y1 := ⟨_, rfl⟩
  have F11 := Lib.hid (show IntKind.i64.wrap ((s4 : Int) - y1) = s5 from by rw [wrapI, ← hs5]; exact w64_in ⟨by omega, by omega⟩)
  obtain ⟨y3, hy3⟩ : ∃ y3 : Nat, s5 % (p : Int) = y3 := ⟨(s5 % p).toNat, by have := Int.emod_nonneg s5 (show (p : Int) ≠ 0 by omega); omega⟩
  have HY : RowKit.Hid (∀ w, Calls Tryz.prog 79 #[.int .i64 s5, .int .i64 p] w (fun e w' => e = .returned (.int .i64 y3) ∧ w' = w)) := Lib.hid (fun w => by have := modI s5 p w hp0 (by omega); rwa [hy3] at this)
  have hSL : EcLaw.Sl (p : Int) A x1 y1 x2 y2 sl := by
    have hx12 : ¬ (p : Int) ∣ (x2 : Int) - x1 := not_dvd_small (by omega) (by omega) (by omega)
    refine chord_sl (i := (iv : Int)) hpr o1 o2 (not_dvd_small (by omega) (by omega) (by omega)) ?_ ?_
    · have h1 := inv_int hP (n := t5) (by rwa [ht5])
      rw [← hiv] at h1
      rwa [ht5] at h1
    · have a1 := nmod (u * iv) p
      have a2 : (p : Int) ∣ (u : Int) - t4 := hu ▸ EcLaw.sub_emod_dvd (p : Int) t4
      rw [← hsl] at a1
      rw [ht4] at a2
      push_cast at a1 a2
      exact EcLaw.lin2 1 (iv : Int) a1 a2 (by grind)
  have hVAL : EcLaw.add (p : Int) A (.aff x1 y1) (.aff x2 y2) = .aff x3 y3 := add_val hpr o1 o2 hSL (d := (d : Int)) (by rw [← hx3, hs2, hs1, hss]; push_cast; rfl) (by rw [← hd, hs3]) (by rw [← hy3, hs5, hs4]; push_cast; rfl)
  rw [hVAL]
  have HO0 := Lib.hid ((((h.box (.cells #[.int .i64 p, .int .i64 A, .int .i64 B] 79)).box (.cells #[.int .i64 x1, .int .i64 y1, .bool false] 98)).box (.cells #[.int .i64 x2, .int .i64 y2, .bool false] 98)).box (.cells #[.int .i64 0, .int .i64 0, .bool false] 98))
  have HFR := Lib.hid (show ¬ R (w.heap.size + 1 + 1 + 1) by
    have := (((h.box (.cells #[.int .i64 p, .int .i64 A, .int .i64 B] 79)).box (.cells #[.int .i64 x1, .int .i64 y1, .bool false] 98)).box (.cells #[.int .i64 x2, .int .i64 y2, .bool false] 98)).fresh
    have s1 : (w.alloc (.cells #[.int .i64 p, .int .i64 A, .int .i64 B] 79)).heap.size = w.heap.size + 1 := Array.size_push _
    have s2 : ((w.alloc (.cells #[.int .i64 p, .int .i64 A, .int .i64 B] 79)).alloc (.cells #[.int .i64 x1, .int .i64 y1, .bool false] 98)).heap.size = w.heap.size + 1 + 1 := by
      show (Array.push _ _).size = _
      rw [Array.size_push, s1]
    have s3 : (((w.alloc (.cells #[.int .i64 p, .int .i64 A, .int .i64 B] 79)).alloc (.cells #[.int .i64 x1, .int .i64 y1, .bool false] 98)).alloc (.cells #[.int .i64 x2, .int .i64 y2, .bool false] 98)).heap.size = w.heap.size + 1 + 1 + 1 := by
      show (Array.push _ _).size = _
      rw [Array.size_push, s2]
    rwa [s3] at this)
  obtain ⟨b0, b1, b2, b3⟩ := four w (.cells #[.int .i64 p, .int .i64 A, .int .i64 B] 79) (.cells #[.int .i64 x1, .int .i64 y1, .bool false] 98) (.cells #[.int .i64 x2, .int .i64 y2, .bool false] 98) (.cells #[.int .i64 0, .int .i64 0, .bool false] 98)
  have HBL := Lib.hid (And.intro b0 (And.intro b1 (And.intro b2 b3)))
  have hpz : ¬ p = 0 := by omega
  have hb : ((x1 : Int) == (x2 : Int)) = false := by rw [beq_eq_false_iff_ne]; omega
  clear h hP o1 o2 hx2 hy2 hx hp0 hpr hx1 hy1 hu up hiv ivp hsl slp hss0 hss hs1 hs2 hx3 x3p hs3 hd dp hs40 hs4 hs5 hy3 hSL hVAL ht4 ht5 h5 hp b0 b1 b2 b3
  have f3 := F3.out
  have f4 := F4.out
  have f5 := F5.out
  have f6 := F6.out
  have f7 := F7.out
  have f8 := F8.out
  have f9 := F9.out
  have f10 := F10.out
  have f11 := F11.out
  simp only [ptV]
  go_enter Tryz.func55, Tryz.ntmps55
  go_wp2_with fail
  refine wp_region_quiet_lit (by kernel_rfl) (by kernel_rfl) ?_
  iterate 7 (quiet_step (fail))
  quiet_step ((go_at_call 79; exact quietC HU.out _ _))
  iterate 7 (quiet_step (fail))
  quiet_step ((go_at_call 85; exact quietC HI.out _ _))
  repeat (quiet_step (fail))
  refine wpQuiet_nil ?_
  intro _ hw'
  obtain ⟨nq, hw''⟩ := hw'
  subst hw''
  obtain ⟨W, hW⟩ : ∃ W : World, W = ((((w.alloc (.cells #[.int .i64 p, .int .i64 A, .int .i64 B] 79)).alloc (.cells #[.int .i64 x1, .int .i64 y1, .bool false] 98)).alloc (.cells #[.int .i64 x2, .int .i64 y2, .bool false] 98)).alloc (.cells #[.int .i64 0, .int .i64 0, .bool false] 98)).drewN nq := ⟨_, rfl⟩
  rw [← hW]
  have B0 : W.heap[w.heap.size]? = some (.cells #[.int .i64 p, .int .i64 A, .int .i64 B] 79) := by rw [hW]; exact HBL.out.1
  have B1 : W.heap[w.heap.size + 1]? = some (.cells #[.int .i64 x1, .int .i64 y1, .bool false] 98) := by rw [hW]; exact HBL.out.2.1
  have B2 : W.heap[w.heap.size + 1 + 1]? = some (.cells #[.int .i64 x2, .int .i64 y2, .bool false] 98) := by rw [hW]; exact HBL.out.2.2.1
  have B3 : W.heap[w.heap.size + 1 + 1 + 1]? = some (.cells #[.int .i64 0, .int .i64 0, .bool false] 98) := by rw [hW]; exact HBL.out.2.2.2
  have HWO := Lib.hid (show Own R w0 W [] by rw [hW]; exact HO0.out.drew nq)
  have p0 := block_cell (k := 0) B0 rfl
  have p1 := block_cell (k := 0) B1 rfl
  have p2 := block_cell (k := 1) B1 rfl
  have p3 := block_cell (k := 0) B2 rfl
  have HB4 := Lib.hid (And.intro B0 (And.intro B1 B3))
  clear hW B0 B1 B2 B3 HBL HO0
  go_wp2_with (go_at_call 79; refine (HX.out _).mono ?_; rintro en w1 ⟨rfl, rfl⟩)
  refine wp_region_still_tail 17 (by kernel_rfl) (by kernel_rfl) ?_
  simp only [List.take_succ_cons, List.take_zero, List.drop_succ_cons, List.drop_zero]
  obtain ⟨V, hV⟩ : ∃ V : World, V = w1.drew := ⟨_, rfl⟩
  change wpStill _ _ w1.drew _ _ _
  rw [← hV]
  have D0 : V.heap[w.heap.size]? = some (.cells #[.int .i64 p, .int .i64 A, .int .i64 B] 79) := by rw [hV]; exact HB4.out.1
  have D1 : V.heap[w.heap.size + 1]? = some (.cells #[.int .i64 x1, .int .i64 y1, .bool false] 98) := by rw [hV]; exact HB4.out.2.1
  have D3 : V.heap[w.heap.size + 1 + 1 + 1]? = some (.cells #[.int .i64 0, .int .i64 0, .bool false] 98) := by rw [hV]; exact HB4.out.2.2
  have r0 := block_cell (k := 0) D0 rfl
  have r1 := block_cell (k := 0) D1 rfl
  have r2 := block_cell (k := 1) D1 rfl
  have k0 := block_cell (k := 0) D3 rfl
  have k1 := block_cell (k := 1) D3 rfl
  have k2 := block_cell (k := 2) D3 rfl
  have l0 := block_free (o := 0) D3
  have l1 := block_free (o := 1) D3
  have l2 := block_free (o := 2) D3
  obtain ⟨g0, g1, g2⟩ := set3 (.int .i64 x3) (.int .i64 y3) (.bool false) D3
  have t1 := block_cell (k := 1) g0 rfl
  have t1f := block_free (o := 1) g0
  have t2 := block_cell (k := 2) g1 rfl
  have t2f := block_free (o := 2) g1
  have u0 := block_cell (k := 0) g2 rfl
  have u1 := block_cell (k := 1) g2 rfl
  have u2 := block_cell (k := 2) g2 rfl
  have HVO := Lib.hid (show Own R w0 V [] by rw [hV]; exact HWO.out.drew 1)
  have HHV := Lib.hid hV
  clear D0 D1 D3 hV g0 g1 g2 p0 p1 p2 p3
  iterate 8 still_step
  still_call (HDD.out _)
  iterate 6 still_step
  still_call (HY.out _)
  repeat still_step
  refine wpStill_nil ?_
  change wpList _ _ _ _ _ w1.drew
  rw [← HHV.out]
  go_wp2
  have HW : Own R w0 (((V.setCell ⟨w.heap.size + 1 + 1 + 1, 0, .none⟩ (.int .i64 x3)).setCell ⟨w.heap.size + 1 + 1 + 1, 1, .none⟩ (.int .i64 y3)).setCell ⟨w.heap.size + 1 + 1 + 1, 2, .none⟩ (.bool false)) [] := HVO.out.turned (((kept_at HFR.out).trans (kept_at HFR.out)).trans (kept_at HFR.out))
  simp [bodyPost, results, Tryz.results55, go_sem, u0, u1, u2]
  exact HW
end
end Go.Proofs.YtohhkjamddojmaaGreatDoor.Big

namespace Go.Proofs.YtohhkjamddojmaaGreatDoor.Big
open Go.RowKit
open EcLaw (Pt Prm On)
attribute [local go_sem] ptr
attribute [local irreducible] Sz

section
variable {R : Nat → Prop} {w0 w w' : World} {L L' : List (Nat × Int)}
set_option maxHeartbeats 4000000 in
set_option maxRecDepth 100000 in
theorem specAddN (h : Own R w0 w []) (p A B : Nat) (x y1 y2 : Nat) (hy : y1 ≠ y2 ∨ y1 = 0) :
    Calls Tryz.prog 55 #[.agg #[.int .i64 p, .int .i64 A, .int .i64 B], ptV (.aff x y1), ptV (.aff x y2)] w (fun e w' => e = .returned (ptV .inf) ∧ Own R w0 w' []) := by
  have H := Lib.hid h
  clear h
  simp only [ptV]
  by_cases h0 : y1 = y2
  · have h1 : y1 = 0 := hy.resolve_left (fun e => e h0)
    subst h0
    subst h1
    clear hy
    go_enter Tryz.func55, Tryz.ntmps55
    go_wp2_with fail
    simp [bodyPost, results, Tryz.results55, go_sem]
    exact (((H.out.box _).box _).box _).box _
  · have hb : ((y1 : Int) != (y2 : Int)) = true := by rw [bne_iff_ne]; omega
    clear hy h0
    go_enter Tryz.func55, Tryz.ntmps55
    go_wp2_with fail
    simp [bodyPost, results, Tryz.results55, go_sem]
    exact (((H.out.box _).box _).box _).box _
/-- two points of the curve, none of them at infinity -/
theorem specAddO (h : Own R w0 w []) (p A B x1 y1 x2 y2 : Nat) (h5 : 5 ≤ p) (hp : p < 65536) (hP : NumLaw.IsP p) (ha : A < p) (o1 : On (p : Int) A B (.aff x1 y1)) (o2 : On (p : Int) A B (.aff x2 y2)) :
    Calls Tryz.prog 55 #[.agg #[.int .i64 p, .int .i64 A, .int .i64 B], ptV (.aff x1 y1), ptV (.aff x2 y2)] w (fun e w' => e = .returned (ptV (EcLaw.add (p : Int) A (.aff x1 y1) (.aff x2 y2))) ∧ Own R w0 w' []) := by
  have hpr : Prm (p : Int) := prm_of hP (by omega)
  by_cases hx : x1 = x2
  · subst hx
    by_cases hy : y1 ≠ y2 ∨ y1 = 0
    · have hd : (p : Int) ∣ (y1 : Int) + y2 := by
        by_cases e : y1 = y2
        · have e0 : y1 = 0 := hy.resolve_left (fun q => q e)
          subst e e0
          exact ⟨0, by simp⟩
        · have hm : (p : Int) ∣ ((y1 : Int) - y2) * ((y1 : Int) + y2) := EcLaw.lin2 1 (-1) o1.2.2.2.2 o2.2.2.2.2 (by grind)
          have l1 := o1.2.2.2.1
          have l2 := o2.2.2.2.1
          exact (hpr.mul _ _ hm).resolve_left (not_dvd_small (by omega) (by omega) (by omega))
      rw [EcLaw.add_opp ⟨⟨0, by omega⟩, hd⟩]
      exact specAddN h p A B x1 y1 y2 hy
    · have e : y1 = y2 := Classical.byContradiction fun q => hy (.inl q)
      subst e
      exact specAddT h p A B x1 y1 h5 hp hP ha o1 (fun q => hy (.inr q))
  · exact specAddC h p A B x1 y1 x2 y2 h5 hp hP ha o1 o2 hx
/-- the same point, by its coordinates -/
def SameV : Pt → Nat → Nat → Bool
  | .inf, x, y => x == 0 && y == 0
  | .aff a b, x, y => a == x && b == y
set_option maxHeartbeats 4000000 in
set_option maxRecDepth 100000 in
theorem sameInf (h : Own R w0 w []) : Calls Tryz.prog 51 #[ptV .inf, .int .i64 (0 : Nat), .int .i64 (0 : Nat), .bool true] w (fun e w' => e = .returned (.bool true) ∧ Own R w0 w' []) := by
  have H := Lib.hid h
  clear h
  simp only [ptV]
  go_enter Tryz.func51, Tryz.ntmps51
  go_wp2_with fail
  go_ret
  exact ⟨rfl, H.out.box _⟩
set_option maxHeartbeats 4000000 in
set_option maxRecDepth 100000 in
theorem sameAff (h : Own R w0 w []) (x y : Nat) : Calls Tryz.prog 51 #[ptV (.aff x y), .int .i64 x, .int .i64 y, .bool true] w (fun e w' => e = .returned (.bool true) ∧ Own R w0 w' []) := by
  have H := Lib.hid h
  have b1 : ((x : Int) == (x : Int)) = true := by simp
  have b2 : ((y : Int) == (y : Int)) = true := by simp
  clear h
  simp only [ptV]
  go_enter Tryz.func51, Tryz.ntmps51
  go_wp2_with fail
  go_ret
  exact ⟨rfl, H.out.box _⟩
end
end Go.Proofs.YtohhkjamddojmaaGreatDoor.Big
