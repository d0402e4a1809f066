/- The specification's Verify over a key of the law. -/
import Derived.Test.YtohhkjamddojmaaGreatDoorDE
import Derived.Lib.EndianBits
namespace Go.Proofs.YtohhkjamddojmaaGreatDoor.Big
open Go.RowKit NumLaw
attribute [local go_sem] ptr

theorem quietD {f : FuncId} {args : Array Value} {v : Value} (h : ∀ w, Calls Tryz.prog f args w (fun e w' => e = .returned v ∧ w' = w)) (W : World) (n : Nat) : Calls Tryz.prog f args (W.drewN n) (fun e w'' => e = .returned v ∧ ∃ m, w'' = W.drewN m) := (h _).mono (fun _ _ ⟨he, hw⟩ => ⟨he, n, hw⟩)
theorem quietE {f : FuncId} {args : Array Value} {v : Value} (h : ∀ w, Calls Tryz.prog f args w (fun e w' => e = .returned v ∧ w' = w)) (W : World) (k n : Nat) : Calls Tryz.prog f args (W.drewN (k + n)) (fun e w'' => e = .returned v ∧ ∃ m, w'' = W.drewN (k + m)) := (h _).mono (fun _ _ ⟨he, hw⟩ => ⟨he, n, hw⟩)
theorem wraps_i64 (n : Int) (h0 : 0 ≤ n) (h1 : n < 2 ^ 63) : IntKind.i64.wrap n = n := by
  simp [IntKind.wrap, IntKind.bits, IntKind.signed]; omega
theorem wrapD {n : Int} (h : 0 ≤ n ∧ n < 9223372036854775808) : wrap64 n = n := by unfold wrap64; omega
theorem i64_or (x y : Nat) (hx : x < 256) (hy : y < 256) : bits .or .i64 ((x : Int) * 256) y = ((x * 256 + y : Nat) : Int) := by
  have e1 : ((x : Int) * 256) % 2 ^ 8 = 0 := by omega
  have e2 : (x : Int) * 256 < 2 ^ 63 := Int.lt_of_lt_of_le (b := 65536) (by omega) (by decide)
  have e3 : (y : Int) < 2 ^ 8 := by omega
  have e4 : (y : Int) < 2 ^ 63 := Int.lt_of_lt_of_le (b := 256) (by omega) (by decide)
  rw [bits_join .i64 63 (by decide) wraps_i64 8 ((x : Int) * 256) y (by omega) e1 e2 (by omega) e3 e4]
  omega
theorem i64_or0 (y : Nat) (hy : y < 256) : bits .or .i64 0 y = (y : Int) := by
  have := i64_or 0 y (by decide) hy
  simpa using this
set_option maxHeartbeats 4000000 in
set_option maxRecDepth 100000 in
theorem leftmostS (g c d0 d1 : Nat) (w : World) (h0 : d0 < 256) (h1 : d1 < 256)
    (c0 : w.cell? ⟨g, 0, .none⟩ = some (.int .u8 d0)) (c1 : w.cell? ⟨g, 1, .none⟩ = some (.int .u8 d1)) :
    Calls Tryz.prog 86 #[.slice (some ⟨g, 0, .none⟩) 2 c] w (fun e w' => e = .returned (.int .i64 (d0 * 256 + d1 : Nat)) ∧ w' = w) := by
  obtain ⟨v, hv⟩ : ∃ v : Nat, v = d0 * 256 + d1 := ⟨_, rfl⟩
  rw [← hv]
  have HV := Lib.hid hv
  clear hv
  go_enter Tryz.func86, Tryz.ntmps86
  go_wp2_with fail
  go_loop [3, 4] (fun a b => (a = .int .i64 0 ∧ b = .int .i64 0) ∨ (a = .int .i64 d0 ∧ b = .int .i64 1) ∨ (a = .int .i64 v ∧ b = .int .i64 2)) (fun _ b => (2 - intOf b).toNat)
  case atStart => exact .inl ⟨rfl, rfl⟩
  case round =>
    rcases hrel with ⟨rfl, rfl⟩ | ⟨rfl, rfl⟩ | ⟨rfl, rfl⟩
    · go_wp2_with fail
      rw [i64_or0 d0 h0]
      exact ⟨.inr (.inl ⟨rfl, rfl⟩), by decide⟩
    · go_wp2_with fail
      rw [i64_or d0 d1 h0 h1, ← HV.out]
      exact ⟨.inr (.inr ⟨rfl, rfl⟩), by decide⟩
    · go_wp2_with fail
      go_ret
      exact ⟨rfl, rfl⟩
section
variable {R : Nat → Prop} {w0 w w' : World} {L L' : List (Nat × Int)}
set_option maxHeartbeats 16000000 in
set_option maxRecDepth 100000 in
theorem verS (h : Own R w0 w []) (P Q G Y X r s g c d0 d1 : Nat) (HK : KeyN P Q G Y X) (hr : r < 4294967296) (hs : s < 4294967296) (h0 : d0 < 256) (h1 : d1 < 256) (hRg : R g)
    (c0 : w.cell? ⟨g, 0, .none⟩ = some (.int .u8 d0)) (c1 : w.cell? ⟨g, 1, .none⟩ = some (.int .u8 d1)) :
    Calls Tryz.prog 37 #[.agg #[.int .i64 P, .int .i64 Q, .int .i64 G, .int .i64 Y, .int .i64 X], .slice (some ⟨g, 0, .none⟩) 2 c, .int .i64 r, .int .i64 s] w (fun e w' => e = .returned (.bool (verB P Q G Y (d0 * 256 + d1) r s)) ∧ Own R w0 w' []) := by
  have b0 := h.box (.cells #[.int .i64 P, .int .i64 Q, .int .i64 G, .int .i64 Y, .int .i64 X] 68)
  have n0 := heap_alloc_new w (.cells #[.int .i64 P, .int .i64 Q, .int .i64 G, .int .i64 Y, .int .i64 X] 68)
  have hk := (h.since.box (.cells #[.int .i64 P, .int .i64 Q, .int .i64 G, .int .i64 Y, .int .i64 X] 68)).kept
  have x0 := hk.cell hRg c0
  have x1 := hk.cell hRg c1
  have p0 := block_cell (k := 0) n0 rfl
  have p1 := block_cell (k := 1) n0 rfl
  have p2 := block_cell (k := 2) n0 rfl
  have p3 := block_cell (k := 3) n0 rfl
  have HO := Lib.hid b0
  clear b0 n0 hk c0 c1 h
  have N := Lib.hid HK
  clear HK
  rcases Nat.lt_or_ge r 1 with r1 | r1
  · have hd : verB P Q G Y (d0 * 256 + d1) r s = false := decide_eq_false (fun h => by omega)
    rw [hd]
    obtain rfl : r = 0 := by omega
    clear hd r1 hr hs
    go_enter Tryz.func37, Tryz.ntmps37
    go_wp2_with fail
    go_ret
    exact ⟨rfl, HO.out⟩
  rcases Nat.lt_or_ge r Q with rq | rq
  case inr =>
    have hd : verB P Q G Y (d0 * 256 + d1) r s = false := decide_eq_false (fun h => by omega)
    rw [hd]
    clear hd hr hs
    go_enter Tryz.func37, Tryz.ntmps37
    go_wp2_with fail
    go_ret
    exact ⟨rfl, HO.out⟩
  rcases Nat.lt_or_ge s 1 with s1 | s1
  · have hd : verB P Q G Y (d0 * 256 + d1) r s = false := decide_eq_false (fun h => by omega)
    rw [hd]
    obtain rfl : s = 0 := by omega
    clear hd s1 hr hs
    go_enter Tryz.func37, Tryz.ntmps37
    go_wp2_with fail
    go_ret
    exact ⟨rfl, HO.out⟩
  rcases Nat.lt_or_ge s Q with sq | sq
  case inr =>
    have hd : verB P Q G Y (d0 * 256 + d1) r s = false := decide_eq_false (fun h => by omega)
    rw [hd]
    clear hd hr hs
    go_enter Tryz.func37, Tryz.ntmps37
    go_wp2_with fail
    go_ret
    exact ⟨rfl, HO.out⟩
  have VN := VerN.of (z := d0 * 256 + d1) N.out (by omega) r1 rq s1 sq
  obtain ⟨d, hd⟩ : ∃ d, d = verB P Q G Y (d0 * 256 + d1) r s := ⟨_, rfl⟩
  rw [← hd]
  obtain ⟨z, hz⟩ : ∃ z : Nat, z = d0 * 256 + d1 := ⟨_, rfl⟩
  have HL := Lib.hid (show ∀ n, Calls Tryz.prog 86 #[.slice (some ⟨g, 0, .none⟩) 2 c] ((w.alloc (.cells #[.int .i64 P, .int .i64 Q, .int .i64 G, .int .i64 Y, .int .i64 X] 68)).drewN n) (fun e w'' => e = .returned (.int .i64 ((d0 * 256 + d1 : Nat) : Int)) ∧ ∃ m, w'' = (w.alloc (.cells #[.int .i64 P, .int .i64 Q, .int .i64 G, .int .i64 Y, .int .i64 X] 68)).drewN m) from fun n => (leftmostS g c d0 d1 ((w.alloc (.cells #[.int .i64 P, .int .i64 Q, .int .i64 G, .int .i64 Y, .int .i64 X] 68)).drewN n) h0 h1 ((Kept.drew R _ n).cell hRg x0) ((Kept.drew R _ n).cell hRg x1)).mono (fun _ _ ⟨he, hw⟩ => ⟨he, n, hw⟩))
  rw [← hz] at VN hd HL
  have hz16 : z < 65536 := by omega
  have hp31 := N.out.p31
  have hQP := N.out.qp
  have hQ16 := N.out.q16
  have hQ0 : 0 < Q := VN.q0
  have hP0 : 0 < P := VN.p0
  obtain ⟨iv, hiv⟩ : ∃ iv, iv = invQ s Q := ⟨_, rfl⟩
  have ivQ : iv < Q := by rw [hiv]; exact invQ_lt N.out.q
  have HI := Lib.hid (show ∀ w, Calls Tryz.prog 85 #[.int .i64 s, .int .i64 Q] w (fun e w' => e = .returned (.int .i64 (iv : Int)) ∧ w' = w) from fun w => by
    have := invI (s : Int) Q w N.out.q.1 (by omega)
    rwa [show ((s : Int) % (Q : Int)).toNat = s by rw [← Int.natCast_emod, Int.toNat_natCast, Nat.mod_eq_of_lt sq], show s ^ (Q - 2) % Q = iv from hiv.symm] at this)
  obtain ⟨zi, hzi⟩ : ∃ zi, zi = z * iv := ⟨_, rfl⟩
  obtain ⟨ri, hri⟩ : ∃ ri, ri = r * iv := ⟨_, rfl⟩
  have zil : zi ≤ 65536 * 65536 := by rw [hzi]; exact Nat.mul_le_mul (by omega) (by omega)
  have ril : ri ≤ 65536 * 65536 := by rw [hri]; exact Nat.mul_le_mul (by omega) (by omega)
  have m1 : IntKind.i64.wrap ((z : Int) * iv) = (zi : Int) := by rw [← Int.natCast_mul, ← hzi]; exact wraps_i64 _ (by omega) (Int.lt_of_le_of_lt (b := 4294967296) (by omega) (by decide))
  have m1' : wrap64 ((z : Int) * iv) = (zi : Int) := by rw [← Int.natCast_mul, ← hzi]; exact wrapD (by omega)
  obtain ⟨u, hu⟩ : ∃ u, u = zi % Q := ⟨_, rfl⟩
  obtain ⟨t, ht⟩ : ∃ t, t = ri % Q := ⟨_, rfl⟩
  have uQ : u < Q := by rw [hu]; exact Nat.mod_lt _ hQ0
  have tQ : t < Q := by rw [ht]; exact Nat.mod_lt _ hQ0
  have HM := Lib.hid (show ∀ w, Calls Tryz.prog 79 #[.int .i64 (zi : Int), .int .i64 Q] w (fun e w' => e = .returned (.int .i64 (u : Int)) ∧ w' = w) from fun w => by
    have := modI (zi : Int) Q w hQ0 (by omega)
    rwa [← Int.natCast_emod, ← hu] at this)
  have m2 : IntKind.i64.wrap ((r : Int) * iv) = (ri : Int) := by rw [← Int.natCast_mul, ← hri]; exact wraps_i64 _ (by omega) (Int.lt_of_le_of_lt (b := 4294967296) (by omega) (by decide))
  have m2' : wrap64 ((r : Int) * iv) = (ri : Int) := by rw [← Int.natCast_mul, ← hri]; exact wrapD (by omega)
  have m3 : (ri : Int).tmod (Q : Int) = (t : Int) := by rw [ht]; rfl
  obtain ⟨a, ha⟩ : ∃ a, a = G ^ u % P := ⟨_, rfl⟩
  obtain ⟨bb, hbb⟩ : ∃ bb, bb = Y ^ t % P := ⟨_, rfl⟩
  have aP : a < P := by rw [ha]; exact Nat.mod_lt _ hP0
  have bP : bb < P := by rw [hbb]; exact Nat.mod_lt _ hP0
  have hYP : Y < P := by rw [N.out.y]; exact Nat.mod_lt _ hP0
  have HG := Lib.hid (show ∀ w, Calls Tryz.prog 32 #[.int .i64 G, .int .i64 (u : Int), .int .i64 P] w (fun e w' => e = .returned (.int .i64 (a : Int)) ∧ w' = w) from fun w => by
    have := powI (G : Int) u P w hP0 (by omega) (by omega)
    rwa [show ((G : Int) % (P : Int)).toNat = G by rw [← Int.natCast_emod, Int.toNat_natCast, Nat.mod_eq_of_lt N.out.gp], ← ha] at this)
  have HY := Lib.hid (show ∀ w, Calls Tryz.prog 32 #[.int .i64 Y, .int .i64 (t : Int), .int .i64 P] w (fun e w' => e = .returned (.int .i64 (bb : Int)) ∧ w' = w) from fun w => by
    have := powI (Y : Int) t P w hP0 (by omega) (by omega)
    rwa [show ((Y : Int) % (P : Int)).toNat = Y by rw [← Int.natCast_emod, Int.toNat_natCast, Nat.mod_eq_of_lt hYP], ← hbb] at this)
  obtain ⟨ab, hab⟩ : ∃ ab, ab = a * bb := ⟨_, rfl⟩
  have abl : ab ≤ 2147483648 * 2147483648 := by rw [hab]; exact Nat.mul_le_mul (by omega) (by omega)
  have m4 : IntKind.i64.wrap ((a : Int) * bb) = (ab : Int) := by rw [← Int.natCast_mul, ← hab]; exact wraps_i64 _ (by omega) (Int.lt_of_le_of_lt (b := 4611686018427387904) (by omega) (by decide))
  have m4' : wrap64 ((a : Int) * bb) = (ab : Int) := by rw [← Int.natCast_mul, ← hab]; exact wrapD (by omega)
  obtain ⟨abp, habp⟩ : ∃ abp, abp = ab % P := ⟨_, rfl⟩
  have m5 : (ab : Int).tmod (P : Int) = (abp : Int) := by rw [habp]; rfl
  obtain ⟨v, hv⟩ : ∃ v, v = abp % Q := ⟨_, rfl⟩
  have m6 : (abp : Int).tmod (Q : Int) = (v : Int) := by rw [hv]; rfl
  have hb : ((v : Int) == (r : Int)) = d := by
    rw [hd]
    unfold verB
    rw [← hiv, ← hzi, ← hri, ← hu, ← ht, ← ha, ← hbb, ← hab, ← habp, ← hv]
    rw [show ((v : Int) == (r : Int)) = decide ((v : Int) = (r : Int)) from rfl]
    exact decide_eq_decide.2 ⟨fun h => ⟨r1, rq, s1, sq, Int.ofNat_inj.1 h⟩, fun h => by rw [h.2.2.2.2]⟩
  have pz : ¬ P = 0 := by omega
  have qz : ¬ Q = 0 := by omega
  have hrl : ¬ (r : Int) < 1 := by omega
  have hsl : ¬ (s : Int) < 1 := by omega
  have hrq : ¬ (Q : Int) ≤ (r : Int) := by omega
  have hsq : ¬ (Q : Int) ≤ (s : Int) := by omega
  clear hd hz hz16 hp31 hQP hQ16 hQ0 hP0 hiv ivQ hzi hri zil ril hu ht uQ tQ ha hbb aP bP hYP hab abl habp hv VN r1 rq s1 sq hr hs h0 h1 x0 x1
  go_enter Tryz.func37, Tryz.ntmps37
  go_wp2_with fail
  refine (HI.out _).mono ?_
  rintro en wq ⟨rfl, rfl⟩
  clear HI
  go_upto_region 4 with fail
  refine wp_region_quiet_lit (by kernel_rfl) (by kernel_rfl) ?_
  iterate 1 (quiet_step (fail))
  quiet_step ((go_at_call 86; exact HL.out _))
  iterate 4 (quiet_step (fail))
  quiet_step ((go_at_call 79; exact quietD HM.out _ _))
  repeat (quiet_step (fail))
  refine wpQuiet_nil ?_
  intro _ hw'
  obtain ⟨nq, hw''⟩ := hw'
  subst hw''
  clear HL HM
  go_upto_region 5 with fail
  refine wp_region_quiet_lit (by kernel_rfl) (by kernel_rfl) ?_
  iterate 5 (quiet_step (fail))
  quiet_step ((go_at_call 32; exact quietE HG.out _ _ _))
  iterate 5 (quiet_step (fail))
  quiet_step ((go_at_call 32; exact quietE HY.out _ _ _))
  repeat (quiet_step (fail))
  refine wpQuiet_nil ?_
  intro _ hw'
  obtain ⟨nq2, hw''⟩ := hw'
  subst hw''
  go_wp2_with fail
  go_ret
  exact ⟨rfl, (HO.out.drew nq).drew nq2⟩
end
end Go.Proofs.YtohhkjamddojmaaGreatDoor.Big
