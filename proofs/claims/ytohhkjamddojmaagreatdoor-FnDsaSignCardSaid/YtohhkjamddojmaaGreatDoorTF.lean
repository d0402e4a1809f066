/- To a twist and back, from the parameters on. The closures that go to a twist and back. -/
import Derived.Test.YtohhkjamddojmaaGreatDoorTwE
namespace Go.Proofs.YtohhkjamddojmaaGreatDoor.Big
open Go.RowKit
attribute [local go_sem] ptr

theorem sz350 {n : Nat} (h : n < B64) : Sz 350 (n : Int) := (show Sz 64 (n : Int) by unfold Sz; unfold B64 at h; omega).le (by decide)
theorem divOK_nat {p : Nat} (h : p < B64) (h0 : 0 < p) : DivOK (p : Int).natAbs := by
  rw [Int.natAbs_natCast]
  exact DivOK.word (by rw [dg_one h]; unfold word1; rw [if_neg (by omega)]; rfl)
theorem block_cell {w : World} {b k : Nat} {cs : Array Value} {T : TypeId} {v : Value} (h : w.heap[b]? = some (.cells cs T)) (hk : cs[k]? = some v) : w.cell? ⟨b, k, .none⟩ = some v := by
  unfold World.cell?
  rw [h]
  exact hk
attribute [local irreducible] Sz

section
variable {R : Nat → Prop} {w0 w w' : World} {L L' : List (Nat × Int)}

set_option maxHeartbeats 4000000 in
set_option maxRecDepth 100000 in
theorem zzTo (h : Own R w0 w L) (c zg x y P ig ix iy iP g X Y p : Nat) (hcP : w.cell? ⟨c, 0, .none⟩ = some (ptr P)) (hRc : R c) (hg : L[ig]? = some (zg, (g : Int))) (hx : L[ix]? = some (x, (X : Int))) (hy : L[iy]? = some (y, (Y : Int))) (hP : L[iP]? = some (P, (p : Int)))
    (g0 : 0 < g) (gp : g < p) (p2 : 2 ≤ p) (pB : p < B64) (hgc : Int.gcd g p = 1) (hX : X < p) (hY : Y < p) :
    Calls Tryz.prog 76 #[ptr c, ptr zg, ptr x, ptr y] w (fun e w' => ∃ (tx ty t : Nat) (M : List (Nat × Int)), e = .returned (.tuple #[ptr tx, ptr ty]) ∧ Own R w0 w' ((ty, ((Y * (g ^ 3 % p) % p : Nat) : Int)) :: (tx, ((X * (g ^ 2 % p) % p : Nat) : Int)) :: M) ∧ t < p ∧ (p : Int) ∣ t * g - 1) := by
  have HN := Lib.hid (newrcurveN h.since c zg P ig iP g p hcP hRc hg hP g0 gp p2 pB hgc)
  have HS := Lib.hid h
  have HX := Lib.hid hx
  have HY := Lib.hid hy
  have HPP := Lib.hid hP
  have HRC := Lib.hid hRc
  have HCP := Lib.hid hcP
  have PB := Lib.hid pB
  have XP := Lib.hid hX
  have YP := Lib.hid hY
  have P2 := Lib.hid p2
  clear h hcP hRc hg hx hy hP g0 gp p2 pB hgc hX hY
  unfold ptr at *
  go_enter Tryz.func76, Tryz.ntmps76
  go_wp2_with fail
  refine HN.out.mono ?_
  rintro e w1 ⟨rc, n1, n2, n3, n4, zi, t, rfl, hh, hO, hG, ht, htd⟩
  have HH := Lib.hid hh
  have HO := Lib.hid hO
  have HTT := Lib.hid (And.intro ht htd)
  have hp0 : 0 < p := by have := P2.out; omega
  have lt1 : ∀ n, n % p < B64 := fun n => Nat.lt_trans (Nat.mod_lt _ hp0) PB.out
  have C := toTwistedO hG rc c n1 n2 x y P (ix + 4) (iy + 4) 3 2 (iP + 4) (X : Int) (Y : Int) ((g ^ 2 % p : Nat) : Int) ((g ^ 3 % p : Nat) : Int) (p : Int) (block_cell hh rfl) (block_cell hh rfl) (block_cell hh rfl) (hO.keep HCP.out HRC.out) (RO.self _ _) (RO.left HRC.out)
    HX.out HY.out rfl rfl HPP.out (sz350 (Nat.lt_trans XP.out PB.out)) (sz350 (Nat.lt_trans YP.out PB.out)) (sz350 (lt1 _)) (sz350 (lt1 _)) ((sz350 PB.out).le (by decide)) (divOK_nat PB.out hp0) (by omega)
  have HC := Lib.hid C
  clear hh hO hG ht htd C hp0 lt1 HN
  go_wp2_with fail
  refine HC.out.mono ?_
  rintro e w2 ⟨tx, ty, rfl, hT, -, -⟩
  have hU := Own.unguard HO.out HH.out (by intro _ _ _ _ e; simp at e) hT
  have HU := Lib.hid (HS.out.after hU)
  clear hT hU
  go_wp2_with fail
  go_ret2
  exact ⟨tx, ty, t, _, rfl, HU.out, HTT.out⟩

set_option maxHeartbeats 4000000 in
set_option maxRecDepth 100000 in
theorem zzFrom (h : Own R w0 w L) (c zg x y P ig ix iy iP g X Y p : Nat) (hcP : w.cell? ⟨c, 0, .none⟩ = some (ptr P)) (hRc : R c) (hg : L[ig]? = some (zg, (g : Int))) (hx : L[ix]? = some (x, (X : Int))) (hy : L[iy]? = some (y, (Y : Int))) (hP : L[iP]? = some (P, (p : Int)))
    (g0 : 0 < g) (gp : g < p) (p2 : 2 ≤ p) (pB : p < B64) (hgc : Int.gcd g p = 1) (hX : X < p) (hY : Y < p) :
    Calls Tryz.prog 81 #[ptr c, ptr zg, ptr x, ptr y] w (fun e w' => ∃ (tx ty t : Nat) (M : List (Nat × Int)), e = .returned (.tuple #[ptr tx, ptr ty]) ∧ Own R w0 w' ((ty, ((Y * (t ^ 3 % p) % p : Nat) : Int)) :: (tx, ((X * (t ^ 2 % p) % p : Nat) : Int)) :: M) ∧ t < p ∧ (p : Int) ∣ t * g - 1) := by
  have HN := Lib.hid (newrcurveN h.since c zg P ig iP g p hcP hRc hg hP g0 gp p2 pB hgc)
  have HS := Lib.hid h
  have HX := Lib.hid hx
  have HY := Lib.hid hy
  have HPP := Lib.hid hP
  have HRC := Lib.hid hRc
  have HCP := Lib.hid hcP
  have PB := Lib.hid pB
  have XP := Lib.hid hX
  have YP := Lib.hid hY
  have P2 := Lib.hid p2
  clear h hcP hRc hg hx hy hP g0 gp p2 pB hgc hX hY
  unfold ptr at *
  go_enter Tryz.func81, Tryz.ntmps81
  go_wp2_with fail
  refine HN.out.mono ?_
  rintro e w1 ⟨rc, n1, n2, n3, n4, zi, t, rfl, hh, hO, hG, ht, htd⟩
  have HH := Lib.hid hh
  have HO := Lib.hid hO
  have HTT := Lib.hid (And.intro ht htd)
  have hp0 : 0 < p := by have := P2.out; omega
  have lt1 : ∀ n, n % p < B64 := fun n => Nat.lt_trans (Nat.mod_lt _ hp0) PB.out
  have C := fromTwistedO hG rc c n3 n4 x y P (ix + 4) (iy + 4) 1 0 (iP + 4) (X : Int) (Y : Int) ((t ^ 2 % p : Nat) : Int) ((t ^ 3 % p : Nat) : Int) (p : Int) (block_cell hh rfl) (block_cell hh rfl) (block_cell hh rfl) (hO.keep HCP.out HRC.out) (RO.self _ _) (RO.left HRC.out)
    HX.out HY.out rfl rfl HPP.out (sz350 (Nat.lt_trans XP.out PB.out)) (sz350 (Nat.lt_trans YP.out PB.out)) (sz350 (lt1 _)) (sz350 (lt1 _)) ((sz350 PB.out).le (by decide)) (divOK_nat PB.out hp0) (by omega)
  have HC := Lib.hid C
  clear hh hO hG ht htd C hp0 lt1 HN
  go_wp2_with fail
  refine HC.out.mono ?_
  rintro e w2 ⟨tx, ty, rfl, hT, -, -⟩
  have hU := Own.unguard HO.out HH.out (by intro _ _ _ _ e; simp at e) hT
  have HU := Lib.hid (HS.out.after hU)
  clear hT hU
  go_wp2_with fail
  go_ret2
  exact ⟨tx, ty, t, _, rfl, HU.out, HTT.out⟩
end
end Go.Proofs.YtohhkjamddojmaaGreatDoor.Big

namespace Go.Proofs.YtohhkjamddojmaaGreatDoor.Big
open Go.RowKit
attribute [local go_sem] ptr
attribute [local irreducible] Sz

theorem Kept.ro {R : Nat → Prop} {c : Nat} {w w' : World} (h : Kept (RO R c) w w') : Kept R w w' := h.weaken (fun _ _ hn => RO.no hn)
section
variable {R : Nat → Prop} {w0 w w' : World} {L L' : List (Nat × Int)}

set_option maxHeartbeats 8000000 in
set_option maxRecDepth 100000 in
theorem twistTo1 (h : Own R w0 w L) (b0 b1 b2 p b z X Y : Nat) (hc0 : w.cell? ⟨b0, 0, .none⟩ = some (.int .i64 (p : Nat))) (hc1 : w.cell? ⟨b0, 1, .none⟩ = some (.int .i64 (b : Nat))) (hc2 : w.cell? ⟨b0, 2, .none⟩ = some (.int .i64 (z : Nat))) (hc3 : w.cell? ⟨b1, 0, .none⟩ = some (.int .i64 (X : Nat))) (hc4 : w.cell? ⟨b2, 0, .none⟩ = some (.int .i64 (Y : Nat))) (hR0 : R b0) (hR1 : R b1) (hR2 : R b2)
    (z0 : 0 < z) (zp : z < p) (bp : b < p) (p2 : 2 ≤ p) (p63 : p < 9223372036854775808) (hgc : Int.gcd z p = 1) (hX : X < p) (hY : Y < p) :
    Calls Tryz.prog 75 #[ptr b0, ptr b1, ptr b2] w (fun e w' => ∃ (tx ty t : Nat) (M : List (Nat × Int)), e = .returned (.tuple #[ptr tx, ptr ty]) ∧ Own R w0 w' ((ty, ((Y * (z ^ 3 % p) % p : Nat) : Int)) :: (tx, ((X * (z ^ 2 % p) % p : Nat) : Int)) :: M) ∧ t < p ∧ (p : Int) ∣ t * z - 1) := by
  have HS0 := Lib.hid h.since
  have HSS := Lib.hid h
  have K5 := Lib.hid (fun (w' : World) (k : Kept R w w') => (⟨k.cell hR0 hc0, k.cell hR0 hc1, k.cell hR0 hc2, k.cell hR1 hc3, k.cell hR2 hc4⟩ : w'.cell? ⟨b0, 0, .none⟩ = some (.int .i64 (p : Nat)) ∧ w'.cell? ⟨b0, 1, .none⟩ = some (.int .i64 (b : Nat)) ∧ w'.cell? ⟨b0, 2, .none⟩ = some (.int .i64 (z : Nat)) ∧ w'.cell? ⟨b1, 0, .none⟩ = some (.int .i64 (X : Nat)) ∧ w'.cell? ⟨b2, 0, .none⟩ = some (.int .i64 (Y : Nat))))
  have P63 := Lib.hid p63
  have Z63 := Lib.hid (Nat.lt_trans zp p63)
  have B63 := Lib.hid (Nat.lt_trans bp p63)
  have X63 := Lib.hid (Nat.lt_trans hX p63)
  have Y63 := Lib.hid (Nat.lt_trans hY p63)
  have G0 := Lib.hid z0
  have GP := Lib.hid zp
  have P2 := Lib.hid p2
  have PB := Lib.hid (Nat.lt_trans p63 (by decide : 9223372036854775808 < B64))
  have GC := Lib.hid hgc
  have XP := Lib.hid hX
  have YP := Lib.hid hY
  clear h hR0 hR1 hR2 z0 zp bp p2 p63 hgc hX hY
  unfold ptr at *
  go_enter Tryz.func75, Tryz.ntmps75
  go_wp2_with fail
  go_region_held3 (fun w' => w'.cell? ⟨b0, 0, .none⟩ = some (.int .i64 (p : Nat)) ∧ w'.cell? ⟨b0, 1, .none⟩ = some (.int .i64 (b : Nat)) ∧ w'.cell? ⟨b0, 2, .none⟩ = some (.int .i64 (z : Nat)) ∧ w'.cell? ⟨b1, 0, .none⟩ = some (.int .i64 (X : Nat)) ∧ w'.cell? ⟨b2, 0, .none⟩ = some (.int .i64 (Y : Nat))) (go_keep) (first | (go_at_call 76; refine (zzTo H4.out.1 c pz px py pP 2 1 0 4 z X Y p (H4.out.1.keep HCC.out (RO.self _ _)) (RO.self _ _) rfl rfl rfl rfl G0.out GP.out P2.out PB.out GC.out XP.out YP.out).mono ?_; rintro en w5 ⟨tx, ty, t, M, rfl, h5, h5t⟩; obtain ⟨q0, q1, q2, q3, q4⟩ := K5.out _ (HK1.out.trans h5.kept.ro); have H5 := Lib.hid (And.intro h5 h5t); clear h5 h5t) | (go_at_call 78; refine (numO H3.out Y Y63.out).mono ?_; rintro en w4 ⟨py, rfl, h4, hr4⟩; obtain ⟨q0, q1, q2, q3, q4⟩ := K5.out _ (HK1.out.trans h4.kept.ro); have H4 := Lib.hid (And.intro h4 hr4); clear h4 hr4) | (go_at_call 78; refine (numO H2.out X X63.out).mono ?_; rintro en w3 ⟨px, rfl, h3, hr3⟩; obtain ⟨q0, q1, q2, q3, q4⟩ := K5.out _ (HK1.out.trans h3.kept.ro); have H3 := Lib.hid h3; clear h3 hr3) | (go_at_call 78; refine (numO H1.out z Z63.out).mono ?_; rintro en w2 ⟨pz, rfl, h2, hr2⟩; obtain ⟨q0, q1, q2, q3, q4⟩ := K5.out _ (HK1.out.trans h2.kept.ro); have H2 := Lib.hid h2; clear h2 hr2) | (go_at_call 77; refine (paramsO (HS0.out.drew 1) p b z P63.out B63.out).mono ?_; rintro en w1 ⟨c, pP, pB, rfl, hu1, hG1, nP, nB, hheap⟩; obtain ⟨q0, q1, q2, q3, q4⟩ := K5.out _ hu1.kept; have H1 := Lib.hid hG1; have HK1 := Lib.hid hu1.kept; have HU1 := Lib.hid hu1; have HHP := Lib.hid hheap; have HCC := Lib.hid (block_cell (k := 0) hheap rfl); clear hu1 hG1 nP nB hheap))
  all_goals
    go_wp2_with fail
    go_ret2
    have hU := Own.unguard HU1.out HHP.out (by intro _ _ _ _ e; simp at e) H5.out.1
    exact ⟨tx, ty, t, M, rfl, HSS.out.after hU, H5.out.2⟩

set_option maxHeartbeats 8000000 in
set_option maxRecDepth 100000 in
theorem twistFrom1 (h : Own R w0 w L) (b0 b1 b2 p b z X Y : Nat) (hc0 : w.cell? ⟨b0, 0, .none⟩ = some (.int .i64 (p : Nat))) (hc1 : w.cell? ⟨b0, 1, .none⟩ = some (.int .i64 (b : Nat))) (hc2 : w.cell? ⟨b0, 2, .none⟩ = some (.int .i64 (z : Nat))) (hc3 : w.cell? ⟨b1, 0, .none⟩ = some (.int .i64 (X : Nat))) (hc4 : w.cell? ⟨b2, 0, .none⟩ = some (.int .i64 (Y : Nat))) (hR0 : R b0) (hR1 : R b1) (hR2 : R b2)
    (z0 : 0 < z) (zp : z < p) (bp : b < p) (p2 : 2 ≤ p) (p63 : p < 9223372036854775808) (hgc : Int.gcd z p = 1) (hX : X < p) (hY : Y < p) :
    Calls Tryz.prog 80 #[ptr b0, ptr b1, ptr b2] w (fun e w' => ∃ (tx ty t : Nat) (M : List (Nat × Int)), e = .returned (.tuple #[ptr tx, ptr ty]) ∧ Own R w0 w' ((ty, ((Y * (t ^ 3 % p) % p : Nat) : Int)) :: (tx, ((X * (t ^ 2 % p) % p : Nat) : Int)) :: M) ∧ t < p ∧ (p : Int) ∣ t * z - 1) := by
  have HS0 := Lib.hid h.since
  have HSS := Lib.hid h
  have K5 := Lib.hid (fun (w' : World) (k : Kept R w w') => (⟨k.cell hR0 hc0, k.cell hR0 hc1, k.cell hR0 hc2, k.cell hR1 hc3, k.cell hR2 hc4⟩ : w'.cell? ⟨b0, 0, .none⟩ = some (.int .i64 (p : Nat)) ∧ w'.cell? ⟨b0, 1, .none⟩ = some (.int .i64 (b : Nat)) ∧ w'.cell? ⟨b0, 2, .none⟩ = some (.int .i64 (z : Nat)) ∧ w'.cell? ⟨b1, 0, .none⟩ = some (.int .i64 (X : Nat)) ∧ w'.cell? ⟨b2, 0, .none⟩ = some (.int .i64 (Y : Nat))))
  have P63 := Lib.hid p63
  have Z63 := Lib.hid (Nat.lt_trans zp p63)
  have B63 := Lib.hid (Nat.lt_trans bp p63)
  have X63 := Lib.hid (Nat.lt_trans hX p63)
  have Y63 := Lib.hid (Nat.lt_trans hY p63)
  have G0 := Lib.hid z0
  have GP := Lib.hid zp
  have P2 := Lib.hid p2
  have PB := Lib.hid (Nat.lt_trans p63 (by decide : 9223372036854775808 < B64))
  have GC := Lib.hid hgc
  have XP := Lib.hid hX
  have YP := Lib.hid hY
  clear h hR0 hR1 hR2 z0 zp bp p2 p63 hgc hX hY
  unfold ptr at *
  go_enter Tryz.func80, Tryz.ntmps80
  go_wp2_with fail
  go_region_held3 (fun w' => w'.cell? ⟨b0, 0, .none⟩ = some (.int .i64 (p : Nat)) ∧ w'.cell? ⟨b0, 1, .none⟩ = some (.int .i64 (b : Nat)) ∧ w'.cell? ⟨b0, 2, .none⟩ = some (.int .i64 (z : Nat)) ∧ w'.cell? ⟨b1, 0, .none⟩ = some (.int .i64 (X : Nat)) ∧ w'.cell? ⟨b2, 0, .none⟩ = some (.int .i64 (Y : Nat))) (go_keep) (first | (go_at_call 81; refine (zzFrom H4.out.1 c pz px py pP 2 1 0 4 z X Y p (H4.out.1.keep HCC.out (RO.self _ _)) (RO.self _ _) rfl rfl rfl rfl G0.out GP.out P2.out PB.out GC.out XP.out YP.out).mono ?_; rintro en w5 ⟨tx, ty, t, M, rfl, h5, h5t⟩; obtain ⟨q0, q1, q2, q3, q4⟩ := K5.out _ (HK1.out.trans h5.kept.ro); have H5 := Lib.hid (And.intro h5 h5t); clear h5 h5t) | (go_at_call 78; refine (numO H3.out Y Y63.out).mono ?_; rintro en w4 ⟨py, rfl, h4, hr4⟩; obtain ⟨q0, q1, q2, q3, q4⟩ := K5.out _ (HK1.out.trans h4.kept.ro); have H4 := Lib.hid (And.intro h4 hr4); clear h4 hr4) | (go_at_call 78; refine (numO H2.out X X63.out).mono ?_; rintro en w3 ⟨px, rfl, h3, hr3⟩; obtain ⟨q0, q1, q2, q3, q4⟩ := K5.out _ (HK1.out.trans h3.kept.ro); have H3 := Lib.hid h3; clear h3 hr3) | (go_at_call 78; refine (numO H1.out z Z63.out).mono ?_; rintro en w2 ⟨pz, rfl, h2, hr2⟩; obtain ⟨q0, q1, q2, q3, q4⟩ := K5.out _ (HK1.out.trans h2.kept.ro); have H2 := Lib.hid h2; clear h2 hr2) | (go_at_call 77; refine (paramsO (HS0.out.drew 1) p b z P63.out B63.out).mono ?_; rintro en w1 ⟨c, pP, pB, rfl, hu1, hG1, nP, nB, hheap⟩; obtain ⟨q0, q1, q2, q3, q4⟩ := K5.out _ hu1.kept; have H1 := Lib.hid hG1; have HK1 := Lib.hid hu1.kept; have HU1 := Lib.hid hu1; have HHP := Lib.hid hheap; have HCC := Lib.hid (block_cell (k := 0) hheap rfl); clear hu1 hG1 nP nB hheap))
  all_goals
    go_wp2_with fail
    go_ret2
    have hU := Own.unguard HU1.out HHP.out (by intro _ _ _ _ e; simp at e) H5.out.1
    exact ⟨tx, ty, t, M, rfl, HSS.out.after hU, H5.out.2⟩
end
end Go.Proofs.YtohhkjamddojmaaGreatDoor.Big
