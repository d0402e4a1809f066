/- IsSum of the specification, where it holds. The law FnNamedDouble. -/
import Derived.Test.YtohhkjamddojmaaGreatDoorBR
import Derived.Test.YtohhkjamddojmaaGreatDoorQV
set_option maxHeartbeats 16000000
namespace Go.Proofs.YtohhkjamddojmaaGreatDoor.Bit
open Go.RowKit
open Big
theorem addE {w : World} {f u v : Value} {P a b n : Nat} (hn : n = fa P a b) (hP : Fd P) (hf : Dg w f P) (hu : Dg w u a) (hv : Dg w v b) (ha : a < P) (hb : b < P) : Calls Tryz.prog 65 #[.agg #[f], u, v] w (DgP n w) := hn ▸ addF hP hf hu hv ha hb
theorem subE {w : World} {f u v : Value} {P a b n : Nat} (hn : n = fs P a b) (hP : Fd P) (hf : Dg w f P) (hu : Dg w u a) (hv : Dg w v b) (ha : a < P) (hb : b < P) : Calls Tryz.prog 63 #[.agg #[f], u, v] w (DgP n w) := hn ▸ subF hP hf hu hv ha (Nat.le_of_lt hb)
theorem mulE {w : World} {f u v : Value} {P a b n : Nat} (hn : n = fm P a b) (hP : Fd P) (hf : Dg w f P) (hu : Dg w u a) (hv : Dg w v b) (ha : a < P) (hb : b < P) : Calls Tryz.prog 64 #[.agg #[f], u, v] w (DgP n w) := hn ▸ mulF hP hf hu hv ha hb
theorem eqD {w : World} {u v : Value} {n m : Nat} (he : n = m) (hu : Dg w u n) (hv : Dg w v m) : Calls Tryz.prog 22 #[u, v] w (fun e w' => e = .returned (.int .i64 0) ∧ w.grownBy w' .none) := by
 subst he
 obtain ⟨p, c, rfl, r⟩ := hu
 obtain ⟨p2, c2, rfl, r2⟩ := hv
 refine (compareS p p2 c c2 n n w r r2).mono ?_
 rintro e w' ⟨rfl, d, rfl⟩
 rw [sgn_eq1]
 exact ⟨rfl, zzz w d .none⟩
set_option maxRecDepth 100000 in
theorem isSumT {w : World} {f va vx1 vy1 vx2 vy2 vx3 vy3 : Value} {P A x1 y1 x2 y2 x3 y3 : Nat} (hP : Fd P) (hf : Dg w f P) (dA : Dg w va A) (dx1 : Dg w vx1 x1) (dy1 : Dg w vy1 y1) (dx2 : Dg w vx2 x2) (dy2 : Dg w vy2 y2) (dx3 : Dg w vx3 x3) (dy3 : Dg w vy3 y3) (lA : A < P) (lx1 : x1 < P) (ly1 : y1 < P) (lx2 : x2 < P) (ly2 : y2 < P) (lx3 : x3 < P) (ly3 : y3 < P) (hs : isSum P A x1 y1 x2 y2 x3 y3 true = true) :
 Calls Tryz.prog 21 #[.agg #[f], va, vx1, vy1, vx2, vy2, vx3, vy3, .bool true] w (fun e w' => e = .returned (.bool true) ∧ w.grownBy w' .none) := by
 obtain ⟨n1, hn1⟩ : ∃ n, n = fs P y2 y1 := ⟨_, rfl⟩
 obtain ⟨n2, hn2⟩ : ∃ n, n = fs P x2 x1 := ⟨_, rfl⟩
 obtain ⟨n3, hn3⟩ : ∃ n, n = fm P x1 x1 := ⟨_, rfl⟩
 obtain ⟨n4, hn4⟩ : ∃ n, n = fa P n3 n3 := ⟨_, rfl⟩
 obtain ⟨n5, hn5⟩ : ∃ n, n = fa P n4 n3 := ⟨_, rfl⟩
 obtain ⟨n6, hn6⟩ : ∃ n, n = fa P n5 A := ⟨_, rfl⟩
 obtain ⟨n7, hn7⟩ : ∃ n, n = fa P y1 y1 := ⟨_, rfl⟩
 obtain ⟨m1, hm1⟩ : ∃ n, n = fa P x1 x2 := ⟨_, rfl⟩
 obtain ⟨m2, hm2⟩ : ∃ n, n = fa P m1 x3 := ⟨_, rfl⟩
 obtain ⟨m3, hm3⟩ : ∃ n, n = fm P n7 n7 := ⟨_, rfl⟩
 obtain ⟨m4, hm4⟩ : ∃ n, n = fm P m2 m3 := ⟨_, rfl⟩
 obtain ⟨m5, hm5⟩ : ∃ n, n = fm P n6 n6 := ⟨_, rfl⟩
 obtain ⟨k1, hk1⟩ : ∃ n, n = fa P y1 y3 := ⟨_, rfl⟩
 obtain ⟨k2, hk2⟩ : ∃ n, n = fm P k1 n7 := ⟨_, rfl⟩
 obtain ⟨k3, hk3⟩ : ∃ n, n = fs P x1 x3 := ⟨_, rfl⟩
 obtain ⟨k4, hk4⟩ : ∃ n, n = fm P n6 k3 := ⟨_, rfl⟩
 have hE : m4 = m5 ∧ k2 = k4 := by
  unfold isSum at hs
  simp only [if_true, Bool.and_eq_true, beq_iff_eq] at hs
  subst hk4 hk3 hk2 hk1 hm5 hm4 hm3 hm2 hm1 hn7 hn6 hn5 hn4 hn3 hn2 hn1
  exact hs
 have HE := Lz hE
 have HN := Lz (show n1 = fs P y2 y1 ∧ n2 = fs P x2 x1 ∧ n3 = fm P x1 x1 ∧ n4 = fa P n3 n3 ∧ n5 = fa P n4 n3 ∧ n6 = fa P n5 A ∧ n7 = fa P y1 y1 ∧ m1 = fa P x1 x2 ∧ m2 = fa P m1 x3 ∧ m3 = fm P n7 n7 ∧ m4 = fm P m2 m3 ∧ m5 = fm P n6 n6 ∧ k1 = fa P y1 y3 ∧ k2 = fm P k1 n7 ∧ k3 = fs P x1 x3 ∧ k4 = fm P n6 k3 from ⟨hn1, hn2, hn3, hn4, hn5, hn6, hn7, hm1, hm2, hm3, hm4, hm5, hk1, hk2, hk3, hk4⟩)
 have HL := Lz (show A < P ∧ x1 < P ∧ y1 < P ∧ x2 < P ∧ y2 < P ∧ x3 < P ∧ y3 < P ∧ n1 < P ∧ n2 < P ∧ n3 < P ∧ n4 < P ∧ n5 < P ∧ n6 < P ∧ n7 < P ∧ m1 < P ∧ m2 < P ∧ m3 < P ∧ m4 < P ∧ m5 < P ∧ k1 < P ∧ k2 < P ∧ k3 < P ∧ k4 < P from ⟨lA, lx1, ly1, lx2, ly2, lx3, ly3, by rw [hn1]; exact fs_lt hP.pos, by rw [hn2]; exact fs_lt hP.pos, by rw [hn3]; exact fm_lt hP.pos, by rw [hn4]; exact fa_lt hP.pos, by rw [hn5]; exact fa_lt hP.pos, by rw [hn6]; exact fa_lt hP.pos, by rw [hn7]; exact fa_lt hP.pos, by rw [hm1]; exact fa_lt hP.pos, by rw [hm2]; exact fa_lt hP.pos, by rw [hm3]; exact fm_lt hP.pos, by rw [hm4]; exact fm_lt hP.pos, by rw [hm5]; exact fm_lt hP.pos, by rw [hk1]; exact fa_lt hP.pos, by rw [hk2]; exact fm_lt hP.pos, by rw [hk3]; exact fs_lt hP.pos, by rw [hk4]; exact fm_lt hP.pos⟩)
 have HP := Lz hP
 have n0 := heap_alloc_new w (.cells #[f] 39)
 have G0 := Lz (zzx w (.cells #[f] 39) .none)
 have q0 := zzj (k := 0) n0 rfl
 have CC := Lz (fun (w' : World) (k : (w.alloc (.cells #[f] 39)).grownBy w' .none) => (k.cell q0 (by simp) : w'.cell? ⟨w.heap.size, 0, .none⟩ = some f))
 have DD := Lz (fun (w' : World) (k : (w.alloc (.cells #[f] 39)).grownBy w' .none) => (⟨hf.kept (G0.out.trans k), dA.kept (G0.out.trans k), dx1.kept (G0.out.trans k), dy1.kept (G0.out.trans k), dx2.kept (G0.out.trans k), dy2.kept (G0.out.trans k), dx3.kept (G0.out.trans k), dy3.kept (G0.out.trans k)⟩ : Dg w' f P ∧ Dg w' va A ∧ Dg w' vx1 x1 ∧ Dg w' vy1 y1 ∧ Dg w' vx2 x2 ∧ Dg w' vy2 y2 ∧ Dg w' vx3 x3 ∧ Dg w' vy3 y3))
 obtain ⟨pf, cf, rfl, -⟩ := hf
 obtain ⟨pA, cA, rfl, -⟩ := dA
 obtain ⟨px1, cx1, rfl, -⟩ := dx1
 obtain ⟨py1, cy1, rfl, -⟩ := dy1
 obtain ⟨px2, cx2, rfl, -⟩ := dx2
 obtain ⟨py2, cy2, rfl, -⟩ := dy2
 obtain ⟨px3, cx3, rfl, -⟩ := dx3
 obtain ⟨py3, cy3, rfl, -⟩ := dy3
 clear hP hE hs n0 lA lx1 ly1 lx2 ly2 lx3 ly3 hn1 hn2 hn3 hn4 hn5 hn6 hn7 hm1 hm2 hm3 hm4 hm5 hk1 hk2 hk3 hk4
 go_enter Tryz.func21, Tryz.ntmps21
 go_upto_region 1 with fail
 generalize hw1 : w.alloc (.cells #[.slice pf (bd P).length cf] 39) = w1 at *
 go_region_held3 (fun w' => w'.cell? ⟨w.heap.size, 0, .none⟩ = some (.slice pf (bd P).length cf)) (go_keep) (first | (go_at_call 63; refine (subE HN.out.2.1 HP.out (DD.out _ A1.out.1).1 (DD.out _ A1.out.1).2.2.2.2.1 (DD.out _ A1.out.1).2.2.1 HL.out.2.2.2.1 HL.out.2.1).mono ?_; rintro en u2 ⟨vn2, rfl, en2, gr2⟩; have q0 := CC.out _ ((A1.out.1).trans gr2); have A2 := Lz (And.intro ((A1.out.1).trans gr2) (And.intro (A1.out.2.kept gr2) en2)); obtain ⟨pn2, cn2, rfl, -⟩ := en2; clear gr2) | (go_at_call 63; refine (subE HN.out.1 HP.out (DD.out _ (zzz w1 _ .none)).1 (DD.out _ (zzz w1 _ .none)).2.2.2.2.2.1 (DD.out _ (zzz w1 _ .none)).2.2.2.1 HL.out.2.2.2.2.1 HL.out.2.2.1).mono ?_; rintro en u1 ⟨vn1, rfl, en1, gr1⟩; have q0 := CC.out _ (((zzz w1 _ .none)).trans gr1); have A1 := Lz (And.intro (((zzz w1 _ .none)).trans gr1) en1); obtain ⟨pn1, cn1, rfl, -⟩ := en1; clear gr1))
 go_wp2_with fail
 refine (mulE HN.out.2.2.1 HP.out (DD.out _ (A2.out.1)).1 (DD.out _ (A2.out.1)).2.2.1 (DD.out _ (A2.out.1)).2.2.1 HL.out.2.1 HL.out.2.1).mono ?_
 rintro en u3 ⟨vn3, rfl, en3, gr3⟩
 have q0 := CC.out _ (((A2.out.1)).trans gr3)
 have A3 := Lz (And.intro (((A2.out.1)).trans gr3) (And.intro (A2.out.2.1.kept gr3) (And.intro (A2.out.2.2.kept gr3) en3)))
 obtain ⟨pn3, cn3, rfl, -⟩ := en3
 clear gr3
 go_upto_region 4 with fail
 go_region_held3 (fun w' => w'.cell? ⟨w.heap.size, 0, .none⟩ = some (.slice pf (bd P).length cf)) (go_keep) (first | (go_at_call 65; refine (addE HN.out.2.2.2.2.2.2.1 HP.out (DD.out _ A6.out.1).1 (DD.out _ A6.out.1).2.2.2.1 (DD.out _ A6.out.1).2.2.2.1 HL.out.2.2.1 HL.out.2.2.1).mono ?_; rintro en u7 ⟨vn7, rfl, en7, gr7⟩; have q0 := CC.out _ ((A6.out.1).trans gr7); have A7 := Lz (And.intro ((A6.out.1).trans gr7) (And.intro (A6.out.2.1.kept gr7) (And.intro (A6.out.2.2.1.kept gr7) (And.intro (A6.out.2.2.2.1.kept gr7) (And.intro (A6.out.2.2.2.2.1.kept gr7) (And.intro (A6.out.2.2.2.2.2.1.kept gr7) (And.intro (A6.out.2.2.2.2.2.2.kept gr7) en7))))))); obtain ⟨pn7, cn7, rfl, -⟩ := en7; clear gr7) | (go_at_call 65; refine (addE HN.out.2.2.2.2.2.1 HP.out (DD.out _ A5.out.1).1 A5.out.2.2.2.2.2 (DD.out _ A5.out.1).2.1 HL.out.2.2.2.2.2.2.2.2.2.2.2.1 HL.out.1).mono ?_; rintro en u6 ⟨vn6, rfl, en6, gr6⟩; have q0 := CC.out _ ((A5.out.1).trans gr6); have A6 := Lz (And.intro ((A5.out.1).trans gr6) (And.intro (A5.out.2.1.kept gr6) (And.intro (A5.out.2.2.1.kept gr6) (And.intro (A5.out.2.2.2.1.kept gr6) (And.intro (A5.out.2.2.2.2.1.kept gr6) (And.intro (A5.out.2.2.2.2.2.kept gr6) en6)))))); obtain ⟨pn6, cn6, rfl, -⟩ := en6; clear gr6) | (go_at_call 65; refine (addE HN.out.2.2.2.2.1 HP.out (DD.out _ A4.out.1).1 A4.out.2.2.2.2 A4.out.2.2.2.1 HL.out.2.2.2.2.2.2.2.2.2.2.1 HL.out.2.2.2.2.2.2.2.2.2.1).mono ?_; rintro en u5 ⟨vn5, rfl, en5, gr5⟩; have q0 := CC.out _ ((A4.out.1).trans gr5); have A5 := Lz (And.intro ((A4.out.1).trans gr5) (And.intro (A4.out.2.1.kept gr5) (And.intro (A4.out.2.2.1.kept gr5) (And.intro (A4.out.2.2.2.1.kept gr5) (And.intro (A4.out.2.2.2.2.kept gr5) en5))))); obtain ⟨pn5, cn5, rfl, -⟩ := en5; clear gr5) | (go_at_call 65; refine (addE HN.out.2.2.2.1 HP.out (DD.out _ (A3.out.1.trans (zzz u3 _ .none))).1 (A3.out.2.2.2.kept (zzz u3 _ .none)) (A3.out.2.2.2.kept (zzz u3 _ .none)) HL.out.2.2.2.2.2.2.2.2.2.1 HL.out.2.2.2.2.2.2.2.2.2.1).mono ?_; rintro en u4 ⟨vn4, rfl, en4, gr4⟩; have q0 := CC.out _ (((A3.out.1.trans (zzz u3 _ .none))).trans gr4); have A4 := Lz (And.intro (((A3.out.1.trans (zzz u3 _ .none))).trans gr4) (And.intro (A3.out.2.1.kept ((zzz u3 _ .none).trans gr4)) (And.intro (A3.out.2.2.1.kept ((zzz u3 _ .none).trans gr4)) (And.intro (A3.out.2.2.2.kept ((zzz u3 _ .none).trans gr4)) en4)))); obtain ⟨pn4, cn4, rfl, -⟩ := en4; clear gr4))
 go_upto_region 5 with fail
 go_region_held3 (fun w' => w'.cell? ⟨w.heap.size, 0, .none⟩ = some (.slice pf (bd P).length cf)) (go_keep) (first | (go_at_call 22; refine (eqD HE.out.1 A12.out.2.2.2.2.2.2.2.2.2.2.2.1 A12.out.2.2.2.2.2.2.2.2.2.2.2.2).mono ?_; rintro en u13 ⟨rfl, gr13⟩; have q0 := CC.out _ ((A12.out.1).trans gr13); have A13 := Lz (And.intro ((A12.out.1).trans gr13) (And.intro (A12.out.2.1.kept gr13) (And.intro (A12.out.2.2.1.kept gr13) (And.intro (A12.out.2.2.2.1.kept gr13) (And.intro (A12.out.2.2.2.2.1.kept gr13) (And.intro (A12.out.2.2.2.2.2.1.kept gr13) (And.intro (A12.out.2.2.2.2.2.2.1.kept gr13) (And.intro (A12.out.2.2.2.2.2.2.2.1.kept gr13) (And.intro (A12.out.2.2.2.2.2.2.2.2.1.kept gr13) (And.intro (A12.out.2.2.2.2.2.2.2.2.2.1.kept gr13) (And.intro (A12.out.2.2.2.2.2.2.2.2.2.2.1.kept gr13) (And.intro (A12.out.2.2.2.2.2.2.2.2.2.2.2.1.kept gr13) (A12.out.2.2.2.2.2.2.2.2.2.2.2.2.kept gr13))))))))))))); clear gr13) | (go_at_call 64; refine (mulE HN.out.2.2.2.2.2.2.2.2.2.2.2.1 HP.out (DD.out _ A11.out.1).1 A11.out.2.2.2.2.2.2.1 A11.out.2.2.2.2.2.2.1 HL.out.2.2.2.2.2.2.2.2.2.2.2.2.1 HL.out.2.2.2.2.2.2.2.2.2.2.2.2.1).mono ?_; rintro en u12 ⟨vm5, rfl, em5, gr12⟩; have q0 := CC.out _ ((A11.out.1).trans gr12); have A12 := Lz (And.intro ((A11.out.1).trans gr12) (And.intro (A11.out.2.1.kept gr12) (And.intro (A11.out.2.2.1.kept gr12) (And.intro (A11.out.2.2.2.1.kept gr12) (And.intro (A11.out.2.2.2.2.1.kept gr12) (And.intro (A11.out.2.2.2.2.2.1.kept gr12) (And.intro (A11.out.2.2.2.2.2.2.1.kept gr12) (And.intro (A11.out.2.2.2.2.2.2.2.1.kept gr12) (And.intro (A11.out.2.2.2.2.2.2.2.2.1.kept gr12) (And.intro (A11.out.2.2.2.2.2.2.2.2.2.1.kept gr12) (And.intro (A11.out.2.2.2.2.2.2.2.2.2.2.1.kept gr12) (And.intro (A11.out.2.2.2.2.2.2.2.2.2.2.2.kept gr12) em5)))))))))))); obtain ⟨pm5, cm5, rfl, -⟩ := em5; clear gr12) | (go_at_call 64; refine (mulE HN.out.2.2.2.2.2.2.2.2.2.2.1 HP.out (DD.out _ A10.out.1).1 A10.out.2.2.2.2.2.2.2.2.2.1 A10.out.2.2.2.2.2.2.2.2.2.2 HL.out.2.2.2.2.2.2.2.2.2.2.2.2.2.2.2.1 HL.out.2.2.2.2.2.2.2.2.2.2.2.2.2.2.2.2.1).mono ?_; rintro en u11 ⟨vm4, rfl, em4, gr11⟩; have q0 := CC.out _ ((A10.out.1).trans gr11); have A11 := Lz (And.intro ((A10.out.1).trans gr11) (And.intro (A10.out.2.1.kept gr11) (And.intro (A10.out.2.2.1.kept gr11) (And.intro (A10.out.2.2.2.1.kept gr11) (And.intro (A10.out.2.2.2.2.1.kept gr11) (And.intro (A10.out.2.2.2.2.2.1.kept gr11) (And.intro (A10.out.2.2.2.2.2.2.1.kept gr11) (And.intro (A10.out.2.2.2.2.2.2.2.1.kept gr11) (And.intro (A10.out.2.2.2.2.2.2.2.2.1.kept gr11) (And.intro (A10.out.2.2.2.2.2.2.2.2.2.1.kept gr11) (And.intro (A10.out.2.2.2.2.2.2.2.2.2.2.kept gr11) em4))))))))))); obtain ⟨pm4, cm4, rfl, -⟩ := em4; clear gr11) | (go_at_call 64; refine (mulE HN.out.2.2.2.2.2.2.2.2.2.1 HP.out (DD.out _ A9.out.1).1 A9.out.2.2.2.2.2.2.2.1 A9.out.2.2.2.2.2.2.2.1 HL.out.2.2.2.2.2.2.2.2.2.2.2.2.2.1 HL.out.2.2.2.2.2.2.2.2.2.2.2.2.2.1).mono ?_; rintro en u10 ⟨vm3, rfl, em3, gr10⟩; have q0 := CC.out _ ((A9.out.1).trans gr10); have A10 := Lz (And.intro ((A9.out.1).trans gr10) (And.intro (A9.out.2.1.kept gr10) (And.intro (A9.out.2.2.1.kept gr10) (And.intro (A9.out.2.2.2.1.kept gr10) (And.intro (A9.out.2.2.2.2.1.kept gr10) (And.intro (A9.out.2.2.2.2.2.1.kept gr10) (And.intro (A9.out.2.2.2.2.2.2.1.kept gr10) (And.intro (A9.out.2.2.2.2.2.2.2.1.kept gr10) (And.intro (A9.out.2.2.2.2.2.2.2.2.1.kept gr10) (And.intro (A9.out.2.2.2.2.2.2.2.2.2.kept gr10) em3)))))))))); obtain ⟨pm3, cm3, rfl, -⟩ := em3; clear gr10) | (go_at_call 65; refine (addE HN.out.2.2.2.2.2.2.2.2.1 HP.out (DD.out _ A8.out.1).1 A8.out.2.2.2.2.2.2.2.2 (DD.out _ A8.out.1).2.2.2.2.2.2.1 HL.out.2.2.2.2.2.2.2.2.2.2.2.2.2.2.1 HL.out.2.2.2.2.2.1).mono ?_; rintro en u9 ⟨vm2, rfl, em2, gr9⟩; have q0 := CC.out _ ((A8.out.1).trans gr9); have A9 := Lz (And.intro ((A8.out.1).trans gr9) (And.intro (A8.out.2.1.kept gr9) (And.intro (A8.out.2.2.1.kept gr9) (And.intro (A8.out.2.2.2.1.kept gr9) (And.intro (A8.out.2.2.2.2.1.kept gr9) (And.intro (A8.out.2.2.2.2.2.1.kept gr9) (And.intro (A8.out.2.2.2.2.2.2.1.kept gr9) (And.intro (A8.out.2.2.2.2.2.2.2.1.kept gr9) (And.intro (A8.out.2.2.2.2.2.2.2.2.kept gr9) em2))))))))); obtain ⟨pm2, cm2, rfl, -⟩ := em2; clear gr9) | (go_at_call 65; refine (addE HN.out.2.2.2.2.2.2.2.1 HP.out (DD.out _ (A7.out.1.trans (zzz u7 _ .none))).1 (DD.out _ (A7.out.1.trans (zzz u7 _ .none))).2.2.1 (DD.out _ (A7.out.1.trans (zzz u7 _ .none))).2.2.2.2.1 HL.out.2.1 HL.out.2.2.2.1).mono ?_; rintro en u8 ⟨vm1, rfl, em1, gr8⟩; have q0 := CC.out _ (((A7.out.1.trans (zzz u7 _ .none))).trans gr8); have A8 := Lz (And.intro (((A7.out.1.trans (zzz u7 _ .none))).trans gr8) (And.intro (A7.out.2.1.kept ((zzz u7 _ .none).trans gr8)) (And.intro (A7.out.2.2.1.kept ((zzz u7 _ .none).trans gr8)) (And.intro (A7.out.2.2.2.1.kept ((zzz u7 _ .none).trans gr8)) (And.intro (A7.out.2.2.2.2.1.kept ((zzz u7 _ .none).trans gr8)) (And.intro (A7.out.2.2.2.2.2.1.kept ((zzz u7 _ .none).trans gr8)) (And.intro (A7.out.2.2.2.2.2.2.1.kept ((zzz u7 _ .none).trans gr8)) (And.intro (A7.out.2.2.2.2.2.2.2.kept ((zzz u7 _ .none).trans gr8)) em1)))))))); obtain ⟨pm1, cm1, rfl, -⟩ := em1; clear gr8))
 go_upto_region 6 with fail
 go_region_held3 (fun w' => w'.cell? ⟨w.heap.size, 0, .none⟩ = some (.slice pf (bd P).length cf)) (go_keep) (first | (go_at_call 22; refine (eqD HE.out.2 A17.out.2.2.2.2.2.2.2.2.2.2.2.2.2.2.1 A17.out.2.2.2.2.2.2.2.2.2.2.2.2.2.2.2.2).mono ?_; rintro en u18 ⟨rfl, gr18⟩; have q0 := CC.out _ ((A17.out.1).trans gr18); have A18 := Lz (And.intro ((A17.out.1).trans gr18) (And.intro (A17.out.2.1.kept gr18) (And.intro (A17.out.2.2.1.kept gr18) (And.intro (A17.out.2.2.2.1.kept gr18) (And.intro (A17.out.2.2.2.2.1.kept gr18) (And.intro (A17.out.2.2.2.2.2.1.kept gr18) (And.intro (A17.out.2.2.2.2.2.2.1.kept gr18) (And.intro (A17.out.2.2.2.2.2.2.2.1.kept gr18) (And.intro (A17.out.2.2.2.2.2.2.2.2.1.kept gr18) (And.intro (A17.out.2.2.2.2.2.2.2.2.2.1.kept gr18) (And.intro (A17.out.2.2.2.2.2.2.2.2.2.2.1.kept gr18) (And.intro (A17.out.2.2.2.2.2.2.2.2.2.2.2.1.kept gr18) (And.intro (A17.out.2.2.2.2.2.2.2.2.2.2.2.2.1.kept gr18) (And.intro (A17.out.2.2.2.2.2.2.2.2.2.2.2.2.2.1.kept gr18) (And.intro (A17.out.2.2.2.2.2.2.2.2.2.2.2.2.2.2.1.kept gr18) (And.intro (A17.out.2.2.2.2.2.2.2.2.2.2.2.2.2.2.2.1.kept gr18) (A17.out.2.2.2.2.2.2.2.2.2.2.2.2.2.2.2.2.kept gr18))))))))))))))))); clear gr18) | (go_at_call 64; refine (mulE HN.out.2.2.2.2.2.2.2.2.2.2.2.2.2.2.2 HP.out (DD.out _ A16.out.1).1 A16.out.2.2.2.2.2.2.1 A16.out.2.2.2.2.2.2.2.2.2.2.2.2.2.2.2 HL.out.2.2.2.2.2.2.2.2.2.2.2.2.1 HL.out.2.2.2.2.2.2.2.2.2.2.2.2.2.2.2.2.2.2.2.2.2.1).mono ?_; rintro en u17 ⟨vk4, rfl, ek4, gr17⟩; have q0 := CC.out _ ((A16.out.1).trans gr17); have A17 := Lz (And.intro ((A16.out.1).trans gr17) (And.intro (A16.out.2.1.kept gr17) (And.intro (A16.out.2.2.1.kept gr17) (And.intro (A16.out.2.2.2.1.kept gr17) (And.intro (A16.out.2.2.2.2.1.kept gr17) (And.intro (A16.out.2.2.2.2.2.1.kept gr17) (And.intro (A16.out.2.2.2.2.2.2.1.kept gr17) (And.intro (A16.out.2.2.2.2.2.2.2.1.kept gr17) (And.intro (A16.out.2.2.2.2.2.2.2.2.1.kept gr17) (And.intro (A16.out.2.2.2.2.2.2.2.2.2.1.kept gr17) (And.intro (A16.out.2.2.2.2.2.2.2.2.2.2.1.kept gr17) (And.intro (A16.out.2.2.2.2.2.2.2.2.2.2.2.1.kept gr17) (And.intro (A16.out.2.2.2.2.2.2.2.2.2.2.2.2.1.kept gr17) (And.intro (A16.out.2.2.2.2.2.2.2.2.2.2.2.2.2.1.kept gr17) (And.intro (A16.out.2.2.2.2.2.2.2.2.2.2.2.2.2.2.1.kept gr17) (And.intro (A16.out.2.2.2.2.2.2.2.2.2.2.2.2.2.2.2.kept gr17) ek4)))))))))))))))); obtain ⟨pk4, ck4, rfl, -⟩ := ek4; clear gr17) | (go_at_call 63; refine (subE HN.out.2.2.2.2.2.2.2.2.2.2.2.2.2.2.1 HP.out (DD.out _ A15.out.1).1 (DD.out _ A15.out.1).2.2.1 (DD.out _ A15.out.1).2.2.2.2.2.2.1 HL.out.2.1 HL.out.2.2.2.2.2.1).mono ?_; rintro en u16 ⟨vk3, rfl, ek3, gr16⟩; have q0 := CC.out _ ((A15.out.1).trans gr16); have A16 := Lz (And.intro ((A15.out.1).trans gr16) (And.intro (A15.out.2.1.kept gr16) (And.intro (A15.out.2.2.1.kept gr16) (And.intro (A15.out.2.2.2.1.kept gr16) (And.intro (A15.out.2.2.2.2.1.kept gr16) (And.intro (A15.out.2.2.2.2.2.1.kept gr16) (And.intro (A15.out.2.2.2.2.2.2.1.kept gr16) (And.intro (A15.out.2.2.2.2.2.2.2.1.kept gr16) (And.intro (A15.out.2.2.2.2.2.2.2.2.1.kept gr16) (And.intro (A15.out.2.2.2.2.2.2.2.2.2.1.kept gr16) (And.intro (A15.out.2.2.2.2.2.2.2.2.2.2.1.kept gr16) (And.intro (A15.out.2.2.2.2.2.2.2.2.2.2.2.1.kept gr16) (And.intro (A15.out.2.2.2.2.2.2.2.2.2.2.2.2.1.kept gr16) (And.intro (A15.out.2.2.2.2.2.2.2.2.2.2.2.2.2.1.kept gr16) (And.intro (A15.out.2.2.2.2.2.2.2.2.2.2.2.2.2.2.kept gr16) ek3))))))))))))))); obtain ⟨pk3, ck3, rfl, -⟩ := ek3; clear gr16) | (go_at_call 64; refine (mulE HN.out.2.2.2.2.2.2.2.2.2.2.2.2.2.1 HP.out (DD.out _ A14.out.1).1 A14.out.2.2.2.2.2.2.2.2.2.2.2.2.2 A14.out.2.2.2.2.2.2.2.1 HL.out.2.2.2.2.2.2.2.2.2.2.2.2.2.2.2.2.2.2.2.1 HL.out.2.2.2.2.2.2.2.2.2.2.2.2.2.1).mono ?_; rintro en u15 ⟨vk2, rfl, ek2, gr15⟩; have q0 := CC.out _ ((A14.out.1).trans gr15); have A15 := Lz (And.intro ((A14.out.1).trans gr15) (And.intro (A14.out.2.1.kept gr15) (And.intro (A14.out.2.2.1.kept gr15) (And.intro (A14.out.2.2.2.1.kept gr15) (And.intro (A14.out.2.2.2.2.1.kept gr15) (And.intro (A14.out.2.2.2.2.2.1.kept gr15) (And.intro (A14.out.2.2.2.2.2.2.1.kept gr15) (And.intro (A14.out.2.2.2.2.2.2.2.1.kept gr15) (And.intro (A14.out.2.2.2.2.2.2.2.2.1.kept gr15) (And.intro (A14.out.2.2.2.2.2.2.2.2.2.1.kept gr15) (And.intro (A14.out.2.2.2.2.2.2.2.2.2.2.1.kept gr15) (And.intro (A14.out.2.2.2.2.2.2.2.2.2.2.2.1.kept gr15) (And.intro (A14.out.2.2.2.2.2.2.2.2.2.2.2.2.1.kept gr15) (And.intro (A14.out.2.2.2.2.2.2.2.2.2.2.2.2.2.kept gr15) ek2)))))))))))))); obtain ⟨pk2, ck2, rfl, -⟩ := ek2; clear gr15) | (go_at_call 65; refine (addE HN.out.2.2.2.2.2.2.2.2.2.2.2.2.1 HP.out (DD.out _ (A13.out.1.trans (zzz u13 _ .none))).1 (DD.out _ (A13.out.1.trans (zzz u13 _ .none))).2.2.2.1 (DD.out _ (A13.out.1.trans (zzz u13 _ .none))).2.2.2.2.2.2.2 HL.out.2.2.1 HL.out.2.2.2.2.2.2.1).mono ?_; rintro en u14 ⟨vk1, rfl, ek1, gr14⟩; have q0 := CC.out _ (((A13.out.1.trans (zzz u13 _ .none))).trans gr14); have A14 := Lz (And.intro (((A13.out.1.trans (zzz u13 _ .none))).trans gr14) (And.intro (A13.out.2.1.kept ((zzz u13 _ .none).trans gr14)) (And.intro (A13.out.2.2.1.kept ((zzz u13 _ .none).trans gr14)) (And.intro (A13.out.2.2.2.1.kept ((zzz u13 _ .none).trans gr14)) (And.intro (A13.out.2.2.2.2.1.kept ((zzz u13 _ .none).trans gr14)) (And.intro (A13.out.2.2.2.2.2.1.kept ((zzz u13 _ .none).trans gr14)) (And.intro (A13.out.2.2.2.2.2.2.1.kept ((zzz u13 _ .none).trans gr14)) (And.intro (A13.out.2.2.2.2.2.2.2.1.kept ((zzz u13 _ .none).trans gr14)) (And.intro (A13.out.2.2.2.2.2.2.2.2.1.kept ((zzz u13 _ .none).trans gr14)) (And.intro (A13.out.2.2.2.2.2.2.2.2.2.1.kept ((zzz u13 _ .none).trans gr14)) (And.intro (A13.out.2.2.2.2.2.2.2.2.2.2.1.kept ((zzz u13 _ .none).trans gr14)) (And.intro (A13.out.2.2.2.2.2.2.2.2.2.2.2.1.kept ((zzz u13 _ .none).trans gr14)) (And.intro (A13.out.2.2.2.2.2.2.2.2.2.2.2.2.kept ((zzz u13 _ .none).trans gr14)) ek1))))))))))))); obtain ⟨pk1, ck1, rfl, -⟩ := ek1; clear gr14))
 have FIN := Lz (G0.out.trans A18.out.1)
 go_wp2_with fail
 go_ret
 exact ⟨rfl, FIN.out⟩
set_option maxRecDepth 100000 in
theorem isSumC {w : World} {f va vx1 vy1 vx2 vy2 vx3 vy3 : Value} {P A x1 y1 x2 y2 x3 y3 : Nat} (hP : Fd P) (hf : Dg w f P) (dA : Dg w va A) (dx1 : Dg w vx1 x1) (dy1 : Dg w vy1 y1) (dx2 : Dg w vx2 x2) (dy2 : Dg w vy2 y2) (dx3 : Dg w vx3 x3) (dy3 : Dg w vy3 y3) (lA : A < P) (lx1 : x1 < P) (ly1 : y1 < P) (lx2 : x2 < P) (ly2 : y2 < P) (lx3 : x3 < P) (ly3 : y3 < P) (hs : isSum P A x1 y1 x2 y2 x3 y3 false = true) :
 Calls Tryz.prog 21 #[.agg #[f], va, vx1, vy1, vx2, vy2, vx3, vy3, .bool false] w (fun e w' => e = .returned (.bool true) ∧ w.grownBy w' .none) := by
 obtain ⟨n1, hn1⟩ : ∃ n, n = fs P y2 y1 := ⟨_, rfl⟩
 obtain ⟨n2, hn2⟩ : ∃ n, n = fs P x2 x1 := ⟨_, rfl⟩
 obtain ⟨m1, hm1⟩ : ∃ n, n = fa P x1 x2 := ⟨_, rfl⟩
 obtain ⟨m2, hm2⟩ : ∃ n, n = fa P m1 x3 := ⟨_, rfl⟩
 obtain ⟨m3, hm3⟩ : ∃ n, n = fm P n2 n2 := ⟨_, rfl⟩
 obtain ⟨m4, hm4⟩ : ∃ n, n = fm P m2 m3 := ⟨_, rfl⟩
 obtain ⟨m5, hm5⟩ : ∃ n, n = fm P n1 n1 := ⟨_, rfl⟩
 obtain ⟨k1, hk1⟩ : ∃ n, n = fa P y1 y3 := ⟨_, rfl⟩
 obtain ⟨k2, hk2⟩ : ∃ n, n = fm P k1 n2 := ⟨_, rfl⟩
 obtain ⟨k3, hk3⟩ : ∃ n, n = fs P x1 x3 := ⟨_, rfl⟩
 obtain ⟨k4, hk4⟩ : ∃ n, n = fm P n1 k3 := ⟨_, rfl⟩
 have hE : m4 = m5 ∧ k2 = k4 := by
  unfold isSum at hs
  simp only [Bool.false_eq_true, if_false, Bool.and_eq_true, beq_iff_eq] at hs
  subst hk4 hk3 hk2 hk1 hm5 hm4 hm3 hm2 hm1 hn2 hn1
  exact hs
 have HE := Lz hE
 have HN := Lz (show n1 = fs P y2 y1 ∧ n2 = fs P x2 x1 ∧ m1 = fa P x1 x2 ∧ m2 = fa P m1 x3 ∧ m3 = fm P n2 n2 ∧ m4 = fm P m2 m3 ∧ m5 = fm P n1 n1 ∧ k1 = fa P y1 y3 ∧ k2 = fm P k1 n2 ∧ k3 = fs P x1 x3 ∧ k4 = fm P n1 k3 from ⟨hn1, hn2, hm1, hm2, hm3, hm4, hm5, hk1, hk2, hk3, hk4⟩)
 have HL := Lz (show A < P ∧ x1 < P ∧ y1 < P ∧ x2 < P ∧ y2 < P ∧ x3 < P ∧ y3 < P ∧ n1 < P ∧ n2 < P ∧ m1 < P ∧ m2 < P ∧ m3 < P ∧ m4 < P ∧ m5 < P ∧ k1 < P ∧ k2 < P ∧ k3 < P ∧ k4 < P from ⟨lA, lx1, ly1, lx2, ly2, lx3, ly3, by rw [hn1]; exact fs_lt hP.pos, by rw [hn2]; exact fs_lt hP.pos, by rw [hm1]; exact fa_lt hP.pos, by rw [hm2]; exact fa_lt hP.pos, by rw [hm3]; exact fm_lt hP.pos, by rw [hm4]; exact fm_lt hP.pos, by rw [hm5]; exact fm_lt hP.pos, by rw [hk1]; exact fa_lt hP.pos, by rw [hk2]; exact fm_lt hP.pos, by rw [hk3]; exact fs_lt hP.pos, by rw [hk4]; exact fm_lt hP.pos⟩)
 have HP := Lz hP
 have n0 := heap_alloc_new w (.cells #[f] 39)
 have G0 := Lz (zzx w (.cells #[f] 39) .none)
 have q0 := zzj (k := 0) n0 rfl
 have CC := Lz (fun (w' : World) (k : (w.alloc (.cells #[f] 39)).grownBy w' .none) => (k.cell q0 (by simp) : w'.cell? ⟨w.heap.size, 0, .none⟩ = some f))
 have DD := Lz (fun (w' : World) (k : (w.alloc (.cells #[f] 39)).grownBy w' .none) => (⟨hf.kept (G0.out.trans k), dA.kept (G0.out.trans k), dx1.kept (G0.out.trans k), dy1.kept (G0.out.trans k), dx2.kept (G0.out.trans k), dy2.kept (G0.out.trans k), dx3.kept (G0.out.trans k), dy3.kept (G0.out.trans k)⟩ : Dg w' f P ∧ Dg w' va A ∧ Dg w' vx1 x1 ∧ Dg w' vy1 y1 ∧ Dg w' vx2 x2 ∧ Dg w' vy2 y2 ∧ Dg w' vx3 x3 ∧ Dg w' vy3 y3))
 obtain ⟨pf, cf, rfl, -⟩ := hf
 obtain ⟨pA, cA, rfl, -⟩ := dA
 obtain ⟨px1, cx1, rfl, -⟩ := dx1
 obtain ⟨py1, cy1, rfl, -⟩ := dy1
 obtain ⟨px2, cx2, rfl, -⟩ := dx2
 obtain ⟨py2, cy2, rfl, -⟩ := dy2
 obtain ⟨px3, cx3, rfl, -⟩ := dx3
 obtain ⟨py3, cy3, rfl, -⟩ := dy3
 clear hP hE hs n0 lA lx1 ly1 lx2 ly2 lx3 ly3 hn1 hn2 hm1 hm2 hm3 hm4 hm5 hk1 hk2 hk3 hk4
 go_enter Tryz.func21, Tryz.ntmps21
 go_upto_region 1 with fail
 generalize hw1 : w.alloc (.cells #[.slice pf (bd P).length cf] 39) = w1 at *
 go_region_held3 (fun w' => w'.cell? ⟨w.heap.size, 0, .none⟩ = some (.slice pf (bd P).length cf)) (go_keep) (first | (go_at_call 63; refine (subE HN.out.2.1 HP.out (DD.out _ A1.out.1).1 (DD.out _ A1.out.1).2.2.2.2.1 (DD.out _ A1.out.1).2.2.1 HL.out.2.2.2.1 HL.out.2.1).mono ?_; rintro en u2 ⟨vn2, rfl, en2, gr2⟩; have q0 := CC.out _ ((A1.out.1).trans gr2); have A2 := Lz (And.intro ((A1.out.1).trans gr2) (And.intro (A1.out.2.kept gr2) en2)); obtain ⟨pn2, cn2, rfl, -⟩ := en2; clear gr2) | (go_at_call 63; refine (subE HN.out.1 HP.out (DD.out _ (zzz w1 _ .none)).1 (DD.out _ (zzz w1 _ .none)).2.2.2.2.2.1 (DD.out _ (zzz w1 _ .none)).2.2.2.1 HL.out.2.2.2.2.1 HL.out.2.2.1).mono ?_; rintro en u1 ⟨vn1, rfl, en1, gr1⟩; have q0 := CC.out _ (((zzz w1 _ .none)).trans gr1); have A1 := Lz (And.intro (((zzz w1 _ .none)).trans gr1) en1); obtain ⟨pn1, cn1, rfl, -⟩ := en1; clear gr1))
 go_upto_region 5 with fail
 go_region_held3 (fun w' => w'.cell? ⟨w.heap.size, 0, .none⟩ = some (.slice pf (bd P).length cf)) (go_keep) (first | (go_at_call 22; refine (eqD HE.out.1 A7.out.2.2.2.2.2.2.1 A7.out.2.2.2.2.2.2.2).mono ?_; rintro en u8 ⟨rfl, gr8⟩; have q0 := CC.out _ ((A7.out.1).trans gr8); have A8 := Lz (And.intro ((A7.out.1).trans gr8) (And.intro (A7.out.2.1.kept gr8) (And.intro (A7.out.2.2.1.kept gr8) (And.intro (A7.out.2.2.2.1.kept gr8) (And.intro (A7.out.2.2.2.2.1.kept gr8) (And.intro (A7.out.2.2.2.2.2.1.kept gr8) (And.intro (A7.out.2.2.2.2.2.2.1.kept gr8) (A7.out.2.2.2.2.2.2.2.kept gr8)))))))); clear gr8) | (go_at_call 64; refine (mulE HN.out.2.2.2.2.2.2.1 HP.out (DD.out _ A6.out.1).1 A6.out.2.1 A6.out.2.1 HL.out.2.2.2.2.2.2.2.1 HL.out.2.2.2.2.2.2.2.1).mono ?_; rintro en u7 ⟨vm5, rfl, em5, gr7⟩; have q0 := CC.out _ ((A6.out.1).trans gr7); have A7 := Lz (And.intro ((A6.out.1).trans gr7) (And.intro (A6.out.2.1.kept gr7) (And.intro (A6.out.2.2.1.kept gr7) (And.intro (A6.out.2.2.2.1.kept gr7) (And.intro (A6.out.2.2.2.2.1.kept gr7) (And.intro (A6.out.2.2.2.2.2.1.kept gr7) (And.intro (A6.out.2.2.2.2.2.2.kept gr7) em5))))))); obtain ⟨pm5, cm5, rfl, -⟩ := em5; clear gr7) | (go_at_call 64; refine (mulE HN.out.2.2.2.2.2.1 HP.out (DD.out _ A5.out.1).1 A5.out.2.2.2.2.1 A5.out.2.2.2.2.2 HL.out.2.2.2.2.2.2.2.2.2.2.1 HL.out.2.2.2.2.2.2.2.2.2.2.2.1).mono ?_; rintro en u6 ⟨vm4, rfl, em4, gr6⟩; have q0 := CC.out _ ((A5.out.1).trans gr6); have A6 := Lz (And.intro ((A5.out.1).trans gr6) (And.intro (A5.out.2.1.kept gr6) (And.intro (A5.out.2.2.1.kept gr6) (And.intro (A5.out.2.2.2.1.kept gr6) (And.intro (A5.out.2.2.2.2.1.kept gr6) (And.intro (A5.out.2.2.2.2.2.kept gr6) em4)))))); obtain ⟨pm4, cm4, rfl, -⟩ := em4; clear gr6) | (go_at_call 64; refine (mulE HN.out.2.2.2.2.1 HP.out (DD.out _ A4.out.1).1 A4.out.2.2.1 A4.out.2.2.1 HL.out.2.2.2.2.2.2.2.2.1 HL.out.2.2.2.2.2.2.2.2.1).mono ?_; rintro en u5 ⟨vm3, rfl, em3, gr5⟩; have q0 := CC.out _ ((A4.out.1).trans gr5); have A5 := Lz (And.intro ((A4.out.1).trans gr5) (And.intro (A4.out.2.1.kept gr5) (And.intro (A4.out.2.2.1.kept gr5) (And.intro (A4.out.2.2.2.1.kept gr5) (And.intro (A4.out.2.2.2.2.kept gr5) em3))))); obtain ⟨pm3, cm3, rfl, -⟩ := em3; clear gr5) | (go_at_call 65; refine (addE HN.out.2.2.2.1 HP.out (DD.out _ A3.out.1).1 A3.out.2.2.2 (DD.out _ A3.out.1).2.2.2.2.2.2.1 HL.out.2.2.2.2.2.2.2.2.2.1 HL.out.2.2.2.2.2.1).mono ?_; rintro en u4 ⟨vm2, rfl, em2, gr4⟩; have q0 := CC.out _ ((A3.out.1).trans gr4); have A4 := Lz (And.intro ((A3.out.1).trans gr4) (And.intro (A3.out.2.1.kept gr4) (And.intro (A3.out.2.2.1.kept gr4) (And.intro (A3.out.2.2.2.kept gr4) em2)))); obtain ⟨pm2, cm2, rfl, -⟩ := em2; clear gr4) | (go_at_call 65; refine (addE HN.out.2.2.1 HP.out (DD.out _ (A2.out.1.trans (zzz u2 _ .none))).1 (DD.out _ (A2.out.1.trans (zzz u2 _ .none))).2.2.1 (DD.out _ (A2.out.1.trans (zzz u2 _ .none))).2.2.2.2.1 HL.out.2.1 HL.out.2.2.2.1).mono ?_; rintro en u3 ⟨vm1, rfl, em1, gr3⟩; have q0 := CC.out _ (((A2.out.1.trans (zzz u2 _ .none))).trans gr3); have A3 := Lz (And.intro (((A2.out.1.trans (zzz u2 _ .none))).trans gr3) (And.intro (A2.out.2.1.kept ((zzz u2 _ .none).trans gr3)) (And.intro (A2.out.2.2.kept ((zzz u2 _ .none).trans gr3)) em1))); obtain ⟨pm1, cm1, rfl, -⟩ := em1; clear gr3))
 go_upto_region 6 with fail
 go_region_held3 (fun w' => w'.cell? ⟨w.heap.size, 0, .none⟩ = some (.slice pf (bd P).length cf)) (go_keep) (first | (go_at_call 22; refine (eqD HE.out.2 A12.out.2.2.2.2.2.2.2.2.2.1 A12.out.2.2.2.2.2.2.2.2.2.2.2).mono ?_; rintro en u13 ⟨rfl, gr13⟩; have q0 := CC.out _ ((A12.out.1).trans gr13); have A13 := Lz (And.intro ((A12.out.1).trans gr13) (And.intro (A12.out.2.1.kept gr13) (And.intro (A12.out.2.2.1.kept gr13) (And.intro (A12.out.2.2.2.1.kept gr13) (And.intro (A12.out.2.2.2.2.1.kept gr13) (And.intro (A12.out.2.2.2.2.2.1.kept gr13) (And.intro (A12.out.2.2.2.2.2.2.1.kept gr13) (And.intro (A12.out.2.2.2.2.2.2.2.1.kept gr13) (And.intro (A12.out.2.2.2.2.2.2.2.2.1.kept gr13) (And.intro (A12.out.2.2.2.2.2.2.2.2.2.1.kept gr13) (And.intro (A12.out.2.2.2.2.2.2.2.2.2.2.1.kept gr13) (A12.out.2.2.2.2.2.2.2.2.2.2.2.kept gr13)))))))))))); clear gr13) | (go_at_call 64; refine (mulE HN.out.2.2.2.2.2.2.2.2.2.2 HP.out (DD.out _ A11.out.1).1 A11.out.2.1 A11.out.2.2.2.2.2.2.2.2.2.2 HL.out.2.2.2.2.2.2.2.1 HL.out.2.2.2.2.2.2.2.2.2.2.2.2.2.2.2.2.1).mono ?_; rintro en u12 ⟨vk4, rfl, ek4, gr12⟩; have q0 := CC.out _ ((A11.out.1).trans gr12); have A12 := Lz (And.intro ((A11.out.1).trans gr12) (And.intro (A11.out.2.1.kept gr12) (And.intro (A11.out.2.2.1.kept gr12) (And.intro (A11.out.2.2.2.1.kept gr12) (And.intro (A11.out.2.2.2.2.1.kept gr12) (And.intro (A11.out.2.2.2.2.2.1.kept gr12) (And.intro (A11.out.2.2.2.2.2.2.1.kept gr12) (And.intro (A11.out.2.2.2.2.2.2.2.1.kept gr12) (And.intro (A11.out.2.2.2.2.2.2.2.2.1.kept gr12) (And.intro (A11.out.2.2.2.2.2.2.2.2.2.1.kept gr12) (And.intro (A11.out.2.2.2.2.2.2.2.2.2.2.kept gr12) ek4))))))))))); obtain ⟨pk4, ck4, rfl, -⟩ := ek4; clear gr12) | (go_at_call 63; refine (subE HN.out.2.2.2.2.2.2.2.2.2.1 HP.out (DD.out _ A10.out.1).1 (DD.out _ A10.out.1).2.2.1 (DD.out _ A10.out.1).2.2.2.2.2.2.1 HL.out.2.1 HL.out.2.2.2.2.2.1).mono ?_; rintro en u11 ⟨vk3, rfl, ek3, gr11⟩; have q0 := CC.out _ ((A10.out.1).trans gr11); have A11 := Lz (And.intro ((A10.out.1).trans gr11) (And.intro (A10.out.2.1.kept gr11) (And.intro (A10.out.2.2.1.kept gr11) (And.intro (A10.out.2.2.2.1.kept gr11) (And.intro (A10.out.2.2.2.2.1.kept gr11) (And.intro (A10.out.2.2.2.2.2.1.kept gr11) (And.intro (A10.out.2.2.2.2.2.2.1.kept gr11) (And.intro (A10.out.2.2.2.2.2.2.2.1.kept gr11) (And.intro (A10.out.2.2.2.2.2.2.2.2.1.kept gr11) (And.intro (A10.out.2.2.2.2.2.2.2.2.2.kept gr11) ek3)))))))))); obtain ⟨pk3, ck3, rfl, -⟩ := ek3; clear gr11) | (go_at_call 64; refine (mulE HN.out.2.2.2.2.2.2.2.2.1 HP.out (DD.out _ A9.out.1).1 A9.out.2.2.2.2.2.2.2.2 A9.out.2.2.1 HL.out.2.2.2.2.2.2.2.2.2.2.2.2.2.2.1 HL.out.2.2.2.2.2.2.2.2.1).mono ?_; rintro en u10 ⟨vk2, rfl, ek2, gr10⟩; have q0 := CC.out _ ((A9.out.1).trans gr10); have A10 := Lz (And.intro ((A9.out.1).trans gr10) (And.intro (A9.out.2.1.kept gr10) (And.intro (A9.out.2.2.1.kept gr10) (And.intro (A9.out.2.2.2.1.kept gr10) (And.intro (A9.out.2.2.2.2.1.kept gr10) (And.intro (A9.out.2.2.2.2.2.1.kept gr10) (And.intro (A9.out.2.2.2.2.2.2.1.kept gr10) (And.intro (A9.out.2.2.2.2.2.2.2.1.kept gr10) (And.intro (A9.out.2.2.2.2.2.2.2.2.kept gr10) ek2))))))))); obtain ⟨pk2, ck2, rfl, -⟩ := ek2; clear gr10) | (go_at_call 65; refine (addE HN.out.2.2.2.2.2.2.2.1 HP.out (DD.out _ (A8.out.1.trans (zzz u8 _ .none))).1 (DD.out _ (A8.out.1.trans (zzz u8 _ .none))).2.2.2.1 (DD.out _ (A8.out.1.trans (zzz u8 _ .none))).2.2.2.2.2.2.2 HL.out.2.2.1 HL.out.2.2.2.2.2.2.1).mono ?_; rintro en u9 ⟨vk1, rfl, ek1, gr9⟩; have q0 := CC.out _ (((A8.out.1.trans (zzz u8 _ .none))).trans gr9); have A9 := Lz (And.intro (((A8.out.1.trans (zzz u8 _ .none))).trans gr9) (And.intro (A8.out.2.1.kept ((zzz u8 _ .none).trans gr9)) (And.intro (A8.out.2.2.1.kept ((zzz u8 _ .none).trans gr9)) (And.intro (A8.out.2.2.2.1.kept ((zzz u8 _ .none).trans gr9)) (And.intro (A8.out.2.2.2.2.1.kept ((zzz u8 _ .none).trans gr9)) (And.intro (A8.out.2.2.2.2.2.1.kept ((zzz u8 _ .none).trans gr9)) (And.intro (A8.out.2.2.2.2.2.2.1.kept ((zzz u8 _ .none).trans gr9)) (And.intro (A8.out.2.2.2.2.2.2.2.kept ((zzz u8 _ .none).trans gr9)) ek1)))))))); obtain ⟨pk1, ck1, rfl, -⟩ := ek1; clear gr9))
 have FIN := Lz (G0.out.trans A13.out.1)
 go_wp2_with fail
 go_ret
 exact ⟨rfl, FIN.out⟩
end Go.Proofs.YtohhkjamddojmaaGreatDoor.Bit

namespace Go.Proofs.YtohhkjamddojmaaGreatDoor.Bit
open Go.RowKit
open Big EcLaw
attribute [local go_sem] ptr
attribute [local irreducible] Sz
section
variable {R : Nat → Prop} {w0 w w' : World} {L L' : List (Nat × Int)}
theorem Four.room {b : Nat} {c : Nums} (h : Four b c) : 2 ^ 64 + 2 ^ 64 < c.n ∧ c.p < B16 ^ 16 := by
 cases h <;> decide +kernel
theorem Four.fd {b : Nat} {c : Nums} (h : Four b c) : Fd c.p := ⟨by have := h.grp.p5; omega, h.room.2⟩
theorem named_start {K : Nat → Prop} {w1 w2 : World} {c : Nums} {gX gY : Nat} {ae : Addr} {vX vY : Value} {cs27 : Array Value} (hK : K = fun k => R k ∨ k = gX ∨ k = gY ∨ k = w2.heap.size) (h0 : Own R w0 w []) (k1 : Kept R w w1) (k2 : Kept R w1 w2) (o2 : Own R w2 w2 []) (bX : ByV w2 gX vX c.x) (bY : ByV w2 gY vY c.y)
 (he : w.cell? ⟨2, 0, .none⟩ = some (eofV ae)) :
 St R K w (w2.alloc (.cells cs27 27)) w2.heap.size cs27 ae ∧ ByV (w2.alloc (.cells cs27 27)) gX vX c.x ∧ ByV (w2.alloc (.cells cs27 27)) gY vY c.y ∧ K gX ∧ K gY := by
 have hs : (w2.alloc (.cells cs27 27)).heap.size = w2.heap.size + 1 := Array.size_push _
 have n0 := heap_alloc_new w2 (.cells cs27 27)
 have lx := bX.lt
 have ly := bY.lt
 have o3 := o2.since.box (.cells cs27 27)
 have kk : Kept R w (w2.alloc (.cells cs27 27)) := k1.trans (k2.trans (Grow.none (zzx w2 (.cells cs27 27) _) _))
 refine ⟨⟨o3.widen (by rw [hK]; exact fun k hk => .inl hk) (by
  rw [hK]
  rintro k (hk | rfl | rfl | rfl)
  · exact o3.old hk
  · omega
  · omega
  · omega), kk, by rw [hK]; exact fun k hk => .inl hk, n0, by rw [hK]; exact .inr (.inr (.inr rfl)), kk.cell (h0.low 2 (by omega)) he⟩, bX.kept (R := fun _ => True) (Grow.none (zzx w2 (.cells cs27 27) _) _) trivial, bY.kept (R := fun _ => True) (Grow.none (zzx w2 (.cells cs27 27) _) _) trivial, ?_, ?_⟩ <;> rw [hK]
 · exact .inr (.inl rfl)
 · exact .inr (.inr (.inl rfl))
theorem St.one {K : Nat → Prop} {t : Nat} {ae : Addr} {cs : Array Value} {w2 : World} {g o : Nat} {ks : List Nat} (h : St R K w w' t cs ae) (hg : w'.grownBy w2 .none) (sl : Sl w2 g o ks) : St R (fun k => K k ∨ k = g) w w2 t cs ae :=
 (h.keep (Grow.none hg _)).wide (fun k hk => .inl hk) (fun k hk => by
  rcases hk with hk | rfl
  · exact (h.keep (Grow.none hg _)).own.old hk
  · exact sl.2.2.2)
theorem mulS {K : Nat → Prop} {b t : Nat} {ae : Addr} {g cap gX gY : Nat} {c : Nums} {cs : Array Value} {ks : List Nat} {vX vY : Value} (hf : Four b c) (S : St R K w w' t cs ae) (sl : Sl w' g 0 ks) (bX : ByV w' gX vX c.x) (bY : ByV w' gY vY c.y) (kX : K gX) (kY : K gY) (kg : K g) {N : Nat} (e : bev ks = N) (n0 : 0 < N) (n1 : N < c.n) :
 Calls Tryz.prog 16 #[.int .i64 (b : Nat), vX, vY, .slice (some ⟨g, 0, .none⟩) ks.length cap] w' (GreatP K w' (fun X Y => EcLaw.mul c.p 0 N c.G = .aff X Y)) := by
 subst e
 exact namedMultO hf S.own ae S.eof gX gY vX vY g 0 cap ks bX bY kX kY sl kg n0 n1
theorem coords_lt {c : Nums} (hc : Grp c) {a X Y : Nat} (e : EcLaw.mul c.p 0 a c.G = .aff X Y) : X < c.p ∧ Y < c.p := by
 have h : On c.p 0 c.b (.aff X Y) := e ▸ mul_on hc.prm hc.on a
 have h1 := h.2.1
 have h2 := h.2.2.2.1
 omega
theorem dg_nil (w : World) : Dg w (.slice .none 0 0) 0 := by
 refine ⟨.none, 0, by rw [bd_zero]; rfl, ?_⟩
 rw [bd_zero]
 exact ⟨Nat.le_refl _, by unfold maxLen; omega, fun h => absurd h (Nat.lt_irrefl _), fun _ _ e => by cases e⟩
theorem fromD {w : World} {g n : Nat} {v : Value} (h : ByV w g v n) : Calls Tryz.prog 19 #[v] w (DgP n w) := (fromBy h).mono fun _ _ h => Dg.of h
theorem primeD {b : Nat} {c : Nums} (hf : Four b c) (w : World) : Calls Tryz.prog 20 #[.int .i64 (b : Nat)] w (DgP c.p w) := (primeO hf w).mono fun _ _ h => Dg.of h
end
end Go.Proofs.YtohhkjamddojmaaGreatDoor.Bit
