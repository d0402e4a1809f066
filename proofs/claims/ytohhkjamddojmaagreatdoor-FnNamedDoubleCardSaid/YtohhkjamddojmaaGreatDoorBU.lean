/- The law FnNamedDouble. The law FnNamedDouble, for every argument; its row's premises. -/
import Derived.Test.YtohhkjamddojmaaGreatDoorQV
import Derived.Test.YtohhkjamddojmaaGreatDoorBR
namespace Go.Proofs.YtohhkjamddojmaaGreatDoor.Bit
open Go.RowKit
open Big EcLaw
attribute [local go_sem] ptr
attribute [local irreducible] Sz

section
variable {R : Nat → Prop} {w0 w w' : World} {L L' : List (Nat × Int)}
theorem Four.room {b : Nat} {c : Nums} (h : Four b c) : 2 ^ 64 + 2 ^ 64 < c.n ∧ c.p < B16 ^ 16 := by
 cases h <;> decide +kernel
theorem Four.fd {b : Nat} {c : Nums} (h : Four b c) : Fd c.p := ⟨by have := h.grp.p5; omega, h.room.2⟩
theorem named_start {K : Nat → Prop} {w1 w2 : World} {c : Nums} {gX gY : Nat} {ae : Addr} {vX vY : Value} {cs27 : Array Value} (hK : K = fun k => R k ∨ k = gX ∨ k = gY ∨ k = w2.heap.size) (h0 : Own R w0 w []) (k1 : Kept R w w1) (k2 : Kept R w1 w2) (o2 : Own R w2 w2 []) (bX : ByV w2 gX vX c.x) (bY : ByV w2 gY vY c.y)
 (he : w.cell? ⟨2, 0, .none⟩ = some (eofV ae)) :
 St R K w (w2.alloc (.cells cs27 27)) w2.heap.size cs27 ae ∧ ByV (w2.alloc (.cells cs27 27)) gX vX c.x ∧ ByV (w2.alloc (.cells cs27 27)) gY vY c.y ∧ K gX ∧ K gY := by
 have hs : (w2.alloc (.cells cs27 27)).heap.size = w2.heap.size + 1 := Array.size_push _
 have n0 := heap_alloc_new w2 (.cells cs27 27)
 have lx := bX.lt
 have ly := bY.lt
 have o3 := o2.since.box (.cells cs27 27)
 have kk : Kept R w (w2.alloc (.cells cs27 27)) := k1.trans (k2.trans (Grow.none (grown_alloc w2 (.cells cs27 27) _) _))
 refine ⟨⟨o3.widen (by rw [hK]; exact fun k hk => .inl hk) (by
  rw [hK]
  rintro k (hk | rfl | rfl | rfl)
  · exact o3.old hk
  · omega
  · omega
  · omega), kk, by rw [hK]; exact fun k hk => .inl hk, n0, by rw [hK]; exact .inr (.inr (.inr rfl)), kk.cell (h0.low 2 (by omega)) he⟩, bX.kept (R := fun _ => True) (Grow.none (grown_alloc w2 (.cells cs27 27) _) _) trivial, bY.kept (R := fun _ => True) (Grow.none (grown_alloc w2 (.cells cs27 27) _) _) trivial, ?_, ?_⟩ <;> rw [hK]
 · exact .inr (.inl rfl)
 · exact .inr (.inr (.inl rfl))
theorem St.one {K : Nat → Prop} {t : Nat} {ae : Addr} {cs : Array Value} {w2 : World} {g o : Nat} {ks : List Nat} (h : St R K w w' t cs ae) (hg : w'.grownBy w2 .none) (sl : Sl w2 g o ks) : St R (fun k => K k ∨ k = g) w w2 t cs ae :=
 (h.keep (Grow.none hg _)).wide (fun k hk => .inl hk) (fun k hk => by
  rcases hk with hk | rfl
  · exact (h.keep (Grow.none hg _)).own.old hk
  · exact sl.2.2.2)
theorem mulS {K : Nat → Prop} {b t : Nat} {ae : Addr} {g cap gX gY : Nat} {c : Nums} {cs : Array Value} {ks : List Nat} {vX vY : Value} (hf : Four b c) (S : St R K w w' t cs ae) (sl : Sl w' g 0 ks) (bX : ByV w' gX vX c.x) (bY : ByV w' gY vY c.y) (kX : K gX) (kY : K gY) (kg : K g) {N : Nat} (e : bev ks = N) (n0 : 0 < N) (n1 : N < c.n) :
 Calls Tryz.prog 16 #[.int .i64 (b : Nat), vX, vY, .slice (some ⟨g, 0, .none⟩) ks.length cap] w' (GreatP K w' (fun X Y => EcLaw.mul c.p 0 N c.G = .aff X Y)) := by
 subst e
 exact namedMultO hf S.own ae S.eof gX gY vX vY g 0 cap ks bX bY kX kY sl kg n0 n1
theorem coords_lt {c : Nums} (hc : Grp c) {a X Y : Nat} (e : EcLaw.mul c.p 0 a c.G = .aff X Y) : X < c.p ∧ Y < c.p := by
 have h : On c.p 0 c.b (.aff X Y) := e ▸ mul_on hc.prm hc.on a
 have h1 := h.2.1
 have h2 := h.2.2.2.1
 omega
theorem dg_nil (w : World) : Dg w (.slice .none 0 0) 0 := by
 refine ⟨.none, 0, by rw [bd_zero]; rfl, ?_⟩
 rw [bd_zero]
 exact ⟨Nat.le_refl _, by unfold maxLen; omega, fun h => absurd h (Nat.lt_irrefl _), fun _ _ e => by cases e⟩
theorem fromD {w : World} {g n : Nat} {v : Value} (h : ByV w g v n) : Calls Tryz.prog 19 #[v] w (DgP n w) := (fromBy h).mono fun _ _ h => Dg.of h
theorem primeD {b : Nat} {c : Nums} (hf : Four b c) (w : World) : Calls Tryz.prog 20 #[.int .i64 (b : Nat)] w (DgP c.p w) := (primeO hf w).mono fun _ _ h => Dg.of h
set_option maxHeartbeats 16000000 in
set_option maxRecDepth 100000 in
theorem lawDoubleO (h : Own R w0 w []) (ae : Addr) (he : w.cell? ⟨2, 0, .none⟩ = some (eofV ae)) (x y : Int) (h0 : 0 ≤ x) (h1 : x < 256) (y0 : 0 ≤ y) (y1 : y < 18446744073709551616) :
 Calls Tryz.prog 3 #[.int .u8 x, .int .u64 y] w (fun e w' => e = .returned (.bool true) ∧ Own R w0 w' []) := by
 have S := Lib.hid (sizeO x w h0 h1)
 have HS0 := Lib.hid (And.intro h he)
 obtain ⟨A, rfl⟩ : ∃ A : Nat, y = A := ⟨y.toNat, by omega⟩
 obtain ⟨A4, hA4⟩ : ∃ a, a = A / 4 := ⟨_, rfl⟩
 have E1 : (A : Int) / 4 = (A4 : Int) := by omega
 obtain ⟨a, ha⟩ : ∃ a, a = A4 / 2 * 2 + 1 := ⟨_, rfl⟩
 have E2 : bits .or .u64 (A4 : Int) 1 = (a : Int) := by rw [ha]; exact u64_odd A4 (by omega)
 have HA := Lib.hid (show 0 < a ∧ a < 4611686018427387904 ∧ a / 2 * 2 + 1 = a from by omega)
 clear h he h0 h1 y0 y1 hA4 ha
 go_enter Tryz.func3, Tryz.ntmps3
 go_wp2_with fail
 refine S.out.mono ?_
 rintro en w1 ⟨b, c, hf, rfl, g1⟩
 have H1 := Lib.hid (And.intro (HS0.out.1.grownN g1) (g1.cell HS0.out.2 (by simp)))
 have N := Lib.hid (curveNamedO hf H1.out.1 ae H1.out.2)
 have HF := Lib.hid hf
 have HG1 := Lib.hid g1
 clear S g1 hf
 go_wp2_with fail
 refine N.out.mono ?_
 rintro en w2 ⟨vP, vN, vB, vX, vY, gP, gN, gB, gX, gY, rfl, k2, o2, ⟨bP, bN, bB, bX, bY⟩, z1, z2, z3, z4, z5⟩
 obtain ⟨oN, ns, rfl, -⟩ := bN
 obtain ⟨oP, ps, rfl, -⟩ := bP
 obtain ⟨oB, bs, rfl, -⟩ := bB
 obtain ⟨oX, xs, rX, -⟩ := id bX
 obtain ⟨oY, ys, rY, -⟩ := id bY
 generalize xs.length = lx at rX
 generalize ys.length = ly at rY
 generalize ps.length = lp
 generalize bs.length = lb
 generalize ns.length = ln
 subst rX rY
 obtain ⟨K, hK⟩ : ∃ K : Nat → Prop, K = fun k => R k ∨ k = gX ∨ k = gY ∨ k = w2.heap.size := ⟨_, rfl⟩
 have S3 := Lib.hid (named_start (cs27 := #[.slice (some ⟨gP, oP, .none⟩) lp lp, .slice (some ⟨gN, oN, .none⟩) ln ln, .slice (some ⟨gB, oB, .none⟩) lb lb, .slice (some ⟨gX, oX, .none⟩) lx lx, .slice (some ⟨gY, oY, .none⟩) ly ly, .int .i64 (b : Nat)]) hK HS0.out.1 (Grow.none HG1.out _) k2 o2 bX bY HS0.out.2)
 clear hK k2 o2 bX bY z1 z2 z3 z4 z5 N H1 HG1
 go_upto_region 4 with fail
 generalize hw3 : w2.alloc (.cells #[.slice (some ⟨gP, oP, .none⟩) lp lp, .slice (some ⟨gN, oN, .none⟩) ln ln, .slice (some ⟨gB, oB, .none⟩) lb lb, .slice (some ⟨gX, oX, .none⟩) lx lx, .slice (some ⟨gY, oY, .none⟩) ly ly, .int .i64 (b : Nat)] 27) = w3 at *
 generalize hcs : (#[.slice (some ⟨gP, oP, .none⟩) lp lp, .slice (some ⟨gN, oN, .none⟩) ln ln, .slice (some ⟨gB, oB, .none⟩) lb lb, .slice (some ⟨gX, oX, .none⟩) lx lx, .slice (some ⟨gY, oY, .none⟩) ly ly, .int .i64 (b : Nat)] : Array Value) = cs27 at *
 have hc3 : cs27[3]? = some (.slice (some ⟨gX, oX, .none⟩) lx lx) := by rw [← hcs]; rfl
 have hc4 : cs27[4]? = some (.slice (some ⟨gY, oY, .none⟩) ly ly) := by rw [← hcs]; rfl
 have HC := Lib.hid (And.intro hc3 hc4)
 clear hcs hc3 hc4 hw3
 have QQ := Lib.hid (fun (w' : World) (k : w3.grownBy w' .none) => (⟨k.cell (block_cell (k := 3) S3.out.1.blk HC.out.1) (by simp), k.cell (block_cell (k := 4) S3.out.1.blk HC.out.2) (by simp)⟩ : w'.cell? ⟨w2.heap.size, 3, .none⟩ = some (.slice (some ⟨gX, oX, .none⟩) lx lx) ∧ w'.cell? ⟨w2.heap.size, 4, .none⟩ = some (.slice (some ⟨gY, oY, .none⟩) ly ly)))
 obtain ⟨q3, q4⟩ := QQ.out w3 (grown_refl _ _)
 go_region_held3 (fun w' => w'.cell? ⟨w2.heap.size, 3, .none⟩ = some (.slice (some ⟨gX, oX, .none⟩) lx lx) ∧ w'.cell? ⟨w2.heap.size, 4, .none⟩ = some (.slice (some ⟨gY, oY, .none⟩) ly ly)) (go_keep) (first | (go_at_call 16; refine (mulS HF.out (S3.out.1.one A1.out.1 A1.out.2.1) A1.out.2.1 (S3.out.2.1.kept (R := fun _ => True) (Grow.none A1.out.1 _) trivial) (S3.out.2.2.1.kept (R := fun _ => True) (Grow.none A1.out.1 _) trivial) (.inl S3.out.2.2.2.1) (.inl S3.out.2.2.2.2) (.inr rfl) A1.out.2.2 HA.out.1 (by have := HF.out.room.1; have := HA.out; omega)).mono ?_; rintro en w6 hq; obtain ⟨X1, Y1, v1, v2, g1, g2, rfl, p1, k6, s6, b1, b2, z1, z2⟩ := (S3.out.1.one A1.out.1 A1.out.2.1).great hq; have q3 := block_cell (k := 3) s6.blk HC.out.1; have q4 := block_cell (k := 4) s6.blk HC.out.2; have S6 := Lib.hid (And.intro p1 (And.intro s6 (And.intro b1 (And.intro b2 (And.intro ((S3.out.2.1.kept (R := fun _ => True) (Grow.none A1.out.1 _) trivial).kept k6 (.inl S3.out.2.2.2.1)) ((S3.out.2.2.1.kept (R := fun _ => True) (Grow.none A1.out.1 _) trivial).kept k6 (.inl S3.out.2.2.2.2))))))); clear hq p1 k6 s6 b1 b2 z1 z2) | (go_at_call 17; refine (shortS _ a (by have := HA.out; omega)).mono ?_; rintro en u1 ⟨ks, hb, e1, e2, e3⟩; obtain ⟨g, cap, rfl, sl, gr, gz⟩ := hb.sl e2 (by omega); have gg := (grown_drewN w3 _ .none).trans gr; obtain ⟨q3, q4⟩ := QQ.out _ gg; rw [HA.out.2.2] at e1; have A1 := Lib.hid (And.intro gg (And.intro sl e1)); clear hb e1 e2 e3 sl gr gz gg))
 clear QQ
 have H6 := Lib.hid (And.intro HS0.out (And.intro S3.out.2.2.2.1 S3.out.2.2.2.2))
 clear S3 A1
 have QQ := Lib.hid (fun (w' : World) (k : w6.grownBy w' .none) => (⟨k.cell q3 (by simp), k.cell q4 (by simp)⟩ : w'.cell? ⟨w2.heap.size, 3, .none⟩ = some (.slice (some ⟨gX, oX, .none⟩) lx lx) ∧ w'.cell? ⟨w2.heap.size, 4, .none⟩ = some (.slice (some ⟨gY, oY, .none⟩) ly ly)))
 obtain ⟨a2, ha2⟩ : ∃ a2, a2 = 2 * a := ⟨_, rfl⟩
 have HA2 := Lib.hid ha2
 have E3 : IntKind.u64.wrap (2 * (a : Int)) = (a2 : Int) := by rw [IntKind.wrap_u64]; have := HA.out; omega
 have E4 : (2 * (a : Int)) % 18446744073709551616 = (a2 : Int) := by have := HA.out; omega
 have E5 : wrap64 (a2 : Int) = (a2 : Int) := wrapN rfl (by have := HA.out; omega)
 have E6 : IntKind.i64.wrap (a2 : Int) = (a2 : Int) := by rw [IntKind.wrap_i64]; have := HA.out; omega
 clear ha2
 go_upto_region 5 with fail
 go_region_held3 (fun w' => w'.cell? ⟨w2.heap.size, 3, .none⟩ = some (.slice (some ⟨gX, oX, .none⟩) lx lx) ∧ w'.cell? ⟨w2.heap.size, 4, .none⟩ = some (.slice (some ⟨gY, oY, .none⟩) ly ly)) (go_keep) (first | (go_at_call 16; refine (mulS HF.out (S6.out.2.1.one A2.out.1 A2.out.2.1) A2.out.2.1 (S6.out.2.2.2.2.1.kept (R := fun _ => True) (Grow.none A2.out.1 _) trivial) (S6.out.2.2.2.2.2.kept (R := fun _ => True) (Grow.none A2.out.1 _) trivial) (.inl (.inl (.inl H6.out.2.1))) (.inl (.inl (.inl H6.out.2.2))) (.inr rfl) A2.out.2.2 (by have := HA.out; have := HA2.out; omega) (by have := HF.out.room.1; have := HA.out; have := HA2.out; omega)).mono ?_; rintro en w8 hq; obtain ⟨X2, Y2, v3, v4, g3, g4, rfl, p1, k8, s8, b3, b4, z1, z2⟩ := (S6.out.2.1.one A2.out.1 A2.out.2.1).great hq; have q3 := block_cell (k := 3) s8.blk HC.out.1; have q4 := block_cell (k := 4) s8.blk HC.out.2; have S8 := Lib.hid (And.intro p1 (And.intro s8 (And.intro ((S6.out.2.2.1.kept (R := fun _ => True) (Grow.none A2.out.1 _) trivial).kept k8 (.inl (.inr (.inl rfl)))) (And.intro ((S6.out.2.2.2.1.kept (R := fun _ => True) (Grow.none A2.out.1 _) trivial).kept k8 (.inl (.inr (.inr rfl)))) (And.intro b3 b4))))); clear hq p1 k8 s8 b3 b4 z1 z2) | (go_at_call 18; refine (bytesOf _ a2 0 (by have := HA.out; have := HA2.out; omega) (by decide)).mono ?_; rintro en u1 ⟨ks2, hb, e1, e2, e3⟩; obtain ⟨gb, capb, rfl, sl, gr, gz⟩ := hb.sl e2 (by omega); have gg := (grown_drewN w6 _ .none).trans gr; obtain ⟨q3, q4⟩ := QQ.out _ gg; have A2 := Lib.hid (And.intro gg (And.intro sl e1)); clear hb e1 e2 e3 sl gr gz gg))
 have FS := Lib.hid (double_sum HF.out.grp S6.out.1 (HA2.out ▸ S8.out.1))
 have C1 := Lib.hid (coords_lt HF.out.grp S6.out.1)
 have C2 := Lib.hid (coords_lt HF.out.grp S8.out.1)
 have BB := Lib.hid (fun (w' : World) (k : w8.grownBy w' .none) => (
  have kk : Kept (fun _ => True) w8 w' := Grow.none k _
  ⟨S8.out.2.2.1.kept kk trivial, S8.out.2.2.2.1.kept kk trivial, S8.out.2.2.2.2.1.kept kk trivial, S8.out.2.2.2.2.2.kept kk trivial⟩ : ByV w' g1 v1 X1 ∧ ByV w' g2 v2 Y1 ∧ ByV w' g3 v3 X2 ∧ ByV w' g4 v4 Y2))
 have HK := Lib.hid (fun (w' : World) (k : w8.grownBy w' .none) => HS0.out.1.turned (S8.out.2.1.kept.trans (Grow.none k _)))
 have PD := Lib.hid (primeD HF.out w8)
 have FDD := Lib.hid HF.out.fd
 clear S6 A2 QQ H6 HS0 HA HA2 HC HF E1 E2 E3 E4 E5 E6 q3 q4 S8
 go_wp2_with fail
 refine PD.out.mono ?_
 rintro en r0 ⟨f0, rfl, d0, gr0⟩
 obtain ⟨pf, cf, rfl, -⟩ := id d0
 have A0 := Lib.hid (And.intro gr0 d0)
 clear gr0 d0 PD
 go_wp2_with fail
 refine (fromD (BB.out _ A0.out.1).1).mono ?_
 rintro en r1 ⟨f1, rfl, d1, gr1⟩
 obtain ⟨px1, cx1, rfl, -⟩ := id d1
 have A1 := Lib.hid (And.intro (A0.out.1.trans gr1) (And.intro (A0.out.2.kept gr1) (d1)))
 clear gr1 d1 A0
 go_wp2_with fail
 refine (fromD (BB.out _ A1.out.1).2.1).mono ?_
 rintro en r2 ⟨f2, rfl, d2, gr2⟩
 obtain ⟨py1, cy1, rfl, -⟩ := id d2
 have A2 := Lib.hid (And.intro (A1.out.1.trans gr2) (And.intro (A1.out.2.1.kept gr2) (And.intro (A1.out.2.2.kept gr2) (d2))))
 clear gr2 d2 A1
 go_wp2_with fail
 refine (fromD (BB.out _ A2.out.1).1).mono ?_
 rintro en r3 ⟨f3, rfl, d3, gr3⟩
 obtain ⟨px1b, cx1b, rfl, -⟩ := id d3
 have A3 := Lib.hid (And.intro (A2.out.1.trans gr3) (And.intro (A2.out.2.1.kept gr3) (And.intro (A2.out.2.2.1.kept gr3) (And.intro (A2.out.2.2.2.kept gr3) (d3)))))
 clear gr3 d3 A2
 go_wp2_with fail
 refine (fromD (BB.out _ A3.out.1).2.1).mono ?_
 rintro en r4 ⟨f4, rfl, d4, gr4⟩
 obtain ⟨py1b, cy1b, rfl, -⟩ := id d4
 have A4 := Lib.hid (And.intro (A3.out.1.trans gr4) (And.intro (A3.out.2.1.kept gr4) (And.intro (A3.out.2.2.1.kept gr4) (And.intro (A3.out.2.2.2.1.kept gr4) (And.intro (A3.out.2.2.2.2.kept gr4) (d4))))))
 clear gr4 d4 A3
 go_wp2_with fail
 refine (fromD (BB.out _ A4.out.1).2.2.1).mono ?_
 rintro en r5 ⟨f5, rfl, d5, gr5⟩
 obtain ⟨px2, cx2, rfl, -⟩ := id d5
 have A5 := Lib.hid (And.intro (A4.out.1.trans gr5) (And.intro (A4.out.2.1.kept gr5) (And.intro (A4.out.2.2.1.kept gr5) (And.intro (A4.out.2.2.2.1.kept gr5) (And.intro (A4.out.2.2.2.2.1.kept gr5) (And.intro (A4.out.2.2.2.2.2.kept gr5) (d5)))))))
 clear gr5 d5 A4
 go_wp2_with fail
 refine (fromD (BB.out _ A5.out.1).2.2.2).mono ?_
 rintro en r6 ⟨f6, rfl, d6, gr6⟩
 obtain ⟨py2, cy2, rfl, -⟩ := id d6
 have A6 := Lib.hid (And.intro (A5.out.1.trans gr6) (And.intro (A5.out.2.1.kept gr6) (And.intro (A5.out.2.2.1.kept gr6) (And.intro (A5.out.2.2.2.1.kept gr6) (And.intro (A5.out.2.2.2.2.1.kept gr6) (And.intro (A5.out.2.2.2.2.2.1.kept gr6) (And.intro (A5.out.2.2.2.2.2.2.kept gr6) (d6))))))))
 clear gr6 d6 A5
 go_wp2_with fail
 refine (isSumT FDD.out A6.out.2.1 (dg_nil _) A6.out.2.2.1 A6.out.2.2.2.1 A6.out.2.2.2.2.1 A6.out.2.2.2.2.2.1 A6.out.2.2.2.2.2.2.1 A6.out.2.2.2.2.2.2.2 FDD.out.pos C1.out.1 C1.out.2 C1.out.1 C1.out.2 C2.out.1 C2.out.2 FS.out).mono ?_
 rintro en r7 ⟨rfl, gr7⟩
 have HE := Lib.hid (HK.out _ (A6.out.1.trans gr7))
 clear gr7 A6 BB HK
 go_wp2_with fail
 go_ret
 exact ⟨rfl, HE.out⟩
end
end Go.Proofs.YtohhkjamddojmaaGreatDoor.Bit

namespace Go.Proofs.YtohhkjamddojmaaGreatDoor.Bit
open Go.ChangeShapes Go.WideShapes Go.ChangeAt Go.RowKit
open Big EcLaw

theorem tab_one3 {W : World} {n : String} {x : Int} (h : laidMetH Tryz.prog Rows.fnNamedDoubleRow.laid W) (e : (Rows.fnNamedDoubleRow.laid.filter (fun y => y.1 == n)).filter (fun x => x.2.handleName?.isNone) = [(n, .lit (.int .i64 x))]) : laidMet Tryz.prog [(n, .lit (.int .i64 x))] W := by
 have := (laidMetH_iff.1 (h.filter (fun y => y.1 == n))).1
 rw [e] at this
 exact this
theorem tab_of3 {W : World} (h : laidMetH Tryz.prog Rows.fnNamedDoubleRow.laid W) : Tab W :=
 ⟨cell_of_laid (n := "pub-counterseal/pub/bigall.basicSqrThreshold") (by kernel_rfl) (by kernel_rfl) (tab_one3 h (by kernel_rfl)),
  cell_of_laid (n := "pub-counterseal/pub/bigall.karatsubaSqrThreshold") (by kernel_rfl) (by kernel_rfl) (tab_one3 h (by kernel_rfl)),
  cell_of_laid (n := "pub-counterseal/pub/bigall.karatsubaThreshold") (by kernel_rfl) (by kernel_rfl) (tab_one3 h (by kernel_rfl)),
  cell_of_laid (n := "pub-counterseal/pub/bigall.divRecursiveThreshold") (by kernel_rfl) (by kernel_rfl) (tab_one3 h (by kernel_rfl))⟩
theorem eof_of3 {W : World} (h : laidMetH Tryz.prog Rows.fnNamedDoubleRow.laid W) : ∃ ae, W.cell? ⟨2, 0, none⟩ = some (eofV ae) := by
 have := (laidMetH_iff.1 (h.filter (fun y => y.1 == "io.EOF"))).1
 rw [show (Rows.fnNamedDoubleRow.laid.filter (fun y => y.1 == "io.EOF")).filter (fun x => x.2.handleName?.isNone) = [("io.EOF", Rows.laid_io_EOF)] by kernel_rfl] at this
 exact eof_of this

set_option maxRecDepth 100000 in
theorem contract3 (H : Type) (enc : TypeId × Value → H) (W : World) (base : Nat) (args : Array Value) (ds gs : List (DataW H)) (before : List MemPlace) (hL : laidMetH Tryz.prog Rows.fnNamedDoubleRow.laid W)
 (hval0 : ∀ (j : Nat) t v, Tryz.f3.params[j]? = some t → args[j]? = some v → Value.okWide Tryz.prog W .any base t v)
 (hW : DataW.Whole enc Tryz.prog Tryz.f3.params.toList Rows.fnNamedDoubleSpec.vars false W args.toList ds gs before) :
 Calls Tryz.prog 3 args W fun e W' => ∃ v, e = .returned v ∧ Rows.fnNamedDoubleSpec.post enc Tryz.prog Tryz.f3 false true false false W args v W' := by
 have hval : ∀ (j : Nat) t v, Tryz.f3.params[j]? = some t → args[j]? = some v → Value.okWide Tryz.prog W .any base t v := hval0
 have hW' := hW
 obtain ⟨p, q, hA0, hV, rfl, hfz, hnd⟩ := hW
 have hA : DataW.TrodAll enc Tryz.prog W 0 (fun _ => true) true Tryz.f3.params.toList args.toList ds p := hA0
 rw [Tryz.params3] at hA hval
 obtain ⟨v0, vs0, d0, ds0, p0, q0, hargs, rfl, rfl, h0, r0⟩ := trodAll_cons hA
 obtain ⟨v1, vs1, d1, ds1, p1, q1, rfl, rfl, rfl, h1, r1⟩ := trodAll_cons r0
 obtain ⟨rfl, rfl, rfl⟩ := trodAll_nil r1
 obtain rfl : args = #[v0, v1] := by cases args; simp_all
 obtain ⟨rfl, rfl⟩ := trodVars_none hV
 obtain ⟨t0, u0, rfl⟩ := u8_of (hval 0 5 v0 rfl rfl) h0
 obtain ⟨t1, u1, rfl⟩ := u64_of (hval 1 22 v1 rfl rfl) h1
 have lt0 : ∀ x ∈ p0, x.block < W.heap.size := by obtain ⟨m, hm⟩ := h0; exact DataW.trod_lt m _ _ _ hm
 have lt1 : ∀ x ∈ p1, x.block < W.heap.size := by obtain ⟨m, hm⟩ := h1; exact DataW.trod_lt m _ _ _ hm
 obtain ⟨ae, hae⟩ := eof_of3 hL
 clear hA0 hval0
 refine (lawDoubleO (own_start (tab_of3 hL)) ae hae t0 t1 (by omega) (by omega) (by omega) (by omega)).mono fun e W' ⟨he, hO⟩ => ?_
 subst he
 have bel := below_of hO
 exact ⟨_, rfl, _, _, _, [], _, [], hW', trodAll_mk1 (shut_bool Tryz.underlying4 _), (trodAll_cons_mk (Below.trod laidOut (by kernel_rfl) (of_decide_eq_true (by kernel_rfl)) h0 bel lt0) (trodAll_cons_mk (Below.trod laidOut (by kernel_rfl) (of_decide_eq_true (by kernel_rfl)) h1 bel lt1) trodAll_mk0)), rfl, bel.frame _, fun h => by cases h⟩

theorem laid_met3 (os : Os) : laidMetH Tryz.prog Rows.fnNamedDoubleRow.laid ((World.doorLaid Tryz.prog 400 os).forCall (fun _ _ => 0) ⟨#[], #[.int .u8 0, .int .u64 0], []⟩).memory :=
 laidMetH_of_parts3 (fuel := 8) (laidMet_of_run' 8 (by kernel_rfl) (by kernel_rfl)) (by kernel_rfl) (by kernel_rfl)
theorem reads3 (os : Os) {H : Type} (enc : TypeId × Value → H) : ∃ places, DataW.whole enc Tryz.prog ((World.doorLaid Tryz.prog 400 os).forCall (fun _ _ => 0) ⟨#[], #[.int .u8 0, .int .u64 0], []⟩).memory Tryz.f3.params.toList Rows.fnNamedDoubleSpec.vars false (#[.int .u8 0, .int .u64 0] : Array Value).toList 8 = some ([.lit (.int .u8 0), .lit (.int .u64 0)], [], places) :=
 ⟨[], by kernel_rfl⟩

set_option maxRecDepth 100000 in
theorem lifted3 (os : Os) (started : os.Started) (H : Type) (enc : TypeId × Value → H) (F : Stop.Interp) :
 ReturnsInHanded {} Tryz.checked os 3 .any ((OpenSpec.ofChange Rows.fnNamedDoubleSpec).preRow enc Tryz.prog Tryz.f3 Rows.fnNamedDoubleRow.domain false Rows.fnNamedDoubleRow.laid) (((OpenSpec.ofChange Rows.fnNamedDoubleSpec).at F).post enc Tryz.prog Tryz.f3 false true false false) := by
 obtain ⟨places, hx⟩ := reads3 os enc
 refine returnsInHanded_of_row (C := Tryz.checked) (s := OpenSpec.ofChange Rows.fnNamedDoubleSpec) own started (by kernel_rfl) Tryz.func3
  (witness_row_atRef (enc := enc) (C := Tryz.checked) false (World.doorLaid Tryz.prog 400 os) #[.int .u8 0, .int .u64 0] rfl (by kernel_rfl) (by kernel_rfl) (by kernel_rfl)
   (OpenSpec.preRow_of_cond 8 hx (by kernel_rfl) (fun k hk => by cases hk) (by kernel_rfl) (laid_met3 os))) ?_
 intro W base args ds gs before hval hW _ _ _ hL _ _
 exact contract3 H enc W base args ds gs before hL hval hW
end Go.Proofs.YtohhkjamddojmaaGreatDoor.Bit
