/- ScalarMult on a curve that is worked with by its twist. -/
import Derived.Test.YtohhkjamddojmaaGreatDoorKB
namespace Go.Proofs.YtohhkjamddojmaaGreatDoor.Big
open Go.RowKit
open EcLaw (Pt Prm On Cv)
attribute [local go_sem] ptr
attribute [local irreducible] Sz

theorem method_mul (a : Addr) (w : World) : (method 437 129 (.pointer (some a)) "ScalarMult").run Tryz.prog w = .ok (296, .pointer (some a)) w := by kernel_rfl
theorem method_rmul (a : Addr) (w : World) : (method 437 181 (.pointer (some a)) "ScalarMult").run Tryz.prog w = .ok (310, .pointer (some a)) w := by kernel_rfl
theorem ahead_rmul (a : Addr) (w : World) : (nilAhead 437 181 (.pointer (some a)) "ScalarMult").run Tryz.prog w = .ok (some false) w := by kernel_rfl
section
variable {R : Nat → Prop} {w0 w w' : World} {L L' : List (Nat × Int)}
set_option maxHeartbeats 16000000 in
set_option maxRecDepth 100000 in
theorem rMulO (h : Own R w0 w L) {rc ct c n1 n2 n3 n4 P Q B i1 i2 i3 i4 iP iQ iB A C D E b p : Nat} (K : RcAt R w rc ct c n1 n2 n3 n4 P Q B) (M : RcL L n1 n2 n3 n4 P Q B i1 i2 i3 i4 iP iQ iB A C D E b p) (hcv : Cv (p : Int) (-3) b) (x1 y1 k1 l1 X1 Y1 : Nat)
    (hx1 : L[k1]? = some (x1, (X1 : Int))) (hy1 : L[l1]? = some (y1, (Y1 : Int))) (kb ko kc : Nat) (ks : List Nat) (hRk : R kb) (hk : ∀ i, i < ks.length → w.cell? ⟨kb, ko + i, .none⟩ = some (.int .u8 (ks.getD i 0 : Nat))) (hks : ∀ i, ks.getD i 0 < 256) (hlen : ks.length < 1000000) (sX1 : X1 < B64) (sY1 : Y1 < B64)
    (o1 : On p (-3) b (.aff ((X1 * A % p : Nat) : Int) ((Y1 * C % p : Nat) : Int))) (m1 : ¬ (((X1 * A % p : Nat) : Int) = 0 ∧ ((Y1 * C % p : Nat) : Int) = 0)) :
    Calls Tryz.prog 310 #[ptr rc, ptr x1, ptr y1, .slice (some ⟨kb, ko, .none⟩) ks.length kc] w (DuoO R w0 L (BackQ p D E (EcLaw.mul p (-3) (bev ks) (.aff ((X1 * A % p : Nat) : Int) ((Y1 * C % p : Nat) : Int))))) := by
  have hp := hcv.prm
  have h2 := hp.two
  have p0 : 0 < p := by omega
  have T1 := Lib.hid (toTw h.since K M p0 x1 y1 k1 l1 X1 Y1 hx1 hy1 sX1 sY1)
  obtain ⟨tX1, e1⟩ : ∃ t, t = ((X1 * A % p : Nat) : Int) := ⟨_, rfl⟩
  obtain ⟨tY1, e2⟩ : ∃ t, t = ((Y1 * C % p : Nat) : Int) := ⟨_, rfl⟩
  rw [← e1, ← e2]
  rw [← e1, ← e2] at o1 m1
  rw [← e1, ← e2] at T1
  have AD := Lib.hid (fun w1 (tx1 ty1 : Nat) (o : Own R w w1 ((ty1, tY1) :: (tx1, tX1) :: L)) => scalarO o ct tx1 ty1 Q B kb ko kc 1 0 (iQ + 2) (iB + 2) ks tX1 tY1 (b : Int) p (K.kept o.kept).cQ (K.kept o.kept).cB K.Rt rfl rfl M.hQ M.hB hRk (fun i hi => o.kept.cell hRk (hk i hi)) hks hlen M.pB (sz64 M.sb) hcv o1 m1)
  have FR := Lib.hid (fun w1 (x y : Nat) (U V : Int) (a1 a2 : Nat × Int) (hU : 0 ≤ U ∧ U < (p : Int)) (hV : 0 ≤ V ∧ V < (p : Int)) (o : Own R w w1 ((y, V) :: (x, U) :: a1 :: a2 :: L)) => fromTw o (K.kept o.kept) ((((M.cons a2).cons a1).cons (x, U)).cons (y, V)) p0 x y 1 0 U V rfl rfl (sz350_of M.pB hU) (sz350_of M.pB hV))
  have K0 := Lib.hid (fun (w' : World) (k : Kept R w w') => (k.cell K.Rr K.c0 : w'.cell? ⟨rc, 0, .none⟩ = some (.iface 129 (ptr ct))))
  have HSS := Lib.hid h
  have hm := method_mul
  have cI := K.c0
  clear h K M hcv hRk hk hks hlen hp hx1 hy1 sX1 sY1 o1 m1 h2 p0 e1 e2
  unfold ptr at *
  go_enter Tryz.func310, Tryz.ntmps310
  go_wp2_with fail
  refine T1.out.mono ?_
  rintro en w1 ⟨tx1, ty1, rfl, hq⟩
  have cI := K0.out _ hq.kept
  have H1 := Lib.hid hq
  clear hq
  go_wp2_with fail
  refine (AD.out _ _ _ H1.out).mono ?_
  rintro en w3 ⟨x3, y3, U, V, rfl, hq, n1, n2, hs, hU, hV⟩
  have H3 := Lib.hid hq
  have HS := Lib.hid (And.intro hs (And.intro hU hV))
  clear hq n1 n2 hs hU hV
  go_wp2_with fail
  refine (FR.out _ _ _ _ _ _ _ HS.out.2.1 HS.out.2.2 H3.out).mono ?_
  rintro en w4 ⟨x4, y4, U', V', rfl, hq, n1, n2, hs⟩
  have hO : Own R w w4 (((y4, V') : Nat × Int) :: (x4, U') :: L) := Own.choose (L := L) (A := [(y4, V'), (x4, U'), (y3, V), (x3, U), (ty1, tY1), (tx1, tX1)]) hq [0, 1] (by decide) (by simp)
  have HO := Lib.hid (HSS.out.after hO)
  have HN := Lib.hid (And.intro n1 n2)
  have HB := Lib.hid hs
  clear hq hO n1 n2 hs
  go_wp2_with fail
  go_ret2
  exact ⟨x4, y4, U', V', rfl, HO.out, HN.out.1, HN.out.2, U, V, HS.out.1, HB.out.1, HB.out.2⟩

set_option maxHeartbeats 16000000 in
set_option maxRecDepth 100000 in
theorem twistMul1 (h : Own R w0 w L) (b0 b1 b2 b3 p b z X1 Y1 : Nat) (kb ko kc : Nat) (ks : List Nat) (hRk : R kb) (hk : ∀ i, i < ks.length → w.cell? ⟨kb, ko + i, .none⟩ = some (.int .u8 (ks.getD i 0 : Nat))) (hks : ∀ i, ks.getD i 0 < 256) (hlen : ks.length < 1000000) (hc0 : w.cell? ⟨b0, 0, .none⟩ = some (.int .i64 (p : Nat))) (hc1 : w.cell? ⟨b0, 1, .none⟩ = some (.int .i64 (b : Nat))) (hc2 : w.cell? ⟨b0, 2, .none⟩ = some (.int .i64 (z : Nat))) (hc3 : w.cell? ⟨b1, 0, .none⟩ = some (.int .i64 (X1 : Nat))) (hc4 : w.cell? ⟨b2, 0, .none⟩ = some (.int .i64 (Y1 : Nat))) (hc5 : w.cell? ⟨b3, 0, .none⟩ = some (.slice (some ⟨kb, ko, .none⟩) ks.length kc)) (hR0 : R b0) (hR1 : R b1) (hR2 : R b2) (hR3 : R b3)
    (z0 : 0 < z) (zp : z < p) (bp : b < p) (p2 : 2 ≤ p) (p63 : p < 9223372036854775808) (hgc : Int.gcd z p = 1) (hcv : Cv (p : Int) (-3) b) (hX1 : X1 < p) (hY1 : Y1 < p) (o1 : On p (-3) b (.aff ((X1 * (z ^ 2 % p) % p : Nat) : Int) ((Y1 * (z ^ 3 % p) % p : Nat) : Int))) (m1 : ¬ (((X1 * (z ^ 2 % p) % p : Nat) : Int) = 0 ∧ ((Y1 * (z ^ 3 % p) % p : Nat) : Int) = 0)) :
    Calls Tryz.prog 95 #[ptr b0, ptr b1, ptr b2, ptr b3] w (fun e w' => ∃ (tx ty X Y : Nat) (M : List (Nat × Int)), e = .returned (.tuple #[ptr tx, ptr ty]) ∧ Own R w0 w' ((ty, (Y : Int)) :: (tx, (X : Int)) :: M) ∧ X < 9223372036854775808 ∧ Y < 9223372036854775808 ∧ BackZ p z (EcLaw.mul p (-3) (bev ks) (.aff ((X1 * (z ^ 2 % p) % p : Nat) : Int) ((Y1 * (z ^ 3 % p) % p : Nat) : Int))) X Y) := by
  have PBB : p < B64 := Nat.lt_trans p63 (by decide : 9223372036854775808 < B64)
  have hp0 : 0 < p := by omega
  have HS0 := Lib.hid h.since
  have HSS := Lib.hid h
  have K5 := Lib.hid (fun (w' : World) (k : Kept R w w') => (⟨k.cell hR0 hc0, k.cell hR0 hc1, k.cell hR0 hc2, k.cell hR1 hc3, k.cell hR2 hc4, k.cell hR3 hc5⟩ : w'.cell? ⟨b0, 0, .none⟩ = some (.int .i64 (p : Nat)) ∧ w'.cell? ⟨b0, 1, .none⟩ = some (.int .i64 (b : Nat)) ∧ w'.cell? ⟨b0, 2, .none⟩ = some (.int .i64 (z : Nat)) ∧ w'.cell? ⟨b1, 0, .none⟩ = some (.int .i64 (X1 : Nat)) ∧ w'.cell? ⟨b2, 0, .none⟩ = some (.int .i64 (Y1 : Nat)) ∧ w'.cell? ⟨b3, 0, .none⟩ = some (.slice (some ⟨kb, ko, .none⟩) ks.length kc)))
  have HCV := Lib.hid (fun n => curveO (h.since.drew n) p b z z0 zp bp p2 p63 hgc)
  have HON := Lib.hid (fun (w1 : World) (rc ct c qP qB pP pB pz n1 n2 n3 n4 zi t px1 py1 : Nat) (G : Nat → Prop) (hb : w1.heap[rc]? = some (.cells #[.iface 129 (ptr ct), ptr c, ptr pz, ptr zi, ptr n1, ptr n2, ptr n3, ptr n4] 208) ∧
      w1.heap[c]? = some (.cells #[ptr pP, .pointer .none, ptr pB, .pointer .none, .pointer .none, .int .i64 0, .string ⟨#[]⟩] 184) ∧ w1.heap[ct]? = some (.cells #[ptr qP, .pointer .none, ptr qB, .pointer .none, .pointer .none, .int .i64 0, .string ⟨#[]⟩] 184) ∧ G rc ∧ G c ∧ G ct)
      (hGk : G kb) (hk1 : ∀ i, i < ks.length → w1.cell? ⟨kb, ko + i, .none⟩ = some (.int .u8 (ks.getD i 0 : Nat)))
      (w3 : World) (o : Own G w1 w3 ((py1, (Y1 : Int)) :: (px1, (X1 : Int)) :: (n4, ((t ^ 3 % p : Nat) : Int)) :: (n3, ((t ^ 2 % p : Nat) : Int)) :: (n2, ((z ^ 3 % p : Nat) : Int)) :: (n1, ((z ^ 2 % p : Nat) : Int)) :: (pz, (z : Int)) :: (pB, (b : Int)) :: (pP, (p : Int)) :: (qB, (b : Int)) :: (qP, (p : Int)) :: L)) =>
    rMulO o (⟨block_cell (o.block hb.1 hb.2.2.2.1) rfl, block_cell (o.block hb.1 hb.2.2.2.1) rfl, block_cell (o.block hb.1 hb.2.2.2.1) rfl, block_cell (o.block hb.1 hb.2.2.2.1) rfl, block_cell (o.block hb.1 hb.2.2.2.1) rfl, block_cell (o.block hb.1 hb.2.2.2.1) rfl, block_cell (o.block hb.2.1 hb.2.2.2.2.1) rfl, block_cell (o.block hb.2.2.1 hb.2.2.2.2.2) rfl, block_cell (o.block hb.2.2.1 hb.2.2.2.2.2) rfl, hb.2.2.2.1, hb.2.2.2.2.1, hb.2.2.2.2.2⟩ : RcAt G w3 rc ct c n1 n2 n3 n4 pP qP qB)
      (⟨rfl, rfl, rfl, rfl, rfl, rfl, rfl, PBB, Nat.lt_trans (Nat.mod_lt _ hp0) PBB, Nat.lt_trans (Nat.mod_lt _ hp0) PBB, Nat.lt_trans (Nat.mod_lt _ hp0) PBB, Nat.lt_trans (Nat.mod_lt _ hp0) PBB, Nat.lt_trans bp PBB⟩ : RcL ((py1, (Y1 : Int)) :: (px1, (X1 : Int)) :: (n4, ((t ^ 3 % p : Nat) : Int)) :: (n3, ((t ^ 2 % p : Nat) : Int)) :: (n2, ((z ^ 3 % p : Nat) : Int)) :: (n1, ((z ^ 2 % p : Nat) : Int)) :: (pz, (z : Int)) :: (pB, (b : Int)) :: (pP, (p : Int)) :: (qB, (b : Int)) :: (qP, (p : Int)) :: L) n1 n2 n3 n4 pP qP qB 5 4 3 2 8 10 9 (z ^ 2 % p) (z ^ 3 % p) (t ^ 2 % p) (t ^ 3 % p) b p)
      hcv px1 py1 1 0 X1 Y1 rfl rfl kb ko kc ks hGk (fun i hi => o.kept.cell hGk (hk1 i hi)) hks hlen (Nat.lt_trans hX1 PBB) (Nat.lt_trans hY1 PBB) o1 m1)
  have P63 := Lib.hid p63
  have HRK := Lib.hid hRk
  have HKC := Lib.hid hk
  have P0 := Lib.hid hp0
  have X163 := Lib.hid (Nat.lt_trans hX1 p63)
  have Y163 := Lib.hid (Nat.lt_trans hY1 p63)
  obtain ⟨AA, hAA⟩ : ∃ AA : Pt, AA = EcLaw.mul p (-3) (bev ks) (.aff ((X1 * (z ^ 2 % p) % p : Nat) : Int) ((Y1 * (z ^ 3 % p) % p : Nat) : Int)) := ⟨_, rfl⟩
  rw [← hAA] at HON ⊢
  have hm := method_rmul
  have hna := ahead_rmul
  clear h hR0 hR1 hR2 hR3 hRk hk hks hlen z0 zp bp p2 p63 hgc hcv hX1 hY1 o1 m1 PBB hp0 hAA
  unfold ptr at *
  go_enter Tryz.func95, Tryz.ntmps95
  go_wp2_with fail
  go_region_held3 (fun w' => w'.cell? ⟨b0, 0, .none⟩ = some (.int .i64 (p : Nat)) ∧ w'.cell? ⟨b0, 1, .none⟩ = some (.int .i64 (b : Nat)) ∧ w'.cell? ⟨b0, 2, .none⟩ = some (.int .i64 (z : Nat)) ∧ w'.cell? ⟨b1, 0, .none⟩ = some (.int .i64 (X1 : Nat)) ∧ w'.cell? ⟨b2, 0, .none⟩ = some (.int .i64 (Y1 : Nat)) ∧ w'.cell? ⟨b3, 0, .none⟩ = some (.slice (some ⟨kb, ko, .none⟩) ks.length kc)) (go_keep) (first | (go_at_call 310; refine (HON.out w1 rc ct c qP qB pP pB pz n1 n2 n3 n4 zi t px1 py1 G H1.out HGK.out HK1.out _ N2.out).mono ?_; rintro en w9 ⟨tx, ty, U, V, rfl, hq, e1, e2, hs⟩; obtain ⟨q0, q1, q2, q3, q4, q5⟩ := K5.out _ (HU.out _ _ hq).kept; have H9 := Lib.hid hq; have HB := Lib.hid hs; clear hq e1 e2 hs) | (go_at_call 78; refine (numO N1.out Y1 Y163.out).mono ?_; rintro en v2 ⟨py1, rfl, hq, e1⟩; obtain ⟨q0, q1, q2, q3, q4, q5⟩ := K5.out _ (HU.out _ _ hq).kept; have N2 := Lib.hid hq; clear hq e1) | (go_at_call 78; refine (numO O1.out X1 X163.out).mono ?_; rintro en v1 ⟨px1, rfl, hq, e1⟩; obtain ⟨q0, q1, q2, q3, q4, q5⟩ := K5.out _ (HU.out _ _ hq).kept; have N1 := Lib.hid hq; clear hq e1) | (go_at_call 88; refine (HCV.out _).mono ?_; rintro en w1 ⟨rc, ct, c, qP, qB, pP, pB, pz, n1, n2, n3, n4, zi, t, G, rfl, a1, a2, a3, a4, a5, a6, a7, a8, a9, a10, a11⟩; have H1 := Lib.hid (And.intro a4 (And.intro a5 (And.intro a6 (And.intro a1 (And.intro a2 a3))))); have O1 := Lib.hid a7; have HU := Lib.hid a8; have HTT := Lib.hid (And.intro a10 a11); have HGK := Lib.hid (a9 kb HRK.out); have HK1 := Lib.hid (fun i hi => (HU.out _ _ a7).kept.cell HRK.out (HKC.out i hi)); obtain ⟨q0, q1, q2, q3, q4, q5⟩ := K5.out _ (HU.out _ _ a7).kept; clear a1 a2 a3 a4 a5 a6 a7 a8 a9 a10 a11))
  all_goals
    obtain ⟨XX, YY, eU, eV, hX, hY⟩ := backq_nat P0.out HB.out
    have HF := Lib.hid (show BackZ p z AA XX YY from ⟨t, HTT.out.1, HTT.out.2, by rw [← eU, ← eV]; exact HB.out⟩)
    have HO := Lib.hid (HSS.out.after (HU.out _ _ H9.out))
    subst eU eV
    have HL := Lib.hid (And.intro (Nat.lt_trans hX P63.out) (Nat.lt_trans hY P63.out))
    clear hX hY HB H9 HU H1 O1 HON HCV K5 HGK HK1 HRK HKC
    go_wp2_with fail
    go_ret2
    exact ⟨tx, ty, XX, YY, _, rfl, HO.out, HL.out.1, HL.out.2, HF.out⟩

set_option maxHeartbeats 16000000 in
set_option maxRecDepth 100000 in
theorem pointMul (h : Own R w0 w []) (cap : Array Value) (Post : Nat → Nat → Prop)
    (hF : ∀ w1, Own (RO (RO (RO R w.heap.size) (w.heap.size + 1)) (w.heap.size + 1 + 1)) w1 w1 [] → Kept R w w1 → Calls Tryz.prog 95 cap w1 (fun e w' => ∃ (tx ty X Y : Nat) (M : List (Nat × Int)), e = .returned (.tuple #[ptr tx, ptr ty]) ∧ Own (RO (RO (RO R w.heap.size) (w.heap.size + 1)) (w.heap.size + 1 + 1)) w1 w' ((ty, (Y : Int)) :: (tx, (X : Int)) :: M) ∧ X < 9223372036854775808 ∧ Y < 9223372036854775808 ∧ Post X Y)) :
    Calls Tryz.prog 74 #[.func (.func 95) #[] cap] w (fun e w' => ∃ X Y : Nat, e = .returned (.tuple #[.int .i64 X, .int .i64 Y, .bool true]) ∧ Post X Y ∧ Own R w0 w' []) := by
  have hmf : ∀ (fn : Fn) (first cap : Array Value) (w : World), (Instr.makeFunc fn first cap).run Tryz.prog w = .ok (.func fn first cap) w := fun _ _ _ _ => rfl
  have g1 := h.guard (.cells #[.int .i64 0] 3)
  have g2 := g1.guard (.cells #[.int .i64 0] 3)
  have g3 := g2.guard (.cells #[.bool false] 4)
  have e1 := g1.box (.cells #[.int .i64 0] 3)
  have e2 := g2.box (.cells #[.bool false] 4)
  have e0 := h.box (.cells #[.int .i64 0] 3)
  have k3 := (((h.since.box (.cells #[.int .i64 0] 3)).box (.cells #[.int .i64 0] 3)).box (.cells #[.bool false] 4)).kept
  have n0 := heap_alloc_new w (.cells #[.int .i64 0] 3)
  have n1 := heap_alloc_new (w.alloc (.cells #[.int .i64 0] 3)) (.cells #[.int .i64 0] 3)
  have n2 := heap_alloc_new ((w.alloc (.cells #[.int .i64 0] 3)).alloc (.cells #[.int .i64 0] 3)) (.cells #[.bool false] 4)
  have s1 : (w.alloc (.cells #[.int .i64 0] 3)).heap.size = w.heap.size + 1 := Array.size_push _
  have s2 : ((w.alloc (.cells #[.int .i64 0] 3)).alloc (.cells #[.int .i64 0] 3)).heap.size = w.heap.size + 1 + 1 := by
    show (Array.push _ _).size = _
    rw [Array.size_push, s1]
  rw [s1] at g2 g3 n1 e2
  rw [s2] at g3 n2
  have m1 := e2.block n1 (RO.self _ _)
  have m0 := e1.block n0 (RO.self _ _)
  have m0' := e2.block m0 (.inl (RO.self _ _))
  have f0 : ¬ R w.heap.size := h.fresh
  have f1 : ¬ R (w.heap.size + 1) := by have := e0.fresh; rwa [s1] at this
  have f2 : ¬ R (w.heap.size + 1 + 1) := by have := (e0.box (.cells #[.int .i64 0] 3)).fresh; rwa [s2] at this
  have HFR := Lib.hid (And.intro f0 (And.intro f1 f2))
  have BL := Lib.hid (And.intro m0' (And.intro m1 n2))
  have UU : ∀ w' M, Own (RO (RO (RO R w.heap.size) (w.heap.size + 1)) (w.heap.size + 1 + 1)) (((w.alloc (.cells #[.int .i64 0] 3)).alloc (.cells #[.int .i64 0] 3)).alloc (.cells #[.bool false] 4)) w' M → Own R w0 w' M := fun w' M hh =>
    Own.unguard e0 n0 (by intro _ _ _ _ e; simp at e) (Own.unguard e1 n1 (by intro _ _ _ _ e; simp at e) (Own.unguard e2 n2 (by intro _ _ _ _ e; simp at e) hh))
  have HUU := Lib.hid UU
  have C3 := Lib.hid (hF _ g3 k3)
  clear h hF g1 g2 g3 s1 s2 e0 e1 e2 k3 n0 n1 n2 m0 m0' m1 f0 f1 f2 UU
  go_enter_defers Tryz.func74, Tryz.ntmps74
  go_wp2_with fail
  refine C3.out.mono ?_
  rintro e w1 ⟨tx, ty, X, Y, M, rfl, hO, hX, hY, hP⟩
  have B0 := hO.block BL.out.1 (.inl (.inl (RO.self _ _)))
  have B1 := hO.block BL.out.2.1 (.inl (RO.self _ _))
  have B2 := hO.block BL.out.2.2 (RO.self _ _)
  have I := Lib.hid (intsO hO 1 0 X Y rfl rfl hX hY)
  have HO := Lib.hid hO
  have HP := Lib.hid hP
  clear hO hX hY hP C3
  unfold ptr at *
  go_wp2_with fail
  refine I.out.mono ?_
  rintro e w2 ⟨rfl, rfl⟩
  clear I
  obtain ⟨⟨q0, q1⟩, ⟨q2, q3⟩, ⟨q4, q5⟩, q6, q7, q8⟩ := three (X := .int .i64 X) (Y := .int .i64 Y) (Z := .bool true) B0 B1 B2
  go_wp2_with fail
  refine leaves_cons (f := 115) (args := #[.pointer (some ⟨w.heap.size, 0, .none⟩), .pointer (some ⟨w.heap.size + 1, 0, .none⟩), .pointer (some ⟨w.heap.size + 1 + 1, 0, .none⟩)]) (by simp) (by simp [go_sem]) ?_
  refine (catch_idle _ _ _ _).mono ?_
  rintro e u' w'' ⟨rfl, rfl, rfl⟩
  obtain ⟨f0, f1, f2⟩ := HFR.out
  have hW := (HUU.out _ _ HO.out).turned (((kept_set f0).trans (kept_set f1)).trans (kept_set f2) : Kept R w1 (((w1.setCell ⟨w.heap.size, 0, .none⟩ (.int .i64 X)).setCell ⟨w.heap.size + 1, 0, .none⟩ (.int .i64 Y)).setCell ⟨w.heap.size + 1 + 1, 0, .none⟩ (.bool true)))
  have hP := HP.out
  simp [Leaves, settle, results, Tryz.results74, go_sem, q6, q7, q8]
  exact ⟨X, Y, ⟨rfl, rfl⟩, hP, hW⟩

set_option maxHeartbeats 16000000 in
set_option maxRecDepth 100000 in
theorem twistMulO (h : Own R w0 w []) (p b z X1 Y1 : Nat) (kb ko kc : Nat) (ks : List Nat) (hRk : R kb) (hk : ∀ i, i < ks.length → w.cell? ⟨kb, ko + i, .none⟩ = some (.int .u8 (ks.getD i 0 : Nat))) (hks : ∀ i, ks.getD i 0 < 256) (hlen : ks.length < 1000000) (z0 : 0 < z) (zp : z < p) (bp : b < p) (p2 : 2 ≤ p) (p63 : p < 9223372036854775808) (hgc : Int.gcd z p = 1) (hcv : Cv (p : Int) (-3) b) (hX1 : X1 < p) (hY1 : Y1 < p) (o1 : On p (-3) b (.aff ((X1 * (z ^ 2 % p) % p : Nat) : Int) ((Y1 * (z ^ 3 % p) % p : Nat) : Int))) (m1 : ¬ (((X1 * (z ^ 2 % p) % p : Nat) : Int) = 0 ∧ ((Y1 * (z ^ 3 % p) % p : Nat) : Int) = 0)) :
    Calls Tryz.prog 50 #[.agg #[.int .i64 p, .int .i64 b, .int .i64 z], .int .i64 X1, .int .i64 Y1, .slice (some ⟨kb, ko, .none⟩) ks.length kc] w (fun e w' => ∃ X Y : Nat, BackZ p z (EcLaw.mul p (-3) (bev ks) (.aff ((X1 * (z ^ 2 % p) % p : Nat) : Int) ((Y1 * (z ^ 3 % p) % p : Nat) : Int))) X Y ∧ e = .returned (.tuple #[.int .i64 X, .int .i64 Y, .bool true]) ∧ Own R w0 w' []) := by
  have hmf : ∀ (fn : Fn) (first cap : Array Value) (w : World), (Instr.makeFunc fn first cap).run Tryz.prog w = .ok (.func fn first cap) w := fun _ _ _ _ => rfl
  have g1 := h.guard (.cells #[.int .i64 p, .int .i64 b, .int .i64 z] 57)
  have e0 := h.box (.cells #[.int .i64 p, .int .i64 b, .int .i64 z] 57)
  have n0 := heap_alloc_new w (.cells #[.int .i64 p, .int .i64 b, .int .i64 z] 57)
  have g2 := g1.guard (.cells #[.int .i64 X1] 3)
  have e1 := g1.box (.cells #[.int .i64 X1] 3)
  have n1 := heap_alloc_new (w.alloc (.cells #[.int .i64 p, .int .i64 b, .int .i64 z] 57)) (.cells #[.int .i64 X1] 3)
  have s1 : (w.alloc (.cells #[.int .i64 p, .int .i64 b, .int .i64 z] 57)).heap.size = w.heap.size + 1 := by
    show (Array.push _ _).size = _
    rw [Array.size_push]
  have g3 := g2.guard (.cells #[.int .i64 Y1] 3)
  have e2 := g2.box (.cells #[.int .i64 Y1] 3)
  have n2 := heap_alloc_new ((w.alloc (.cells #[.int .i64 p, .int .i64 b, .int .i64 z] 57)).alloc (.cells #[.int .i64 X1] 3)) (.cells #[.int .i64 Y1] 3)
  have s2 : ((w.alloc (.cells #[.int .i64 p, .int .i64 b, .int .i64 z] 57)).alloc (.cells #[.int .i64 X1] 3)).heap.size = w.heap.size + 1 + 1 := by
    show (Array.push _ _).size = _
    rw [Array.size_push, s1]
  have g4 := g3.guard (.cells #[.slice (some ⟨kb, ko, .none⟩) ks.length kc] 25)
  have e3 := g3.box (.cells #[.slice (some ⟨kb, ko, .none⟩) ks.length kc] 25)
  have n3 := heap_alloc_new (((w.alloc (.cells #[.int .i64 p, .int .i64 b, .int .i64 z] 57)).alloc (.cells #[.int .i64 X1] 3)).alloc (.cells #[.int .i64 Y1] 3)) (.cells #[.slice (some ⟨kb, ko, .none⟩) ks.length kc] 25)
  have s3 : (((w.alloc (.cells #[.int .i64 p, .int .i64 b, .int .i64 z] 57)).alloc (.cells #[.int .i64 X1] 3)).alloc (.cells #[.int .i64 Y1] 3)).heap.size = w.heap.size + 1 + 1 + 1 := by
    show (Array.push _ _).size = _
    rw [Array.size_push, s2]
  simp only [s1] at g2 n1 g3 e2 g4 e3
  simp only [s2] at g3 n2 g4 e3
  simp only [s3] at g4 n3
  have m0_1 := e1.block n0 (RO.self _ _)
  have m0_2 := e2.block m0_1 (.inl (RO.self _ _))
  have m0_3 := e3.block m0_2 (.inl (.inl (RO.self _ _)))
  have m1_2 := e2.block n1 (RO.self _ _)
  have m1_3 := e3.block m1_2 (.inl (RO.self _ _))
  have m2_3 := e3.block n2 (RO.self _ _)
  have hk4 : ∀ i, i < ks.length → ((((w.alloc (.cells #[.int .i64 p, .int .i64 b, .int .i64 z] 57)).alloc (.cells #[.int .i64 X1] 3)).alloc (.cells #[.int .i64 Y1] 3)).alloc (.cells #[.slice (some ⟨kb, ko, .none⟩) ks.length kc] 25)).cell? ⟨kb, ko + i, .none⟩ = some (.int .u8 (ks.getD i 0 : Nat)) := fun i hi => ((((h.since.box (.cells #[.int .i64 p, .int .i64 b, .int .i64 z] 57)).box (.cells #[.int .i64 X1] 3)).box (.cells #[.int .i64 Y1] 3)).box (.cells #[.slice (some ⟨kb, ko, .none⟩) ks.length kc] 25)).kept.cell hRk (hk i hi)
  have UU : ∀ w' M, Own (RO (RO (RO (RO R w.heap.size) (w.heap.size + 1)) (w.heap.size + 1 + 1)) (w.heap.size + 1 + 1 + 1)) ((((w.alloc (.cells #[.int .i64 p, .int .i64 b, .int .i64 z] 57)).alloc (.cells #[.int .i64 X1] 3)).alloc (.cells #[.int .i64 Y1] 3)).alloc (.cells #[.slice (some ⟨kb, ko, .none⟩) ks.length kc] 25)) w' M → Own R w0 w' M := fun w' M hh => Own.unguard e0 n0 (by intro _ _ _ _ e; simp at e) (Own.unguard e1 n1 (by intro _ _ _ _ e; simp at e) (Own.unguard e2 n2 (by intro _ _ _ _ e; simp at e) (Own.unguard e3 n3 (by intro _ _ _ _ e; simp at e) hh)))
  have HUU := Lib.hid UU
  have C := Lib.hid (pointMul g4 #[.pointer (some ⟨w.heap.size, 0, .none⟩), .pointer (some ⟨w.heap.size + 1, 0, .none⟩), .pointer (some ⟨w.heap.size + 1 + 1, 0, .none⟩), .pointer (some ⟨w.heap.size + 1 + 1 + 1, 0, .none⟩)] (fun X Y => BackZ p z (EcLaw.mul p (-3) (bev ks) (.aff ((X1 * (z ^ 2 % p) % p : Nat) : Int) ((Y1 * (z ^ 3 % p) % p : Nat) : Int))) X Y) (fun w1 o k => twistMul1 o w.heap.size (w.heap.size + 1) (w.heap.size + 1 + 1) (w.heap.size + 1 + 1 + 1) p b z X1 Y1 kb ko kc ks (.inl (.inl (.inl (.inl (.inl (.inl (.inl hRk))))))) (fun i hi => k.cell (.inl (.inl (.inl (.inl hRk)))) (hk4 i hi)) hks hlen (k.cell (.inl (.inl (.inl (RO.self _ _)))) (block_cell m0_3 rfl)) (k.cell (.inl (.inl (.inl (RO.self _ _)))) (block_cell m0_3 rfl)) (k.cell (.inl (.inl (.inl (RO.self _ _)))) (block_cell m0_3 rfl)) (k.cell (.inl (.inl (RO.self _ _))) (block_cell m1_3 rfl)) (k.cell (.inl (RO.self _ _)) (block_cell m2_3 rfl)) (k.cell (RO.self _ _) (block_cell n3 rfl)) (.inl (.inl (.inl (.inl (.inl (.inl (RO.self _ _))))))) (.inl (.inl (.inl (.inl (.inl (RO.self _ _)))))) (.inl (.inl (.inl (.inl (RO.self _ _))))) (.inl (.inl (.inl (RO.self _ _)))) z0 zp bp p2 p63 hgc hcv hX1 hY1 o1 m1))
  obtain ⟨AA, hAA⟩ : ∃ AA : Pt, AA = EcLaw.mul p (-3) (bev ks) (.aff ((X1 * (z ^ 2 % p) % p : Nat) : Int) ((Y1 * (z ^ 3 % p) % p : Nat) : Int)) := ⟨_, rfl⟩
  rw [← hAA] at C ⊢
  clear h UU hRk hk hks hlen hk4 z0 zp bp p2 p63 hgc hcv hX1 hY1 o1 m1 hAA g1 e0 n0 g2 e1 n1 g3 e2 n2 g4 e3 n3 s1 s2 s3 m0_1 m0_2 m0_3 m1_2 m1_3 m2_3
  go_enter Tryz.func50, Tryz.ntmps50
  go_wp2_with fail
  refine C.out.mono ?_
  rintro e w1 ⟨X, Y, rfl, hq, hO⟩
  have HO := Lib.hid (HUU.out _ _ hO)
  have HQ := Lib.hid hq
  clear hO hq
  go_wp2_with fail
  go_ret3
  exact ⟨X, Y, HQ.out, rfl, HO.out⟩
end
end Go.Proofs.YtohhkjamddojmaaGreatDoor.Big
