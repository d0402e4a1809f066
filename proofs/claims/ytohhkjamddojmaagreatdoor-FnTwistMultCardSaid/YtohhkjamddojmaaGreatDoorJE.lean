/- IsOnCurve as a user calls it: impl.TwistOn. -/
import Derived.Test.YtohhkjamddojmaaGreatDoorJB
import Derived.Test.YtohhkjamddojmaaGreatDoorTH
namespace Go.Proofs.YtohhkjamddojmaaGreatDoor.Big
open Go.RowKit
attribute [local go_sem] ptr
attribute [local irreducible] Sz

theorem ahead_ron (a : Addr) (w : World) : (nilAhead 437 181 (.pointer (some a)) "IsOnCurve").run Tryz.prog w = .ok (some false) w := by kernel_rfl
section
variable {R : Nat → Prop} {w0 w w' : World} {L L' : List (Nat × Int)}
theorem catch_on (a b : Addr) (w : World) :
    CallsD Tryz.prog 87 #[.pointer (some a), .pointer (some b)] .returning w fun e u' w' => e = .returned (.tuple #[]) ∧ u' = .returning ∧ w' = w := by
  refine callsD_of_wpS Tryz.func87 rfl fun c₀ cs hu => ?_
  apply wpS_seq
  apply wpS_region
  simp [wpOpsS, go_sem, recoverD, hu, Tryz.ntmps87, Exit.thenS]
  refine wpS_cond (t := false) (by simp [Act.eval, Array.replicate]) ?_
  simp only [Bool.false_eq_true, if_false]
  refine wpS_of_wp (wp_skip ?_)
  cases c₀
  simp_all [bodyPostS, results, Tryz.results87]
theorem two {w : World} {b c : Nat} {x y X Y : Value} {S T : TypeId} (hbc : b ≠ c) (h0 : w.heap[b]? = some (.cells #[x] S)) (h1 : w.heap[c]? = some (.cells #[y] T)) :
    (w.cell? ⟨b, 0, .none⟩ = some x ∧ w.frozen? ⟨b, 0, .none⟩ = false) ∧ (w.cell? ⟨c, 0, .none⟩ = some y ∧ w.frozen? ⟨c, 0, .none⟩ = false) ∧
    ((w.setCell ⟨b, 0, .none⟩ X).cell? ⟨c, 0, .none⟩ = some y ∧ (w.setCell ⟨b, 0, .none⟩ X).frozen? ⟨c, 0, .none⟩ = false) ∧
    ((w.setCell ⟨c, 0, .none⟩ Y).cell? ⟨b, 0, .none⟩ = some x ∧ (w.setCell ⟨c, 0, .none⟩ Y).frozen? ⟨b, 0, .none⟩ = false) ∧
    (((w.setCell ⟨b, 0, .none⟩ X).setCell ⟨c, 0, .none⟩ Y).cell? ⟨b, 0, .none⟩ = some X ∧ ((w.setCell ⟨b, 0, .none⟩ X).setCell ⟨c, 0, .none⟩ Y).cell? ⟨c, 0, .none⟩ = some Y) ∧
    (((w.setCell ⟨c, 0, .none⟩ Y).setCell ⟨b, 0, .none⟩ X).cell? ⟨b, 0, .none⟩ = some X ∧ ((w.setCell ⟨c, 0, .none⟩ Y).setCell ⟨b, 0, .none⟩ X).cell? ⟨c, 0, .none⟩ = some Y) :=
  ⟨⟨block_cell h0 rfl, block_free h0⟩, ⟨block_cell h1 rfl, block_free h1⟩, ⟨block_cell (set_other h1 hbc.symm) rfl, block_free (set_other h1 hbc.symm)⟩, ⟨block_cell (set_other h0 hbc) rfl, block_free (set_other h0 hbc)⟩,
   ⟨block_cell (set_other (set_self h0) hbc) rfl, block_cell (set_self (set_other h1 hbc.symm)) rfl⟩, ⟨block_cell (set_self (set_other h0 hbc)) rfl, block_cell (set_other (set_self h1) hbc.symm) rfl⟩⟩
theorem cell_set_other {w : World} {b k o : Nat} {v : Value} (h : k ≠ b) : (w.setCell ⟨b, 0, .none⟩ v).cell? ⟨k, o, .none⟩ = w.cell? ⟨k, o, .none⟩ := by
  unfold World.cell?
  rw [Below.heap_setCell w ⟨b, 0, .none⟩ v k h]
set_option maxHeartbeats 8000000 in
set_option maxRecDepth 100000 in
theorem twistOnO (h : Own R w0 w []) (p b z X Y : Nat) (z0 : 0 < z) (zp : z < p) (bp : b < p) (p2 : 2 ≤ p) (p63 : p < 9223372036854775808) (hgc : Int.gcd z p = 1) (hX : X < p) (hY : Y < p) :
    Calls Tryz.prog 38 #[.agg #[.int .i64 p, .int .i64 b, .int .i64 z], .int .i64 X, .int .i64 Y] w (fun e w' => e = .returned (.tuple #[.bool (decide (polyV ((X * (z ^ 2 % p) % p : Nat) : Int) (b : Int) (p : Int) = ((Y * (z ^ 3 % p) % p : Nat) : Int) * ((Y * (z ^ 3 % p) % p : Nat) : Int) % (p : Int))), .bool true]) ∧ Own R w0 w' []) := by
  obtain ⟨d, hd⟩ : ∃ d, d = decide (polyV ((X * (z ^ 2 % p) % p : Nat) : Int) (b : Int) (p : Int) = ((Y * (z ^ 3 % p) % p : Nat) : Int) * ((Y * (z ^ 3 % p) % p : Nat) : Int) % (p : Int)) := ⟨_, rfl⟩
  rw [← hd]
  have HDD := Lib.hid hd
  have hmf : ∀ (fn : Fn) (first cap : Array Value) (w : World), (Instr.makeFunc fn first cap).run Tryz.prog w = .ok (.func fn first cap) w := fun _ _ _ _ => rfl
  have g1 := h.guard (.cells #[.int .i64 p, .int .i64 b, .int .i64 z] 57)
  have g2 := g1.guard (.cells #[.bool false] 4)
  have g3 := g2.guard (.cells #[.bool false] 4)
  have e0 := h.box (.cells #[.int .i64 p, .int .i64 b, .int .i64 z] 57)
  have e1 := g1.box (.cells #[.bool false] 4)
  have e2 := g2.box (.cells #[.bool false] 4)
  have n0 := heap_alloc_new w (.cells #[.int .i64 p, .int .i64 b, .int .i64 z] 57)
  have n1 := heap_alloc_new (w.alloc (.cells #[.int .i64 p, .int .i64 b, .int .i64 z] 57)) (.cells #[.bool false] 4)
  have n2 := heap_alloc_new ((w.alloc (.cells #[.int .i64 p, .int .i64 b, .int .i64 z] 57)).alloc (.cells #[.bool false] 4)) (.cells #[.bool false] 4)
  have s1 : (w.alloc (.cells #[.int .i64 p, .int .i64 b, .int .i64 z] 57)).heap.size = w.heap.size + 1 := Array.size_push _
  have s2 : ((w.alloc (.cells #[.int .i64 p, .int .i64 b, .int .i64 z] 57)).alloc (.cells #[.bool false] 4)).heap.size = w.heap.size + 1 + 1 := by
    show (Array.push _ _).size = _
    rw [Array.size_push, s1]
  rw [s1] at g2 g3 n1 e2
  rw [s2] at g3 n2
  have m1 := e2.block n1 (RO.self _ _)
  have m0 := e1.block n0 (RO.self _ _)
  have m0' := e2.block m0 (.inl (RO.self _ _))
  have f1 : ¬ R (w.heap.size + 1) := by have := e0.fresh; rwa [s1] at this
  have f2 : ¬ R (w.heap.size + 1 + 1) := by have := (e0.box (.cells #[.bool false] 4)).fresh; rwa [s2] at this
  have HFR := Lib.hid (And.intro f1 f2)
  have BL := Lib.hid (And.intro m0' (And.intro m1 n2))
  have UU : ∀ w' M, Own (RO (RO (RO R w.heap.size) (w.heap.size + 1)) (w.heap.size + 1 + 1)) (((w.alloc (.cells #[.int .i64 p, .int .i64 b, .int .i64 z] 57)).alloc (.cells #[.bool false] 4)).alloc (.cells #[.bool false] 4)) w' M → Own R w0 w' M := fun w' M hh =>
    Own.unguard e0 n0 (by intro _ _ _ _ e; simp at e) (Own.unguard e1 n1 (by intro _ _ _ _ e; simp at e) (Own.unguard e2 n2 (by intro _ _ _ _ e; simp at e) hh))
  have HUU := Lib.hid UU
  have HG := Lib.hid g3
  have c0 := block_cell (k := 0) m0' rfl
  have c1 := block_cell (k := 1) m0' rfl
  have c2 := block_cell (k := 2) m0' rfl
  have PB : p < B64 := Nat.lt_trans p63 (by decide : 9223372036854775808 < B64)
  have hp0 : 0 < p := by omega
  have HCV := Lib.hid (fun n => curveO (g3.drew n) p b z z0 zp bp p2 p63 hgc)
  have HON := Lib.hid (fun (w1 : World) (rc ct c qP qB pP pB pz n1 n2 n3 n4 zi t px py : Nat) (G : Nat → Prop) (hb : w1.heap[rc]? = some (.cells #[.iface 129 (ptr ct), ptr c, ptr pz, ptr zi, ptr n1, ptr n2, ptr n3, ptr n4] 208) ∧
      w1.heap[c]? = some (.cells #[ptr pP, .pointer .none, ptr pB, .pointer .none, .pointer .none, .int .i64 0, .string ⟨#[]⟩] 184) ∧ w1.heap[ct]? = some (.cells #[ptr qP, .pointer .none, ptr qB, .pointer .none, .pointer .none, .int .i64 0, .string ⟨#[]⟩] 184) ∧ G rc ∧ G c ∧ G ct)
      (w3 : World) (o : Own G w1 w3 ((py, (Y : Int)) :: (px, (X : Int)) :: (n4, ((t ^ 3 % p : Nat) : Int)) :: (n3, ((t ^ 2 % p : Nat) : Int)) :: (n2, ((z ^ 3 % p : Nat) : Int)) :: (n1, ((z ^ 2 % p : Nat) : Int)) :: (pz, (z : Int)) :: (pB, (b : Int)) :: (pP, (p : Int)) :: (qB, (b : Int)) :: (qP, (p : Int)) :: [])) =>
    rOnO o rc ct c n1 n2 px py pP qP qB 1 0 5 4 8 10 9 X Y (z ^ 2 % p) (z ^ 3 % p) b p (block_cell (o.block hb.1 hb.2.2.2.1) rfl) (block_cell (o.block hb.1 hb.2.2.2.1) rfl) (block_cell (o.block hb.1 hb.2.2.2.1) rfl) (block_cell (o.block hb.1 hb.2.2.2.1) rfl)
      (block_cell (o.block hb.2.1 hb.2.2.2.2.1) rfl) (block_cell (o.block hb.2.2.1 hb.2.2.2.2.2) rfl) (block_cell (o.block hb.2.2.1 hb.2.2.2.2.2) rfl) hb.2.2.2.1 hb.2.2.2.2.1 hb.2.2.2.2.2 rfl rfl rfl rfl rfl rfl rfl hp0 PB (Nat.lt_trans hX PB) (Nat.lt_trans hY PB) (Nat.lt_trans (Nat.mod_lt _ hp0) PB) (Nat.lt_trans (Nat.mod_lt _ hp0) PB) (Nat.lt_trans bp PB))
  rw [← hd] at HON
  have X63 := Lib.hid (Nat.lt_trans hX p63)
  have Y63 := Lib.hid (Nat.lt_trans hY p63)
  have hm := method_ron
  have hna := ahead_ron
  have K5 := Lib.hid (fun (w'' : World) (k : Kept (RO (RO (RO R w.heap.size) (w.heap.size + 1)) (w.heap.size + 1 + 1)) (((w.alloc (.cells #[.int .i64 p, .int .i64 b, .int .i64 z] 57)).alloc (.cells #[.bool false] 4)).alloc (.cells #[.bool false] 4)) w'') => (⟨k.cell (.inl (.inl (RO.self _ _))) c0, k.cell (.inl (.inl (RO.self _ _))) c1, k.cell (.inl (.inl (RO.self _ _))) c2⟩ : w''.cell? ⟨w.heap.size, 0, .none⟩ = some (.int .i64 p) ∧ w''.cell? ⟨w.heap.size, 1, .none⟩ = some (.int .i64 b) ∧ w''.cell? ⟨w.heap.size, 2, .none⟩ = some (.int .i64 z)))
  clear h g1 g2 g3 s1 s2 e0 e1 e2 n0 n1 n2 m0 m0' m1 f1 f2 UU z0 zp bp p2 p63 hgc hX hY PB hp0 hd
  unfold ptr at *
  go_enter_defers Tryz.func38, Tryz.ntmps38
  go_wp2_with fail
  go_region_held3 (fun w' => w'.cell? ⟨w.heap.size, 0, .none⟩ = some (.int .i64 p) ∧ w'.cell? ⟨w.heap.size, 1, .none⟩ = some (.int .i64 b) ∧ w'.cell? ⟨w.heap.size, 2, .none⟩ = some (.int .i64 z)) (go_keep) (first | (go_at_call 307; refine (HON.out w1 rc ct c qP qB pP pB pz n1 n2 n3 n4 zi t px py G H1.out w3 O3.out).mono ?_; rintro en w4 ⟨rfl, h4⟩; have hO := HU.out _ _ h4; have B1 := hO.block BL.out.2.1 (.inl (RO.self _ _)); have B2 := hO.block BL.out.2.2 (RO.self _ _); obtain ⟨⟨q0, q1⟩, ⟨q2, q3⟩, ⟨q4, q5⟩, ⟨q6, q7⟩, ⟨q8, q9⟩, ⟨q10, q11⟩⟩ := two (X := .bool d) (Y := .bool true) (by omega) B1 B2; obtain ⟨p0, p1, p2⟩ := K5.out _ hO.kept; have r0 := ((cell_set_other (w := w4.setCell ⟨w.heap.size + 1, 0, .none⟩ (.bool d)) (b := w.heap.size + 1 + 1) (v := .bool true) (by omega)).trans (cell_set_other (by omega))).trans p0; have r1 := ((cell_set_other (w := w4.setCell ⟨w.heap.size + 1, 0, .none⟩ (.bool d)) (b := w.heap.size + 1 + 1) (v := .bool true) (by omega)).trans (cell_set_other (by omega))).trans p1; have r2 := ((cell_set_other (w := w4.setCell ⟨w.heap.size + 1, 0, .none⟩ (.bool d)) (b := w.heap.size + 1 + 1) (v := .bool true) (by omega)).trans (cell_set_other (by omega))).trans p2; have HOO := Lib.hid hO; clear h4 hO B1 B2) | (go_at_call 78; refine (numO O2.out Y Y63.out).mono ?_; rintro en w3 ⟨py, rfl, h3, hr3⟩; obtain ⟨p0, p1, p2⟩ := K5.out _ (HU.out _ _ h3).kept; have O3 := Lib.hid h3; clear h3 hr3) | (go_at_call 78; refine (numO O1.out X X63.out).mono ?_; rintro en w2 ⟨px, rfl, h2, hr2⟩; obtain ⟨p0, p1, p2⟩ := K5.out _ (HU.out _ _ h2).kept; have O2 := Lib.hid h2; clear h2 hr2) | (go_at_call 88; refine (HCV.out _).mono ?_; rintro en w1 ⟨rc, ct, c, qP, qB, pP, pB, pz, n1, n2, n3, n4, zi, t, G, rfl, a1, a2, a3, a4, a5, a6, a7, a8, a9, a10, a11⟩; have H1 := Lib.hid (And.intro a4 (And.intro a5 (And.intro a6 (And.intro a1 (And.intro a2 a3))))); have O1 := Lib.hid a7; have HU := Lib.hid a8; obtain ⟨p0, p1, p2⟩ := K5.out _ (HU.out _ _ a7).kept; clear a1 a2 a3 a4 a5 a6 a7 a8 a9 a10 a11))
  all_goals
    obtain ⟨f1, f2⟩ := HFR.out
    have hW := (HUU.out _ _ HOO.out).turned ((kept_set f1).trans (kept_set f2) : Kept R w4 ((w4.setCell ⟨w.heap.size + 1, 0, .none⟩ (.bool d)).setCell ⟨w.heap.size + 1 + 1, 0, .none⟩ (.bool true)))
    have HW := Lib.hid hW
    clear hW f1 f2 HOO p0 p1 p2 r0 r1 r2 c0 c1 c2 HON HCV K5 HU
    go_wp2_with fail
    refine leaves_cons (f := 87) (args := #[.pointer (some ⟨w.heap.size + 1, 0, .none⟩), .pointer (some ⟨w.heap.size + 1 + 1, 0, .none⟩)]) (by simp) (by simp [go_sem]) ?_
    refine (catch_on _ _ _).mono ?_
    rintro e u' w'' ⟨rfl, rfl, rfl⟩
    have hW := HW.out
    simp [Leaves, settle, results, Tryz.results38, go_sem, q8, q9]
    exact hW
end
end Go.Proofs.YtohhkjamddojmaaGreatDoor.Big
