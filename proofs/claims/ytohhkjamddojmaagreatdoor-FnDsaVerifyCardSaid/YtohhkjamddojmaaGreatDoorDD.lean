/- A DSA key as the package has it. -/
import Derived.Test.YtohhkjamddojmaaGreatDoorDC
namespace Go.Proofs.YtohhkjamddojmaaGreatDoor.Big
open Go.RowKit
attribute [local go_sem] ptr

section
variable {R : Nat → Prop} {w0 w w' : World} {L L' : List (Nat × Int)}
/-- a store into a block that is no Int's and no number's -/
theorem Own.poke (h : Own R w0 w L) {c : Nat} {cs : Array Value} {T : TypeId} (hc : w.heap[c]? = some (.cells cs T)) (h1 : T ≠ 172) (h2 : T ≠ 199) (h8 : 8 ≤ c) (i : Nat) (v : Value) :
    Own R (w.setCell ⟨c, i, .none⟩ v) (w.setCell ⟨c, i, .none⟩ v) L := by
  obtain ⟨ps, qs, hf⟩ := h.ints
  have hg := grown_set w c i v
  refine ⟨⟨ps, qs, ⟨fun k hk => Nat.lt_of_lt_of_le (hf.old k hk) hg.size, hf.lenV, hf.lenP, hf.lenQ, fun i z v p q e1 e2 e3 e4 => ?_, hf.own, hf.zz, hf.pp, hf.zp⟩⟩, Kept.refl _ _, h.tab.kept hg (fun b e => by have := Option.some.inj e; omega), h.low⟩
  have one := hf.one i z v p q e1 e2 e3 e4
  refine one.grow (Grow.of hg) ?_ ?_
  · intro e
    have e := Option.some.inj e
    subst e
    have := one.str
    unfold StrB at this
    rw [hc] at this
    have := Option.some.inj this
    injection this with _ e2 _
    exact h1 e2
  · intro b hb e
    have e := Option.some.inj e
    subst e
    rcases one.num.buf.1 with ⟨e3, _⟩ | ⟨b', e3, hN⟩
    · rw [e3] at hb; cases hb
    · rw [e3] at hb
      have := Option.some.inj hb
      subst this
      unfold NatB at hN
      rw [hc] at hN
      have := Option.some.inj hN
      injection this with _ e2 _
      exact h2 e2
/-- a key as the package has it: the numbers' cells in the block b -/
def PkP (R : Nat → Prop) (w0 : World) (L : List (Nat × Int)) (P Q G Y X : Nat) (e : Ending) (w' : World) : Prop :=
  ∃ (b z1 z2 z3 z4 z5 : Nat) (H : Nat → Prop), e = .returned (ptr b) ∧ H b ∧ w'.heap[b]? = some (.cells #[ptr z1, ptr z2, ptr z3, ptr z4, ptr z5] 141) ∧
    Own H w' w' ((z4, (Y : Int)) :: (z3, (G : Int)) :: (z2, (Q : Int)) :: (z1, (P : Int)) :: (z5, (X : Int)) :: L) ∧ (∀ w'' M, Own H w' w'' M → Own R w0 w'' M) ∧ (∀ k, R k → H k)
set_option maxHeartbeats 16000000 in
set_option maxRecDepth 100000 in
theorem numsKey (h : Own R w0 w L) (P Q G Y X g1 c1 g2 c2 g3 c3 g4 c4 g5 c5 : Nat) (k1 k2 k3 k4 k5 : List Nat) (b1 : BytesAt R w g1 c1 k1 P) (b2 : BytesAt R w g2 c2 k2 Q) (b3 : BytesAt R w g3 c3 k3 G) (b4 : BytesAt R w g4 c4 k4 Y) (b5 : BytesAt R w g5 c5 k5 X) :
    Calls Tryz.prog 84 #[.agg #[.slice (some ⟨g1, 0, .none⟩) k1.length c1, .slice (some ⟨g2, 0, .none⟩) k2.length c2, .slice (some ⟨g3, 0, .none⟩) k3.length c3, .slice (some ⟨g4, 0, .none⟩) k4.length c4, .slice (some ⟨g5, 0, .none⟩) k5.length c5]] w (PkP R w0 L P Q G Y X) := by
  have g0 := h.guard (.cells #[.slice (some ⟨g1, 0, .none⟩) k1.length c1, .slice (some ⟨g2, 0, .none⟩) k2.length c2, .slice (some ⟨g3, 0, .none⟩) k3.length c3, .slice (some ⟨g4, 0, .none⟩) k4.length c4, .slice (some ⟨g5, 0, .none⟩) k5.length c5] 72)
  have n0 := heap_alloc_new w (.cells #[.slice (some ⟨g1, 0, .none⟩) k1.length c1, .slice (some ⟨g2, 0, .none⟩) k2.length c2, .slice (some ⟨g3, 0, .none⟩) k3.length c3, .slice (some ⟨g4, 0, .none⟩) k4.length c4, .slice (some ⟨g5, 0, .none⟩) k5.length c5] 72)
  have e0 := h.box (.cells #[.slice (some ⟨g1, 0, .none⟩) k1.length c1, .slice (some ⟨g2, 0, .none⟩) k2.length c2, .slice (some ⟨g3, 0, .none⟩) k3.length c3, .slice (some ⟨g4, 0, .none⟩) k4.length c4, .slice (some ⟨g5, 0, .none⟩) k5.length c5] 72)
  have hk0 : Kept R w (w.alloc (.cells #[.slice (some ⟨g1, 0, .none⟩) k1.length c1, .slice (some ⟨g2, 0, .none⟩) k2.length c2, .slice (some ⟨g3, 0, .none⟩) k3.length c3, .slice (some ⟨g4, 0, .none⟩) k4.length c4, .slice (some ⟨g5, 0, .none⟩) k5.length c5] 72)) := (h.since.box (.cells #[.slice (some ⟨g1, 0, .none⟩) k1.length c1, .slice (some ⟨g2, 0, .none⟩) k2.length c2, .slice (some ⟨g3, 0, .none⟩) k3.length c3, .slice (some ⟨g4, 0, .none⟩) k4.length c4, .slice (some ⟨g5, 0, .none⟩) k5.length c5] 72)).kept
  have HG := Lib.hid (greatO g0 g5 0 c5 k5 (.inl b5.kept) (fun i hi => hk0.cell b5.kept (b5.cell i hi)) b5.lt (by have := b5.len; omega) b5.cap)
  rw [b5.val] at HG
  have HB := Lib.hid (And.intro b1 (And.intro b2 (And.intro b3 (And.intro b4 b5))))
  have HK0 := Lib.hid hk0
  have H0 := Lib.hid (And.intro h (And.intro e0 n0))
  have r4 := block_cell (k := 4) n0 rfl
  clear h g0 e0 hk0 b1 b2 b3 b4 b5
  unfold ptr at *
  go_enter Tryz.func84, Tryz.ntmps84
  go_wp2_with fail
  refine HG.out.mono ?_
  rintro e w1 ⟨z5, rfl, h1, -⟩
  have m0 := h1.block n0 (RO.self _ _)
  have H1 := Lib.hid h1
  have n2 := heap_alloc_new w1 (.cells #[.pointer .none, .pointer .none, .pointer .none, .pointer .none, ptr z5] 141)
  have h2 := h1.guard (.cells #[.pointer .none, .pointer .none, .pointer .none, .pointer .none, ptr z5] 141)
  have e2 := h1.box (.cells #[.pointer .none, .pointer .none, .pointer .none, .pointer .none, ptr z5] 141)
  have m2 := e2.block n0 (RO.self _ _)
  have KS := Lib.hid (fun w' M (o : Own (RO (RO R w.heap.size) w1.heap.size) (w1.alloc (.cells #[.pointer .none, .pointer .none, .pointer .none, .pointer .none, ptr z5] 141)) w' M) => (⟨block_cell (k := 0) (o.block m2 (.inl (RO.self _ _))) rfl, block_cell (k := 1) (o.block m2 (.inl (RO.self _ _))) rfl, block_cell (k := 2) (o.block m2 (.inl (RO.self _ _))) rfl, block_cell (k := 3) (o.block m2 (.inl (RO.self _ _))) rfl⟩ : w'.cell? ⟨w.heap.size, 0, .none⟩ = some (.slice (some ⟨g1, 0, .none⟩) k1.length c1) ∧ w'.cell? ⟨w.heap.size, 1, .none⟩ = some (.slice (some ⟨g2, 0, .none⟩) k2.length c2) ∧ w'.cell? ⟨w.heap.size, 2, .none⟩ = some (.slice (some ⟨g3, 0, .none⟩) k3.length c3) ∧ w'.cell? ⟨w.heap.size, 3, .none⟩ = some (.slice (some ⟨g4, 0, .none⟩) k4.length c4)))
  have N0 := Lib.hid (And.intro h2 (fun w' M (o : Own (RO (RO R w.heap.size) w1.heap.size) (w1.alloc (.cells #[.pointer .none, .pointer .none, .pointer .none, .pointer .none, ptr z5] 141)) w' M) => o.block n2 (RO.self _ _)))
  have E2 := Lib.hid (And.intro e2 n2)
  have hb2 := (HK0.out.trans ((h1.kept.weaken (fun k _ hn hk => hn (.inl hk))).trans ((h1.since.box (.cells #[.pointer .none, .pointer .none, .pointer .none, .pointer .none, ptr z5] 141)).kept.weaken (fun k _ hn hk => hn (.inl hk)))))
  have HB2 := Lib.hid (And.intro (HB.out.1.on (G' := (RO (RO R w.heap.size) w1.heap.size)) hb2 (fun k hk => .inl (.inl hk))) (And.intro (HB.out.2.1.on (G' := (RO (RO R w.heap.size) w1.heap.size)) hb2 (fun k hk => .inl (.inl hk))) (And.intro (HB.out.2.2.1.on (G' := (RO (RO R w.heap.size) w1.heap.size)) hb2 (fun k hk => .inl (.inl hk))) (HB.out.2.2.2.1.on (G' := (RO (RO R w.heap.size) w1.heap.size)) hb2 (fun k hk => .inl (.inl hk))))))
  have hsz : w.heap.size < w1.heap.size := Nat.lt_of_lt_of_le (by rw [show (w.alloc (.cells #[.slice (some ⟨g1, 0, .none⟩) k1.length c1, .slice (some ⟨g2, 0, .none⟩) k2.length c2, .slice (some ⟨g3, 0, .none⟩) k3.length c3, .slice (some ⟨g4, 0, .none⟩) k4.length c4, .slice (some ⟨g5, 0, .none⟩) k5.length c5] 72)).heap.size = w.heap.size + 1 from Array.size_push _]; omega) h1.kept.size
  have hne1 : ¬ w.heap.size = w1.heap.size := by omega
  have hne2 : ¬ w1.heap.size = w.heap.size := by omega
  clear hsz
  have S8 := Lib.hid (h1.old (h1.low 7 (by decide)))
  clear n0 HG r4 h1 n2 h2 e2 hb2 m2
  go_upto_region 2 with fail
  obtain ⟨q0, q1, q2, q3⟩ := KS.out _ _ N0.out.1
  unfold ptr at *
  go_region_held3 (fun w' => w'.cell? ⟨w.heap.size, 0, .none⟩ = some (.slice (some ⟨g1, 0, .none⟩) k1.length c1) ∧ w'.cell? ⟨w.heap.size, 1, .none⟩ = some (.slice (some ⟨g2, 0, .none⟩) k2.length c2) ∧ w'.cell? ⟨w.heap.size, 2, .none⟩ = some (.slice (some ⟨g3, 0, .none⟩) k3.length c3) ∧ w'.cell? ⟨w.heap.size, 3, .none⟩ = some (.slice (some ⟨g4, 0, .none⟩) k4.length c4)) (go_keep) (first | (go_at_call 61; refine (greatO N3.out g4 0 c4 k4 HB2.out.2.2.2.kept (fun i hi => N3.out.kept.cell HB2.out.2.2.2.kept (HB2.out.2.2.2.cell i hi)) HB2.out.2.2.2.lt (by have := HB2.out.2.2.2.len; omega) HB2.out.2.2.2.cap).mono ?_; rintro e v4 ⟨z4, rfl, a1, a2⟩; rw [HB2.out.2.2.2.val] at a1; obtain ⟨q0, q1, q2, q3⟩ := KS.out _ _ a1; have z := N0.out.2 _ _ a1; have y0 := block_cell (k := 0) z rfl; have x0 := block_free (o := 0) z; have y1 := block_cell (k := 1) z rfl; have x1 := block_free (o := 1) z; have y2 := block_cell (k := 2) z rfl; have x2 := block_free (o := 2) z; have y3 := block_cell (k := 3) z rfl; have x3 := block_free (o := 3) z; clear z; have N4 := Lib.hid (show Own (RO (RO R w.heap.size) w1.heap.size) (w1.alloc (.cells #[.pointer .none, .pointer .none, .pointer .none, .pointer .none, ptr z5] 141)) v4 ((z4, (Y : Int)) :: (z3, (G : Int)) :: (z2, (Q : Int)) :: (z1, (P : Int)) :: (z5, (X : Int)) :: L) from a1); clear a1 a2) | (go_at_call 61; refine (greatO N2.out g3 0 c3 k3 HB2.out.2.2.1.kept (fun i hi => N2.out.kept.cell HB2.out.2.2.1.kept (HB2.out.2.2.1.cell i hi)) HB2.out.2.2.1.lt (by have := HB2.out.2.2.1.len; omega) HB2.out.2.2.1.cap).mono ?_; rintro e v3 ⟨z3, rfl, a1, a2⟩; rw [HB2.out.2.2.1.val] at a1; obtain ⟨q0, q1, q2, q3⟩ := KS.out _ _ a1; have N3 := Lib.hid (show Own (RO (RO R w.heap.size) w1.heap.size) (w1.alloc (.cells #[.pointer .none, .pointer .none, .pointer .none, .pointer .none, ptr z5] 141)) v3 ((z3, (G : Int)) :: (z2, (Q : Int)) :: (z1, (P : Int)) :: (z5, (X : Int)) :: L) from a1); clear a1 a2) | (go_at_call 61; refine (greatO N1.out g2 0 c2 k2 HB2.out.2.1.kept (fun i hi => N1.out.kept.cell HB2.out.2.1.kept (HB2.out.2.1.cell i hi)) HB2.out.2.1.lt (by have := HB2.out.2.1.len; omega) HB2.out.2.1.cap).mono ?_; rintro e v2 ⟨z2, rfl, a1, a2⟩; rw [HB2.out.2.1.val] at a1; obtain ⟨q0, q1, q2, q3⟩ := KS.out _ _ a1; have N2 := Lib.hid (show Own (RO (RO R w.heap.size) w1.heap.size) (w1.alloc (.cells #[.pointer .none, .pointer .none, .pointer .none, .pointer .none, ptr z5] 141)) v2 ((z2, (Q : Int)) :: (z1, (P : Int)) :: (z5, (X : Int)) :: L) from a1); clear a1 a2) | (go_at_call 61; refine (greatO (N0.out.1.drew _) g1 0 c1 k1 HB2.out.1.kept (fun i hi => (N0.out.1.drew _).kept.cell HB2.out.1.kept (HB2.out.1.cell i hi)) HB2.out.1.lt (by have := HB2.out.1.len; omega) HB2.out.1.cap).mono ?_; rintro e v1 ⟨z1, rfl, a1, a2⟩; rw [HB2.out.1.val] at a1; obtain ⟨q0, q1, q2, q3⟩ := KS.out _ _ a1; have N1 := Lib.hid (show Own (RO (RO R w.heap.size) w1.heap.size) (w1.alloc (.cells #[.pointer .none, .pointer .none, .pointer .none, .pointer .none, ptr z5] 141)) v1 ((z1, (P : Int)) :: (z5, (X : Int)) :: L) from a1); clear a1 a2))
  all_goals
    have z := N0.out.2 _ _ N4.out
    have hF := setc (setc (setc (setc z 0 (ptr z1)) 1 (ptr z2)) 2 (ptr z3)) 3 (ptr z4)
    have hg : v4.grownBy ((((v4.setCell ⟨w1.heap.size, 0, .none⟩ (ptr z1)).setCell ⟨w1.heap.size, 1, .none⟩ (ptr z2)).setCell ⟨w1.heap.size, 2, .none⟩ (ptr z3)).setCell ⟨w1.heap.size, 3, .none⟩ (ptr z4)) (some w1.heap.size) :=
      grown_trans (grown_set v4 w1.heap.size 0 _) (grown_trans (grown_set _ w1.heap.size 1 _) (grown_trans (grown_set _ w1.heap.size 2 _) (grown_set _ w1.heap.size 3 _)))
    have p0 := N4.out.since
    have p1 := p0.poke z (by decide) (by decide) S8.out 0 (ptr z1)
    have p2 := p1.poke (setc z 0 (ptr z1)) (by decide) (by decide) S8.out 1 (ptr z2)
    have p3 := p2.poke (setc (setc z 0 (ptr z1)) 1 (ptr z2)) (by decide) (by decide) S8.out 2 (ptr z3)
    have p4 := p3.poke (setc (setc (setc z 0 (ptr z1)) 1 (ptr z2)) 2 (ptr z3)) (by decide) (by decide) S8.out 3 (ptr z4)
    have hw4 := E2.out.1.unguard E2.out.2 (by intro n p l q e; injection e with e1 e2 e3; exact absurd e2 (by decide)) N4.out
    have hA := hw4.turned ((Grow.of hg).weaken (fun k _ e hk => by
      have := Option.some.inj e
      subst this
      rcases hk with hk | hk
      · exact absurd (Nat.lt_of_lt_of_le (H0.out.1.old hk) (Nat.le_of_lt (Nat.lt_of_lt_of_le (by rw [show (w.alloc (.cells #[.slice (some ⟨g1, 0, .none⟩) k1.length c1, .slice (some ⟨g2, 0, .none⟩) k2.length c2, .slice (some ⟨g3, 0, .none⟩) k3.length c3, .slice (some ⟨g4, 0, .none⟩) k4.length c4, .slice (some ⟨g5, 0, .none⟩) k5.length c5] 72)).heap.size = w.heap.size + 1 from Array.size_push _]; omega) H1.out.kept.size))) (Nat.lt_irrefl _)
      · exact hne2 hk))
    have HFIN := Lib.hid (And.intro p4 (And.intro hF (fun w'' M (o : Own (RO (RO R w.heap.size) w1.heap.size) ((((v4.setCell ⟨w1.heap.size, 0, .none⟩ (ptr z1)).setCell ⟨w1.heap.size, 1, .none⟩ (ptr z2)).setCell ⟨w1.heap.size, 2, .none⟩ (ptr z3)).setCell ⟨w1.heap.size, 3, .none⟩ (ptr z4)) w'' M) => H0.out.2.1.unguard H0.out.2.2 (by intro n p l q e; injection e with e1 e2 e3; exact absurd e2 (by decide)) (hA.unguard hF (by intro n p l q e; injection e with e1 e2 e3; exact absurd e2 (by decide)) o))))
    clear z hF hg p0 p1 p2 p3 p4 hw4 hA
    unfold ptr at *
    go_wp2_with fail
    go_ret
    exact ⟨_, z1, z2, z3, z4, z5, _, rfl, RO.self _ _, HFIN.out.2.1, HFIN.out.1, HFIN.out.2.2, fun k hk => .inl (.inl hk)⟩
end
end Go.Proofs.YtohhkjamddojmaaGreatDoor.Big
