/- Multiples as the specification has them: Times. -/
import Derived.Test.YtohhkjamddojmaaGreatDoorKE
namespace Go.Proofs.YtohhkjamddojmaaGreatDoor.Big
open Go.RowKit
open EcLaw (Pt Prm On Cv)
attribute [local go_sem] ptr
attribute [local irreducible] Sz

theorem setT {w : World} {b : Nat} {x y z X Y Z : Value} {T : TypeId} (h : w.heap[b]? = some (.cells #[x, y, z] T)) :
    (((w.setCell ⟨b, 0, .none⟩ X).setCell ⟨b, 1, .none⟩ Y).setCell ⟨b, 2, .none⟩ Z).heap[b]? = some (.cells #[X, Y, Z] T) ∧ w.grownBy (((w.setCell ⟨b, 0, .none⟩ X).setCell ⟨b, 1, .none⟩ Y).setCell ⟨b, 2, .none⟩ Z) (some b) := by
  refine ⟨?_, grown_trans (grown_set w b 0 X) (grown_trans (grown_set _ b 1 Y) (grown_set _ b 2 Z))⟩
  simp only [World.setCell, Array.getElem?_modify, if_true]
  rw [h]
  simp
section
variable {R : Nat → Prop} {w0 w w' : World} {L L' : List (Nat × Int)}
set_option maxHeartbeats 8000000 in
set_option maxRecDepth 100000 in
theorem specTimes (h : Own R w0 w []) (p A B x y n : Nat) (h5 : 5 ≤ p) (hp : p < 65536) (hP : NumLaw.IsP p) (ha : A < p) (o : On (p : Int) A B (.aff x y)) (hn : n < 1000000) :
    Calls Tryz.prog 52 #[.agg #[.int .i64 p, .int .i64 A, .int .i64 B], ptV (.aff x y), .int .i64 n] w (fun e w' => e = .returned (ptV (EcLaw.mul p A n (.aff x y))) ∧ Own R w0 w' []) := by
  have HA := Lib.hid (fun (R' : Nat → Prop) (w1 : World) (k : Nat) (hh : Own R' w1 w1 []) => specAddM hh p A B x y k h5 hp hP ha o)
  have H := Lib.hid h
  have g1 := h.guard (.cells #[.int .i64 p, .int .i64 A, .int .i64 B] 79)
  have g2 := g1.guard (.cells #[.int .i64 x, .int .i64 y, .bool false] 98)
  have g3 := g2.guard (.cells #[.int .i64 0, .int .i64 0, .bool false] 98)
  have g4 := g3.guard (.cells #[.int .i64 0, .int .i64 0, .bool true] 98)
  have b4 := (((h.box (.cells #[.int .i64 p, .int .i64 A, .int .i64 B] 79)).box (.cells #[.int .i64 x, .int .i64 y, .bool false] 98)).box (.cells #[.int .i64 0, .int .i64 0, .bool false] 98)).box (.cells #[.int .i64 0, .int .i64 0, .bool true] 98)
  have e1 := g1.box (.cells #[.int .i64 x, .int .i64 y, .bool false] 98)
  have e2 := g2.box (.cells #[.int .i64 0, .int .i64 0, .bool false] 98)
  have e3 := g3.box (.cells #[.int .i64 0, .int .i64 0, .bool true] 98)
  have n0 := heap_alloc_new w (.cells #[.int .i64 p, .int .i64 A, .int .i64 B] 79)
  have n1 := heap_alloc_new (w.alloc (.cells #[.int .i64 p, .int .i64 A, .int .i64 B] 79)) (.cells #[.int .i64 x, .int .i64 y, .bool false] 98)
  have n2 := heap_alloc_new ((w.alloc (.cells #[.int .i64 p, .int .i64 A, .int .i64 B] 79)).alloc (.cells #[.int .i64 x, .int .i64 y, .bool false] 98)) (.cells #[.int .i64 0, .int .i64 0, .bool false] 98)
  have n3 := heap_alloc_new (((w.alloc (.cells #[.int .i64 p, .int .i64 A, .int .i64 B] 79)).alloc (.cells #[.int .i64 x, .int .i64 y, .bool false] 98)).alloc (.cells #[.int .i64 0, .int .i64 0, .bool false] 98)) (.cells #[.int .i64 0, .int .i64 0, .bool true] 98)
  have s1 : (w.alloc (.cells #[.int .i64 p, .int .i64 A, .int .i64 B] 79)).heap.size = w.heap.size + 1 := Array.size_push _
  have s2 : ((w.alloc (.cells #[.int .i64 p, .int .i64 A, .int .i64 B] 79)).alloc (.cells #[.int .i64 x, .int .i64 y, .bool false] 98)).heap.size = w.heap.size + 1 + 1 := by
    show (Array.push _ _).size = _
    rw [Array.size_push, s1]
  have s3 : (((w.alloc (.cells #[.int .i64 p, .int .i64 A, .int .i64 B] 79)).alloc (.cells #[.int .i64 x, .int .i64 y, .bool false] 98)).alloc (.cells #[.int .i64 0, .int .i64 0, .bool false] 98)).heap.size = w.heap.size + 1 + 1 + 1 := by
    show (Array.push _ _).size = _
    rw [Array.size_push, s2]
  simp only [s1] at g2 g3 g4 e2 e3 n1
  simp only [s2] at g3 g4 e3 n2
  simp only [s3] at g4 n3
  have m0 := e3.block (e2.block (e1.block n0 (RO.self _ _)) (.inl (RO.self _ _))) (.inl (.inl (RO.self _ _)))
  have m1 := e3.block (e2.block n1 (RO.self _ _)) (.inl (RO.self _ _))
  have m2 := e3.block n2 (RO.self _ _)
  have ST := Lib.hid (And.intro b4 (And.intro g4 (And.intro m0 (And.intro m1 (And.intro m2 n3)))))
  clear h h5 hp hP ha o g1 g2 g3 g4 b4 e1 e2 e3 n0 n1 n2 n3 s1 s2 s3 m0 m1 m2
  obtain ⟨V, hV⟩ : ∃ V, V = ptV (EcLaw.mul p A n (.aff x y)) := ⟨_, rfl⟩
  rw [← hV, show ptV (.aff x y) = .agg #[.int .i64 x, .int .i64 y, .bool false] from rfl]
  have HVV := Lib.hid hV
  clear hV
  go_enter Tryz.func52, Tryz.ntmps52
  go_wp2_with fail
  go_loopw [10] (fun si wr => ∃ (k : Nat), si = .int .i64 k ∧ k ≤ n ∧ RowKit.Hid (∃ (a c : Int) (f : Bool), Own R w0 wr [] ∧ Own (RO (RO (RO (RO R w.heap.size) (w.heap.size + 1)) (w.heap.size + 1 + 1)) (w.heap.size + 1 + 1 + 1)) wr wr [] ∧ wr.heap[w.heap.size]? = some (.cells #[.int .i64 p, .int .i64 A, .int .i64 B] 79) ∧ wr.heap[(w.heap.size + 1)]? = some (.cells #[.int .i64 x, .int .i64 y, .bool false] 98) ∧ wr.heap[(w.heap.size + 1 + 1)]? = some (.cells #[.int .i64 0, .int .i64 0, .bool false] 98) ∧ wr.heap[(w.heap.size + 1 + 1 + 1)]? = some (.cells #[.int .i64 a, .int .i64 c, .bool f] 98) ∧ ptV (EcLaw.mul p A k (.aff x y)) = .agg #[.int .i64 a, .int .i64 c, .bool f])) (fun si _ => n - (intOf si).toNat)
  case atStart => exact ⟨0, rfl, Nat.zero_le _, ⟨0, 0, true, ST.out.1, ST.out.2.1, ST.out.2.2.1, ST.out.2.2.2.1, ST.out.2.2.2.2.1, ST.out.2.2.2.2.2, rfl⟩⟩
  case round =>
    obtain ⟨k, rfl, hk, HR⟩ := hrel
    obtain ⟨a, c, f, r1, r2, r3, r4, r5, r6, r7⟩ := HR.out
    have q0 := block_cell (k := 0) r3 rfl
    have q1 := block_cell (k := 1) r3 rfl
    have q2 := block_cell (k := 2) r3 rfl
    have t0 := block_cell (k := 0) r4 rfl
    have t1 := block_cell (k := 1) r4 rfl
    have t2 := block_cell (k := 2) r4 rfl
    have u0 := block_cell (k := 0) r6 rfl
    have u1 := block_cell (k := 1) r6 rfl
    have u2 := block_cell (k := 2) r6 rfl
    by_cases hlt : k < n
    · have HC := HA.out _ _ k r2
      rw [r7] at HC
      obtain ⟨a2, c2, f2, hv⟩ := ptV_agg (EcLaw.mul p A (k + 1) (.aff x y))
      rw [hv] at HC
      have HC := Lib.hid HC
      have HV := Lib.hid hv
      have H2 := Lib.hid r2
      have H1 := Lib.hid r1
      have B := Lib.hid (And.intro r3 (And.intro r4 (And.intro r5 r6)))
      clear r1 r2 r3 r4 r5 r6 r7 hv
      go_wp2_with fail
      refine HC.out.mono ?_
      rintro e w5 ⟨rfl, h5⟩
      have b3 := h5.block B.out.2.2.2 (RO.self _ _)
      have v0 := block_cell (k := 0) b3 rfl
      have v1 := block_cell (k := 1) b3 rfl
      have v2 := block_cell (k := 2) b3 rfl
      have f0 := block_free (o := 0) b3
      have f1 := block_free (o := 1) b3
      have f2' := block_free (o := 2) b3
      have H5 := Lib.hid h5
      have B3 := Lib.hid b3
      clear h5 b3
      go_wp2_with fail
      have hold : ∀ k, R k → k < w.heap.size := fun k hk => H.out.old hk
      have h5n : Own R w0 w5 [] := H1.out.narrow (fun k hk => .inl (.inl (.inl (.inl hk)))) H5.out
      obtain ⟨S1, S2⟩ := setT (X := .int .i64 a2) (Y := .int .i64 c2) (Z := .bool f2) B3.out
      have c0 := H5.out.block B.out.1 (.inl (.inl (.inl (RO.self _ _))))
      have c1 := H5.out.block B.out.2.1 (.inl (.inl (RO.self _ _)))
      have c2' := H5.out.block B.out.2.2.1 (.inl (RO.self _ _))
      have d0 := (S2.block _ (Array.getElem?_eq_some_iff.1 c0).1 (by intro e; have := Option.some.inj e; omega)).trans c0
      have d1 := (S2.block _ (Array.getElem?_eq_some_iff.1 c1).1 (by intro e; have := Option.some.inj e; omega)).trans c1
      have d2 := (S2.block _ (Array.getElem?_eq_some_iff.1 c2').1 (by intro e; have := Option.some.inj e; omega)).trans c2'
      have h6 := h5n.turned ((Grow.of S2).weaken (fun k _ e hk => by have := hold k hk; have := Option.some.inj e; omega))
      have l0 := (Array.getElem?_eq_some_iff.1 d0).1
      have l1 := (Array.getElem?_eq_some_iff.1 d1).1
      have l2 := (Array.getElem?_eq_some_iff.1 d2).1
      have l3 := (Array.getElem?_eq_some_iff.1 S1).1
      have h7 := h6.widen (R' := (RO (RO (RO (RO R w.heap.size) (w.heap.size + 1)) (w.heap.size + 1 + 1)) (w.heap.size + 1 + 1 + 1))) (fun k hk => .inl (.inl (.inl (.inl hk)))) (fun k hk => by
        rcases hk with (((hk | rfl) | rfl) | rfl) | rfl
        · have := hold k hk; omega
        · exact l0
        · exact l1
        · exact l2
        · exact l3)
      go_roundw
      case rel => exact ⟨k + 1, by go_num, by omega, ⟨a2, c2, f2, h6, h7, d0, d1, d2, S1, HV.out⟩⟩
      case measure => simp [intOf]; omega
    · obtain rfl : k = n := by omega
      have e0 := block_cell (k := 0) r5 rfl
      have e1 := block_cell (k := 1) r5 rfl
      have e2 := block_cell (k := 2) r5 rfl
      have f0 := block_free (o := 0) r5
      have f1 := block_free (o := 1) r5
      have f2' := block_free (o := 2) r5
      obtain ⟨S1, S2⟩ := setT (X := .int .i64 a) (Y := .int .i64 c) (Z := .bool f) r5
      have HF := Lib.hid (r1.turned ((Grow.of S2).weaken (fun k _ e hk => by have := H.out.old hk; have := Option.some.inj e; omega)))
      have HV := Lib.hid r7
      have g0 := block_cell (k := 0) S1 rfl
      have g1 := block_cell (k := 1) S1 rfl
      have g2 := block_cell (k := 2) S1 rfl
      clear r1 r2 r3 r4 r5 r6 r7 S1 S2 q0 q1 q2 t0 t1 t2
      go_wp2_with fail
      rw [HVV.out, HV.out]
      simp [bodyPost, results, Tryz.results52, go_sem, g0, g1, g2]
      exact HF.out
end
end Go.Proofs.YtohhkjamddojmaaGreatDoor.Big
