/- The law of FnDsaVerify. -/
import Derived.Test.YtohhkjamddojmaaGreatDoorDF
import Derived.Test.YtohhkjamddojmaaGreatDoorDG
namespace Go.Proofs.YtohhkjamddojmaaGreatDoor.Big
open Go.RowKit NumLaw
attribute [local go_sem] ptr

section
variable {R : Nat → Prop} {w0 w w' : World} {L L' : List (Nat × Int)}
set_option maxHeartbeats 4000000 in
set_option maxRecDepth 100000 in
theorem keyO (h : Own R w0 w []) (A B X cr : Int) : Calls Tryz.prog 34 #[.agg #[.int .i64 A, .int .i64 B, .int .i64 X, .int .u32 cr]] w (KeyP R w0) := by
  have b0 := h.box (.cells #[.int .i64 A, .int .i64 B, .int .i64 X, .int .u32 cr] 65)
  have m0 := heap_alloc_new w (.cells #[.int .i64 A, .int .i64 B, .int .i64 X, .int .u32 cr] 65)
  have s1 : (w.alloc (.cells #[.int .i64 A, .int .i64 B, .int .i64 X, .int .u32 cr] 65)).heap.size = w.heap.size + 1 := Array.size_push _
  have g1 := b0.guard (.cells #[.int .i64 0, .int .i64 0, .int .i64 0, .int .i64 0, .int .i64 0] 68)
  have n1 := heap_alloc_new (w.alloc (.cells #[.int .i64 A, .int .i64 B, .int .i64 X, .int .u32 cr] 65)) (.cells #[.int .i64 0, .int .i64 0, .int .i64 0, .int .i64 0, .int .i64 0] 68)
  have b1 := b0.box (.cells #[.int .i64 0, .int .i64 0, .int .i64 0, .int .i64 0, .int .i64 0] 68)
  have m1 := (grown_alloc (w.alloc (.cells #[.int .i64 A, .int .i64 B, .int .i64 X, .int .u32 cr] 65)) (.cells #[.int .i64 0, .int .i64 0, .int .i64 0, .int .i64 0, .int .i64 0] 68) .none).block w.heap.size (by omega) (by simp) |>.trans m0
  rw [s1] at g1 n1
  have a0 := block_cell (k := 0) m1 rfl
  have a1 := block_cell (k := 1) m1 rfl
  have a2 := block_cell (k := 2) m1 rfl
  have HC := Lib.hid (newDsa g1 A B X)
  have HG := Lib.hid (And.intro b1 n1)
  have HR := Lib.hid (show ∀ k, R k → k < w.heap.size from fun k hk => h.old hk)
  clear h b0 m0 s1 g1 n1 b1 m1
  go_enter Tryz.func34, Tryz.ntmps34
  go_wp2_with fail
  refine HC.out.mono ?_
  rintro e w1 ⟨P, Q, G, Y, X', rfl, h1, h2⟩
  have z := h1.block HG.out.2 (RO.self _ _)
  have z0 := block_cell (k := 0) z rfl
  have y0 := block_free (o := 0) z
  have z1 := block_cell (k := 1) z rfl
  have y1 := block_free (o := 1) z
  have z2 := block_cell (k := 2) z rfl
  have y2 := block_free (o := 2) z
  have z3 := block_cell (k := 3) z rfl
  have y3 := block_free (o := 3) z
  have z4 := block_cell (k := 4) z rfl
  have y4 := block_free (o := 4) z
  have H1 := Lib.hid (And.intro h1 (And.intro h2 z))
  clear h1 h2 z HC
  go_wp2_with fail
  have hO := HG.out.1.narrow (fun k hk => .inl hk) H1.out.1
  have hF0 := setc (setc (setc (setc (setc H1.out.2.2 0 (.int .i64 (P : Nat))) 1 (.int .i64 (Q : Nat))) 2 (.int .i64 (G : Nat))) 3 (.int .i64 (Y : Nat))) 4 (.int .i64 (X' : Nat))
  have hg5 : w1.grownBy (((((w1.setCell ⟨w.heap.size + 1, 0, .none⟩ (.int .i64 (P : Nat))).setCell ⟨w.heap.size + 1, 1, .none⟩ (.int .i64 (Q : Nat))).setCell ⟨w.heap.size + 1, 2, .none⟩ (.int .i64 (G : Nat))).setCell ⟨w.heap.size + 1, 3, .none⟩ (.int .i64 (Y : Nat))).setCell ⟨w.heap.size + 1, 4, .none⟩ (.int .i64 (X' : Nat))) (some (w.heap.size + 1)) :=
    grown_trans (grown_set w1 (w.heap.size + 1) 0 _) (grown_trans (grown_set _ (w.heap.size + 1) 1 _) (grown_trans (grown_set _ (w.heap.size + 1) 2 _) (grown_trans (grown_set _ (w.heap.size + 1) 3 _) (grown_set _ (w.heap.size + 1) 4 _))))
  have hT := hO.turned ((Grow.of hg5).weaken (fun k _ e hk => by have := HR.out k hk; have := Option.some.inj e; omega))
  obtain ⟨Fw, hFw⟩ : ∃ Fw, Fw = (((((w1.setCell ⟨w.heap.size + 1, 0, .none⟩ (.int .i64 (P : Nat))).setCell ⟨w.heap.size + 1, 1, .none⟩ (.int .i64 (Q : Nat))).setCell ⟨w.heap.size + 1, 2, .none⟩ (.int .i64 (G : Nat))).setCell ⟨w.heap.size + 1, 3, .none⟩ (.int .i64 (Y : Nat))).setCell ⟨w.heap.size + 1, 4, .none⟩ (.int .i64 (X' : Nat))) := ⟨_, rfl⟩
  rw [← hFw] at hF0 hT ⊢
  have g0 := block_cell (k := 0) hF0 rfl
  have g1 := block_cell (k := 1) hF0 rfl
  have g2 := block_cell (k := 2) hF0 rfl
  have g3 := block_cell (k := 3) hF0 rfl
  have g4 := block_cell (k := 4) hF0 rfl
  have HT := Lib.hid hT
  clear hO hF0 hg5 hT hFw
  simp [bodyPost, results, Tryz.results34, go_sem, g0, g1, g2, g3, g4]
  exact ⟨P, Q, G, Y, X', rfl, HT.out, H1.out.2.1⟩
end
end Go.Proofs.YtohhkjamddojmaaGreatDoor.Big
