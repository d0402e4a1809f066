/- The law of FnDsaVerify: walked. -/
import Derived.Test.YtohhkjamddojmaaGreatDoorDH
namespace Go.Proofs.YtohhkjamddojmaaGreatDoor.Big
open Go.RowKit NumLaw
attribute [local go_sem] ptr
attribute [local irreducible] Sz

section
variable {R : Nat → Prop} {w0 w w' : World} {L L' : List (Nat × Int)}
set_option maxHeartbeats 16000000 in
set_option maxRecDepth 100000 in
theorem lawVerO (h : Own R w0 w []) (A B X0 : Int) (cr d0 d1 r s : Nat) (h0 : d0 < 256) (h1 : d1 < 256) (hr : r < 4294967296) (hs : s < 4294967296) :
    Calls Tryz.prog 8 #[.agg #[.int .i64 A, .int .i64 B, .int .i64 X0, .int .u32 cr], .agg #[.int .u8 d0, .int .u8 d1], .int .u32 r, .int .u32 s] w (fun e w' => e = .returned (.bool true) ∧ Own R w0 w' []) := by
  have b0 := h.box (.cells #[.int .i64 A, .int .i64 B, .int .i64 X0, .int .u32 cr] 65)
  have m0 := heap_alloc_new w (.cells #[.int .i64 A, .int .i64 B, .int .i64 X0, .int .u32 cr] 65)
  have s1 : (w.alloc (.cells #[.int .i64 A, .int .i64 B, .int .i64 X0, .int .u32 cr] 65)).heap.size = w.heap.size + 1 := Array.size_push _
  have g1 := b0.guard (.cells #[.int .u8 (d0 : Nat), .int .u8 (d1 : Nat)] 66)
  have n1 := heap_alloc_new (w.alloc (.cells #[.int .i64 A, .int .i64 B, .int .i64 X0, .int .u32 cr] 65)) (.cells #[.int .u8 (d0 : Nat), .int .u8 (d1 : Nat)] 66)
  have b1 := b0.box (.cells #[.int .u8 (d0 : Nat), .int .u8 (d1 : Nat)] 66)
  have m1 := (grown_alloc (w.alloc (.cells #[.int .i64 A, .int .i64 B, .int .i64 X0, .int .u32 cr] 65)) (.cells #[.int .u8 (d0 : Nat), .int .u8 (d1 : Nat)] 66) .none).block w.heap.size (by omega) (by simp) |>.trans m0
  have s2 : ((w.alloc (.cells #[.int .i64 A, .int .i64 B, .int .i64 X0, .int .u32 cr] 65)).alloc (.cells #[.int .u8 (d0 : Nat), .int .u8 (d1 : Nat)] 66)).heap.size = w.heap.size + 1 + 1 := by
    show (Array.push _ _).size = _
    rw [Array.size_push, s1]
  rw [s1] at g1 n1
  have a0 := block_cell (k := 0) m1 rfl
  have a1 := block_cell (k := 1) m1 rfl
  have a2 := block_cell (k := 2) m1 rfl
  have a3 := block_cell (k := 3) m1 rfl
  have HC := Lib.hid (keyO g1 A B X0 cr)
  have HG := Lib.hid (And.intro b1 n1)
  have HS := Lib.hid s2
  have G1 := Lib.hid g1
  have HN := Lib.hid (And.intro h0 (And.intro h1 (And.intro hr hs)))
  clear h b0 m0 s1 g1 n1 b1 m1 s2 h0 h1 hr hs
  go_enter Tryz.func8, Tryz.ntmps8
  go_wp2_with fail
  refine HC.out.mono ?_
  rintro e w1 ⟨P, Q, G, Y, X, rfl, h1, h2⟩
  have H1 := Lib.hid (And.intro h1 h2)
  clear h1 h2 HC
  have n4 := heap_alloc_new w1 (.cells #[.int .i64 (P : Nat), .int .i64 (Q : Nat), .int .i64 (G : Nat), .int .i64 (Y : Nat), .int .i64 (X : Nat)] 68)
  have g4 := H1.out.1.guard (.cells #[.int .i64 (P : Nat), .int .i64 (Q : Nat), .int .i64 (G : Nat), .int .i64 (Y : Nat), .int .i64 (X : Nat)] 68)
  have b4 := H1.out.1.box (.cells #[.int .i64 (P : Nat), .int .i64 (Q : Nat), .int .i64 (G : Nat), .int .i64 (Y : Nat), .int .i64 (X : Nat)] 68)
  have m4 := b4.block HG.out.2 (RO.self _ _)
  have N0 := Lib.hid g4
  have HF := Lib.hid (And.intro (HG.out.1.narrow (fun k hk => .inl hk) b4) b4)
  have KS := Lib.hid (fun w' (o : Own (RO (RO R (w.heap.size + 1)) w1.heap.size) (w1.alloc (.cells #[.int .i64 (P : Nat), .int .i64 (Q : Nat), .int .i64 (G : Nat), .int .i64 (Y : Nat), .int .i64 (X : Nat)] 68)) w' []) => (⟨block_cell (k := 0) (o.block n4 (RO.self _ _)) rfl, block_cell (k := 1) (o.block n4 (RO.self _ _)) rfl, block_cell (k := 2) (o.block n4 (RO.self _ _)) rfl, block_cell (k := 3) (o.block n4 (RO.self _ _)) rfl, block_cell (k := 4) (o.block n4 (RO.self _ _)) rfl⟩ : w'.cell? ⟨w1.heap.size, 0, .none⟩ = some (.int .i64 (P : Nat)) ∧ w'.cell? ⟨w1.heap.size, 1, .none⟩ = some (.int .i64 (Q : Nat)) ∧ w'.cell? ⟨w1.heap.size, 2, .none⟩ = some (.int .i64 (G : Nat)) ∧ w'.cell? ⟨w1.heap.size, 3, .none⟩ = some (.int .i64 (Y : Nat)) ∧ w'.cell? ⟨w1.heap.size, 4, .none⟩ = some (.int .i64 (X : Nat))))
  have BD := Lib.hid (show BytesAt (RO (RO R (w.heap.size + 1)) w1.heap.size) (w1.alloc (.cells #[.int .i64 (P : Nat), .int .i64 (Q : Nat), .int .i64 (G : Nat), .int .i64 (Y : Nat), .int .i64 (X : Nat)] 68)) (w.heap.size + 1) 2 [d0, d1] (d0 * 256 + d1) from ⟨.inl (RO.self _ _), fun i hi => by
    match i, hi with
    | 0, _ => exact block_cell (k := 0) m4 rfl
    | 1, _ => exact block_cell (k := 1) m4 rfl, fun i => by
      match i with
      | 0 => exact HN.out.1
      | 1 => exact HN.out.2.1
      | i + 2 => simp, by simp, by simp, by simp [bev]⟩)
  have HZ := Lib.hid (show d0 * 256 + d1 < 65536 by have := HN.out.1; have := HN.out.2.1; omega)
  have HR := Lib.hid (show r < 9223372036854775808 ∧ s < 9223372036854775808 by have := HN.out.2.2.1; have := HN.out.2.2.2; omega)
  have HP := Lib.hid (show P < 9223372036854775808 ∧ Q < 9223372036854775808 ∧ G < 9223372036854775808 ∧ Y < 9223372036854775808 ∧ X < 9223372036854775808 by
    have k := H1.out.2
    have := k.p31
    have := k.q16
    have := k.gp
    have := k.xq
    have : Y < P := by rw [k.y]; exact Nat.mod_lt _ (by have := k.qp; omega)
    omega)
  have wr : IntKind.i64.wrap (r : Int) = r := wraps_i64 _ (by omega) (by have := HR.out; omega)
  have ws : IntKind.i64.wrap (s : Int) = s := wraps_i64 _ (by omega) (by have := HR.out; omega)
  have wr' : wrap64 (r : Int) = r := wrapD (by have := HR.out; omega)
  have ws' : wrap64 (s : Int) = s := wrapD (by have := HR.out; omega)
  obtain ⟨q0, q1, q2, q3, q4⟩ := KS.out _ N0.out
  clear n4 g4 b4 m4 a0 a1 a2 a3
  go_upto_region 2 with fail
  go_region_held3 (fun w' => w'.cell? ⟨w1.heap.size, 0, .none⟩ = some (.int .i64 (P : Nat)) ∧ w'.cell? ⟨w1.heap.size, 1, .none⟩ = some (.int .i64 (Q : Nat)) ∧ w'.cell? ⟨w1.heap.size, 2, .none⟩ = some (.int .i64 (G : Nat)) ∧ w'.cell? ⟨w1.heap.size, 3, .none⟩ = some (.int .i64 (Y : Nat)) ∧ w'.cell? ⟨w1.heap.size, 4, .none⟩ = some (.int .i64 (X : Nat))) (go_keep) (first | (go_at_call 35; refine (verI N3.out P Q G Y X (d0 * 256 + d1) r s g1 c1 g2 c2 g3 c3 g4 c4 g5 c5 (w.heap.size + 1) 2 gr crr gs cs k1 k2 k3 k4 k5 [d0, d1] kr kt H1.out.2 ((F1.out.1.on K2.out.kept (G' := RO H gr) (fun k hk => .inl hk)).on K3.out.kept (G' := (RO (RO H gr) gs)) (fun k hk => .inl hk)) ((F1.out.2.1.on K2.out.kept (G' := RO H gr) (fun k hk => .inl hk)).on K3.out.kept (G' := (RO (RO H gr) gs)) (fun k hk => .inl hk)) ((F1.out.2.2.1.on K2.out.kept (G' := RO H gr) (fun k hk => .inl hk)).on K3.out.kept (G' := (RO (RO H gr) gs)) (fun k hk => .inl hk)) ((F1.out.2.2.2.1.on K2.out.kept (G' := RO H gr) (fun k hk => .inl hk)).on K3.out.kept (G' := (RO (RO H gr) gs)) (fun k hk => .inl hk)) ((F1.out.2.2.2.2.on K2.out.kept (G' := RO H gr) (fun k hk => .inl hk)).on K3.out.kept (G' := (RO (RO H gr) gs)) (fun k hk => .inl hk)) (((BD.out.on E1.out.kept I1.out).on K2.out.kept (G' := RO H gr) (fun k hk => .inl hk)).on K3.out.kept (G' := (RO (RO H gr) gs)) (fun k hk => .inl hk)) (F2.out.on K3.out.kept (G' := (RO (RO H gr) gs)) (fun k hk => .inl hk)) F3.out HZ.out HN.out.2.2.1 HN.out.2.2.2).mono ?_; rintro e v4 ⟨rfl, x1⟩; have y := E3.out.narrow (fun k hk => .inl (.inl (I1.out k hk))) x1; obtain ⟨q0, q1, q2, q3, q4⟩ := KS.out _ y; have E4 := Lib.hid y; have K4 := Lib.hid x1; clear x1 y) | (go_at_call 18; refine (bytesK N2.out s HR.out.2).mono ?_; rintro e v3 ⟨kt, gs, cs, rfl, x1, x2, x3, -⟩; have y := E2.out.narrow (fun k hk => .inl (I1.out k hk)) x1; obtain ⟨q0, q1, q2, q3, q4⟩ := KS.out _ y; have E3 := Lib.hid y; have K3 := Lib.hid x1; have N3 := Lib.hid x2; have F3 := Lib.hid x3; clear x1 x2 x3 y) | (go_at_call 18; refine (bytesK N1.out r HR.out.1).mono ?_; rintro e v2 ⟨kr, gr, crr, rfl, x1, x2, x3, -⟩; have y := E1.out.narrow I1.out x1; obtain ⟨q0, q1, q2, q3, q4⟩ := KS.out _ y; have E2 := Lib.hid y; have K2 := Lib.hid x1; have N2 := Lib.hid x2; have F2 := Lib.hid x3; clear x1 x2 x3 y) | (go_at_call 36; refine (numbersO (N0.out.drew _) P Q G Y X HP.out.1 HP.out.2.1 HP.out.2.2.1 HP.out.2.2.2.1 HP.out.2.2.2.2).mono ?_; rintro e v1 ⟨g1, c1, g2, c2, g3, c3, g4, c4, g5, c5, k1, k2, k3, k4, k5, H, rfl, x1, x2, x3, x4, x5, x6, x7, x8⟩; obtain ⟨q0, q1, q2, q3, q4⟩ := KS.out _ x1; have E1 := Lib.hid x1; have N1 := Lib.hid x2; have I1 := Lib.hid x3; have F1 := Lib.hid (And.intro x4 (And.intro x5 (And.intro x6 (And.intro x7 x8)))); clear x1 x2 x3 x4 x5 x6 x7 x8) | (go_at_call 37; refine (verS K4.out P Q G Y X r s (w.heap.size + 1) 2 d0 d1 H1.out.2 HN.out.2.2.1 HN.out.2.2.2 HN.out.1 HN.out.2.1 (.inl (.inl (I1.out _ BD.out.kept))) (E4.out.kept.cell BD.out.kept (BD.out.cell 0 (Nat.zero_lt_succ _))) (E4.out.kept.cell BD.out.kept (BD.out.cell 1 (Nat.succ_lt_succ (Nat.zero_lt_succ _))))).mono ?_; rintro e v5 ⟨rfl, x1⟩; have y := E3.out.narrow (fun k hk => .inl (.inl (I1.out k hk))) x1; obtain ⟨q0, q1, q2, q3, q4⟩ := KS.out _ y; have E5 := Lib.hid y; clear x1 y))
  all_goals
    go_wp2_with fail
    go_ret
    exact ⟨rfl, HF.out.1.narrow (fun k hk => .inl (.inl hk)) E5.out⟩
end
end Go.Proofs.YtohhkjamddojmaaGreatDoor.Big
