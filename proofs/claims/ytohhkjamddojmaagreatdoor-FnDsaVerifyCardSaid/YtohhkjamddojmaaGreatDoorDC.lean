/- A key's numbers as bytes, as the law makes them. -/
import Derived.Test.YtohhkjamddojmaaGreatDoorDB
namespace Go.Proofs.YtohhkjamddojmaaGreatDoor.Big
open Go.RowKit
attribute [local go_sem] ptr

/-- a row of bytes that is kept, of this number -/
structure BytesAt (G : Nat → Prop) (w : World) (g cap : Nat) (ks : List Nat) (n : Nat) : Prop where
  kept : G g
  cell : ∀ i, i < ks.length → w.cell? ⟨g, 0 + i, .none⟩ = some (.int .u8 (ks.getD i 0 : Nat))
  lt : ∀ i, ks.getD i 0 < 256
  len : ks.length ≤ 100
  cap : ks.length ≤ cap
  val : bev ks = n
theorem BytesAt.on {G : Nat → Prop} {w w' : World} {g cap n : Nat} {ks : List Nat} (h : BytesAt G w g cap ks n) {G' : Nat → Prop} (hk : Kept G w w') (hG : ∀ k, G k → G' k) : BytesAt G' w' g cap ks n :=
  ⟨hG _ h.kept, fun i hi => hk.cell h.kept (h.cell i hi), h.lt, h.len, h.cap, h.val⟩
theorem BytesAt.put {G : Nat → Prop} {w w' : World} {b g cap n : Nat} {ks : List Nat} (h : BytesAt G w g cap ks n) {G' : Nat → Prop} (hk : w.grownBy w' (some b)) (hb : g ≠ b) (hG : G' g) : BytesAt G' w' g cap ks n :=
  ⟨hG, fun i hi => hk.cell (h.cell i hi) (fun e => hb (Option.some.inj e)), h.lt, h.len, h.cap, h.val⟩
section
variable {R : Nat → Prop} {w0 w w' : World} {L L' : List (Nat × Int)}
/-- bytes of a number: kept, with all that was kept -/
theorem bytesK (h : Own R w0 w L) (n : Nat) (hn : n < 9223372036854775808) : Calls Tryz.prog 18 #[.int .i64 n, .int .i64 0] w (fun e w' => ∃ (ks : List Nat) (g cap : Nat), e = .returned (.slice (some ⟨g, 0, .none⟩) ks.length cap) ∧ Own R w0 w' L ∧ Own (RO R g) w' w' L ∧ BytesAt (RO R g) w' g cap ks n ∧ w0.heap.size ≤ g) := by
  refine (bytesO h n 0 hn (by decide)).mono ?_
  rintro e w' ⟨ks, g, cap, rfl, a1, a2, a3, a4, a5, a6, a7, a8⟩
  exact ⟨ks, g, cap, rfl, a1, a2, ⟨RO.self _ _, a3, a4, by omega, a6, a7⟩, a8⟩
/-- five rows of bytes -/
def FiveP (R : Nat → Prop) (w0 : World) (P Q G Y X : Nat) (e : Ending) (w' : World) : Prop :=
  ∃ (g1 c1 g2 c2 g3 c3 g4 c4 g5 c5 : Nat) (k1 k2 k3 k4 k5 : List Nat) (H : Nat → Prop),
    e = .returned (.agg #[.slice (some ⟨g1, 0, .none⟩) k1.length c1, .slice (some ⟨g2, 0, .none⟩) k2.length c2, .slice (some ⟨g3, 0, .none⟩) k3.length c3, .slice (some ⟨g4, 0, .none⟩) k4.length c4, .slice (some ⟨g5, 0, .none⟩) k5.length c5]) ∧
    Own R w0 w' [] ∧ Own H w' w' [] ∧ (∀ k, R k → H k) ∧ BytesAt H w' g1 c1 k1 P ∧ BytesAt H w' g2 c2 k2 Q ∧ BytesAt H w' g3 c3 k3 G ∧ BytesAt H w' g4 c4 k4 Y ∧ BytesAt H w' g5 c5 k5 X
set_option maxHeartbeats 16000000 in
set_option maxRecDepth 100000 in
theorem numbersO (h : Own R w0 w []) (P Q G Y X : Nat) (hP : P < 9223372036854775808) (hQ : Q < 9223372036854775808) (hG : G < 9223372036854775808) (hY : Y < 9223372036854775808) (hX : X < 9223372036854775808) :
    Calls Tryz.prog 36 #[.agg #[.int .i64 P, .int .i64 Q, .int .i64 G, .int .i64 Y, .int .i64 X]] w (FiveP R w0 P Q G Y X) := by
  have g1 := h.guard (.cells #[.int .i64 P, .int .i64 Q, .int .i64 G, .int .i64 Y, .int .i64 X] 68)
  have n0 := heap_alloc_new w (.cells #[.int .i64 P, .int .i64 Q, .int .i64 G, .int .i64 Y, .int .i64 X] 68)
  have b0 := h.box (.cells #[.int .i64 P, .int .i64 Q, .int .i64 G, .int .i64 Y, .int .i64 X] 68)
  have s1 : (w.alloc (.cells #[.int .i64 P, .int .i64 Q, .int .i64 G, .int .i64 Y, .int .i64 X] 68)).heap.size = w.heap.size + 1 := Array.size_push _
  have g2 := g1.guard (.cells #[.slice .none 0 0, .slice .none 0 0, .slice .none 0 0, .slice .none 0 0, .slice .none 0 0] 72)
  have n1 := heap_alloc_new (w.alloc (.cells #[.int .i64 P, .int .i64 Q, .int .i64 G, .int .i64 Y, .int .i64 X] 68)) (.cells #[.slice .none 0 0, .slice .none 0 0, .slice .none 0 0, .slice .none 0 0, .slice .none 0 0] 72)
  have b1 := b0.box (.cells #[.slice .none 0 0, .slice .none 0 0, .slice .none 0 0, .slice .none 0 0, .slice .none 0 0] 72)
  have s2 : ((w.alloc (.cells #[.int .i64 P, .int .i64 Q, .int .i64 G, .int .i64 Y, .int .i64 X] 68)).alloc (.cells #[.slice .none 0 0, .slice .none 0 0, .slice .none 0 0, .slice .none 0 0, .slice .none 0 0] 72)).heap.size = w.heap.size + 1 + 1 := by
    show (Array.push _ _).size = _
    rw [Array.size_push, s1]
  have m0 := (g1.box (.cells #[.slice .none 0 0, .slice .none 0 0, .slice .none 0 0, .slice .none 0 0, .slice .none 0 0] 72)).block n0 (RO.self _ _)
  rw [s1] at g2 n1
  have HH := Lib.hid (And.intro b1 (And.intro g2 (And.intro m0 n1)))
  have HR := Lib.hid (fun k (hk : R k) => h.old hk)
  have KS := Lib.hid (fun w' (o : Own (RO (RO R w.heap.size) (w.heap.size + 1)) ((w.alloc (.cells #[.int .i64 P, .int .i64 Q, .int .i64 G, .int .i64 Y, .int .i64 X] 68)).alloc (.cells #[.slice .none 0 0, .slice .none 0 0, .slice .none 0 0, .slice .none 0 0, .slice .none 0 0] 72)) w' []) => (⟨block_cell (k := 0) (o.block m0 (.inl (RO.self _ _))) rfl, block_cell (k := 1) (o.block m0 (.inl (RO.self _ _))) rfl, block_cell (k := 2) (o.block m0 (.inl (RO.self _ _))) rfl, block_cell (k := 3) (o.block m0 (.inl (RO.self _ _))) rfl, block_cell (k := 4) (o.block m0 (.inl (RO.self _ _))) rfl⟩ : w'.cell? ⟨w.heap.size, 0, .none⟩ = some (.int .i64 (P : Nat)) ∧ w'.cell? ⟨w.heap.size, 1, .none⟩ = some (.int .i64 (Q : Nat)) ∧ w'.cell? ⟨w.heap.size, 2, .none⟩ = some (.int .i64 (G : Nat)) ∧ w'.cell? ⟨w.heap.size, 3, .none⟩ = some (.int .i64 (Y : Nat)) ∧ w'.cell? ⟨w.heap.size, 4, .none⟩ = some (.int .i64 (X : Nat))))
  have KN := Lib.hid (fun w' (o : Own (RO (RO R w.heap.size) (w.heap.size + 1)) ((w.alloc (.cells #[.int .i64 P, .int .i64 Q, .int .i64 G, .int .i64 Y, .int .i64 X] 68)).alloc (.cells #[.slice .none 0 0, .slice .none 0 0, .slice .none 0 0, .slice .none 0 0, .slice .none 0 0] 72)) w' []) => o.block n1 (RO.self _ _))
  have HL := Lib.hid (And.intro hP (And.intro hQ (And.intro hG (And.intro hY hX))))
  have HSZ := Lib.hid s2
  clear h g1 n0 b0 g2 b1 m0 n1 s1 s2 hP hQ hG hY hX
  go_enter Tryz.func36, Tryz.ntmps36
  go_upto_region 1 with fail
  go_region_held3 (fun w' => w'.cell? ⟨w.heap.size, 0, .none⟩ = some (.int .i64 (P : Nat)) ∧ w'.cell? ⟨w.heap.size, 1, .none⟩ = some (.int .i64 (Q : Nat)) ∧ w'.cell? ⟨w.heap.size, 2, .none⟩ = some (.int .i64 (G : Nat)) ∧ w'.cell? ⟨w.heap.size, 3, .none⟩ = some (.int .i64 (Y : Nat)) ∧ w'.cell? ⟨w.heap.size, 4, .none⟩ = some (.int .i64 (X : Nat))) (go_keep) (first | (go_at_call 18; refine (bytesK N4.out X (HL.out.2.2.2.2)).mono ?_; rintro e w5 ⟨k5, g5, c5, rfl, a1, a2, a3, a4⟩; have b1 : Own (RO (RO R w.heap.size) (w.heap.size + 1)) ((w.alloc (.cells #[.int .i64 P, .int .i64 Q, .int .i64 G, .int .i64 Y, .int .i64 X] 68)).alloc (.cells #[.slice .none 0 0, .slice .none 0 0, .slice .none 0 0, .slice .none 0 0, .slice .none 0 0] 72)) w5 [] := (H4.out.narrow (fun k hk => (.inl (.inl (.inl (.inl hk))))) a1); obtain ⟨q0, q1, q2, q3, q4⟩ := KS.out _ b1; have H5 := Lib.hid b1; have N5 := Lib.hid a2; have B5 := Lib.hid a3; have M5 := Lib.hid (And.intro a4 b1.kept.size); have U5 := Lib.hid a1; have z := KN.out _ b1; have z0 := block_cell (k := 0) z rfl; have y0 := block_free (o := 0) z; have z1 := block_cell (k := 1) z rfl; have y1 := block_free (o := 1) z; have z2 := block_cell (k := 2) z rfl; have y2 := block_free (o := 2) z; have z3 := block_cell (k := 3) z rfl; have y3 := block_free (o := 3) z; have z4 := block_cell (k := 4) z rfl; have y4 := block_free (o := 4) z; clear z; clear a1 a2 a3 a4 b1) | (go_at_call 18; refine (bytesK N3.out Y (HL.out.2.2.2.1)).mono ?_; rintro e w4 ⟨k4, g4, c4, rfl, a1, a2, a3, a4⟩; have b1 : Own (RO (RO R w.heap.size) (w.heap.size + 1)) ((w.alloc (.cells #[.int .i64 P, .int .i64 Q, .int .i64 G, .int .i64 Y, .int .i64 X] 68)).alloc (.cells #[.slice .none 0 0, .slice .none 0 0, .slice .none 0 0, .slice .none 0 0, .slice .none 0 0] 72)) w4 [] := (H3.out.narrow (fun k hk => (.inl (.inl (.inl hk)))) a1); obtain ⟨q0, q1, q2, q3, q4⟩ := KS.out _ b1; have H4 := Lib.hid b1; have N4 := Lib.hid a2; have B4 := Lib.hid a3; have M4 := Lib.hid (And.intro a4 b1.kept.size); have U4 := Lib.hid a1; clear a1 a2 a3 a4 b1) | (go_at_call 18; refine (bytesK N2.out G (HL.out.2.2.1)).mono ?_; rintro e w3 ⟨k3, g3, c3, rfl, a1, a2, a3, a4⟩; have b1 : Own (RO (RO R w.heap.size) (w.heap.size + 1)) ((w.alloc (.cells #[.int .i64 P, .int .i64 Q, .int .i64 G, .int .i64 Y, .int .i64 X] 68)).alloc (.cells #[.slice .none 0 0, .slice .none 0 0, .slice .none 0 0, .slice .none 0 0, .slice .none 0 0] 72)) w3 [] := (H2.out.narrow (fun k hk => (.inl (.inl hk))) a1); obtain ⟨q0, q1, q2, q3, q4⟩ := KS.out _ b1; have H3 := Lib.hid b1; have N3 := Lib.hid a2; have B3 := Lib.hid a3; have M3 := Lib.hid (And.intro a4 b1.kept.size); have U3 := Lib.hid a1; clear a1 a2 a3 a4 b1) | (go_at_call 18; refine (bytesK N1.out Q (HL.out.2.1)).mono ?_; rintro e w2 ⟨k2, g2, c2, rfl, a1, a2, a3, a4⟩; have b1 : Own (RO (RO R w.heap.size) (w.heap.size + 1)) ((w.alloc (.cells #[.int .i64 P, .int .i64 Q, .int .i64 G, .int .i64 Y, .int .i64 X] 68)).alloc (.cells #[.slice .none 0 0, .slice .none 0 0, .slice .none 0 0, .slice .none 0 0, .slice .none 0 0] 72)) w2 [] := (H1.out.narrow (fun k hk => (.inl hk)) a1); obtain ⟨q0, q1, q2, q3, q4⟩ := KS.out _ b1; have H2 := Lib.hid b1; have N2 := Lib.hid a2; have B2 := Lib.hid a3; have M2 := Lib.hid (And.intro a4 b1.kept.size); have U2 := Lib.hid a1; clear a1 a2 a3 a4 b1) | (go_at_call 18; refine (bytesK (HH.out.2.1.drew _) P (HL.out.1)).mono ?_; rintro e w1 ⟨k1, g1, c1, rfl, a1, a2, a3, a4⟩; have b1 : Own (RO (RO R w.heap.size) (w.heap.size + 1)) ((w.alloc (.cells #[.int .i64 P, .int .i64 Q, .int .i64 G, .int .i64 Y, .int .i64 X] 68)).alloc (.cells #[.slice .none 0 0, .slice .none 0 0, .slice .none 0 0, .slice .none 0 0, .slice .none 0 0] 72)) w1 [] := a1; obtain ⟨q0, q1, q2, q3, q4⟩ := KS.out _ b1; have H1 := Lib.hid b1; have N1 := Lib.hid a2; have B1 := Lib.hid a3; have M1 := Lib.hid (And.intro a4 b1.kept.size); have U1 := Lib.hid a2; clear a1 a2 a3 a4 b1))
  all_goals
    have hsz := HSZ.out
    have l1 : w.heap.size + 1 + 1 ≤ g1 := by have := M1.out.1; omega
    have l2 : w.heap.size + 1 + 1 ≤ g2 := by have := M2.out.1; have := M1.out.2; omega
    have l3 : w.heap.size + 1 + 1 ≤ g3 := by have := M3.out.1; have := M2.out.2; omega
    have l4 : w.heap.size + 1 + 1 ≤ g4 := by have := M4.out.1; have := M3.out.2; omega
    have l5 : w.heap.size + 1 + 1 ≤ g5 := by have := M5.out.1; have := M4.out.2; omega
    have e1 := (((B1.out.on (G' := (RO (RO (RO (RO R w.heap.size) (w.heap.size + 1)) g1) g2)) U2.out.kept (fun k hk => .inl hk)).on (G' := (RO (RO (RO (RO (RO R w.heap.size) (w.heap.size + 1)) g1) g2) g3)) U3.out.kept (fun k hk => .inl hk)).on (G' := (RO (RO (RO (RO (RO (RO R w.heap.size) (w.heap.size + 1)) g1) g2) g3) g4)) U4.out.kept (fun k hk => .inl hk)).on (G' := (RO (RO (RO (RO (RO (RO (RO R w.heap.size) (w.heap.size + 1)) g1) g2) g3) g4) g5)) U5.out.kept (fun k hk => .inl hk)
    have e2 := ((B2.out.on (G' := (RO (RO (RO (RO (RO R w.heap.size) (w.heap.size + 1)) g1) g2) g3)) U3.out.kept (fun k hk => .inl hk)).on (G' := (RO (RO (RO (RO (RO (RO R w.heap.size) (w.heap.size + 1)) g1) g2) g3) g4)) U4.out.kept (fun k hk => .inl hk)).on (G' := (RO (RO (RO (RO (RO (RO (RO R w.heap.size) (w.heap.size + 1)) g1) g2) g3) g4) g5)) U5.out.kept (fun k hk => .inl hk)
    have e3 := (B3.out.on (G' := (RO (RO (RO (RO (RO (RO R w.heap.size) (w.heap.size + 1)) g1) g2) g3) g4)) U4.out.kept (fun k hk => .inl hk)).on (G' := (RO (RO (RO (RO (RO (RO (RO R w.heap.size) (w.heap.size + 1)) g1) g2) g3) g4) g5)) U5.out.kept (fun k hk => .inl hk)
    have e4 := B4.out.on (G' := (RO (RO (RO (RO (RO (RO (RO R w.heap.size) (w.heap.size + 1)) g1) g2) g3) g4) g5)) U5.out.kept (fun k hk => .inl hk)
    have e5 := B5.out
    have z := KN.out _ H5.out
    have hw5 := HH.out.1.narrow (fun k hk => (.inl (.inl hk))) H5.out
    have hO5 := N5.out
    have hF0 := setc (setc (setc (setc (setc z 0 (.slice (some ⟨g1, 0, .none⟩) k1.length c1)) 1 (.slice (some ⟨g2, 0, .none⟩) k2.length c2)) 2 (.slice (some ⟨g3, 0, .none⟩) k3.length c3)) 3 (.slice (some ⟨g4, 0, .none⟩) k4.length c4)) 4 (.slice (some ⟨g5, 0, .none⟩) k5.length c5)
    have hg5 : w5.grownBy (((((w5.setCell ⟨w.heap.size + 1, 0, .none⟩ (.slice (some ⟨g1, 0, .none⟩) k1.length c1)).setCell ⟨w.heap.size + 1, 1, .none⟩ (.slice (some ⟨g2, 0, .none⟩) k2.length c2)).setCell ⟨w.heap.size + 1, 2, .none⟩ (.slice (some ⟨g3, 0, .none⟩) k3.length c3)).setCell ⟨w.heap.size + 1, 3, .none⟩ (.slice (some ⟨g4, 0, .none⟩) k4.length c4)).setCell ⟨w.heap.size + 1, 4, .none⟩ (.slice (some ⟨g5, 0, .none⟩) k5.length c5)) (some (w.heap.size + 1)) :=
      grown_trans (grown_set w5 (w.heap.size + 1) 0 _) (grown_trans (grown_set _ (w.heap.size + 1) 1 _) (grown_trans (grown_set _ (w.heap.size + 1) 2 _) (grown_trans (grown_set _ (w.heap.size + 1) 3 _) (grown_set _ (w.heap.size + 1) 4 _))))
    have hO := hw5.turned ((Grow.of hg5).weaken (fun k _ e hk => by have := HR.out k hk; have := Option.some.inj e; omega))
    have hH := hO.widen (R' := (fun k => R k ∨ k = g1 ∨ k = g2 ∨ k = g3 ∨ k = g4 ∨ k = g5)) (fun k hk => .inl hk) (fun k hk => by
      have hs := hg5.size
      rcases hk with hk | rfl | rfl | rfl | rfl | rfl
      · exact hO.old hk
      · exact Nat.lt_of_lt_of_le (hO5.old e1.kept) hs
      · exact Nat.lt_of_lt_of_le (hO5.old e2.kept) hs
      · exact Nat.lt_of_lt_of_le (hO5.old e3.kept) hs
      · exact Nat.lt_of_lt_of_le (hO5.old e4.kept) hs
      · exact Nat.lt_of_lt_of_le (hO5.old e5.kept) hs)
    have a1 := e1.put (G' := (fun k => R k ∨ k = g1 ∨ k = g2 ∨ k = g3 ∨ k = g4 ∨ k = g5)) hg5 (by omega) (show (fun k => R k ∨ k = g1 ∨ k = g2 ∨ k = g3 ∨ k = g4 ∨ k = g5) g1 from .inr (.inl rfl))
    have a2 := e2.put (G' := (fun k => R k ∨ k = g1 ∨ k = g2 ∨ k = g3 ∨ k = g4 ∨ k = g5)) hg5 (by omega) (show (fun k => R k ∨ k = g1 ∨ k = g2 ∨ k = g3 ∨ k = g4 ∨ k = g5) g2 from .inr (.inr (.inl rfl)))
    have a3 := e3.put (G' := (fun k => R k ∨ k = g1 ∨ k = g2 ∨ k = g3 ∨ k = g4 ∨ k = g5)) hg5 (by omega) (show (fun k => R k ∨ k = g1 ∨ k = g2 ∨ k = g3 ∨ k = g4 ∨ k = g5) g3 from .inr (.inr (.inr (.inl rfl))))
    have a4 := e4.put (G' := (fun k => R k ∨ k = g1 ∨ k = g2 ∨ k = g3 ∨ k = g4 ∨ k = g5)) hg5 (by omega) (show (fun k => R k ∨ k = g1 ∨ k = g2 ∨ k = g3 ∨ k = g4 ∨ k = g5) g4 from .inr (.inr (.inr (.inr (.inl rfl)))))
    have a5 := e5.put (G' := (fun k => R k ∨ k = g1 ∨ k = g2 ∨ k = g3 ∨ k = g4 ∨ k = g5)) hg5 (by omega) (show (fun k => R k ∨ k = g1 ∨ k = g2 ∨ k = g3 ∨ k = g4 ∨ k = g5) g5 from .inr (.inr (.inr (.inr (.inr rfl)))))
    obtain ⟨Fw, hFw⟩ : ∃ Fw, Fw = (((((w5.setCell ⟨w.heap.size + 1, 0, .none⟩ (.slice (some ⟨g1, 0, .none⟩) k1.length c1)).setCell ⟨w.heap.size + 1, 1, .none⟩ (.slice (some ⟨g2, 0, .none⟩) k2.length c2)).setCell ⟨w.heap.size + 1, 2, .none⟩ (.slice (some ⟨g3, 0, .none⟩) k3.length c3)).setCell ⟨w.heap.size + 1, 3, .none⟩ (.slice (some ⟨g4, 0, .none⟩) k4.length c4)).setCell ⟨w.heap.size + 1, 4, .none⟩ (.slice (some ⟨g5, 0, .none⟩) k5.length c5)) := ⟨_, rfl⟩
    rw [← hFw] at hF0 hO hH a1 a2 a3 a4 a5 ⊢
    have g0 := block_cell (k := 0) hF0 rfl
    have g1' := block_cell (k := 1) hF0 rfl
    have g2' := block_cell (k := 2) hF0 rfl
    have g3' := block_cell (k := 3) hF0 rfl
    have g4' := block_cell (k := 4) hF0 rfl
    have HFIN := Lib.hid (And.intro hO (And.intro hH (And.intro a1 (And.intro a2 (And.intro a3 (And.intro a4 a5))))))
    clear e1 e2 e3 e4 e5 z hw5 hO5 hg5 hO hH a1 a2 a3 a4 a5 hFw hF0 l1 l2 l3 l4 l5 hsz
    go_wp2_with fail
    simp [bodyPost, results, Tryz.results36, go_sem, g0, g1', g2', g3', g4']
    exact ⟨g1, c1, g2, c2, g3, c3, g4, c4, g5, c5, k1, k2, k3, k4, k5, _, rfl, HFIN.out.1, HFIN.out.2.1, fun k hk => .inl hk, HFIN.out.2.2.1, HFIN.out.2.2.2.1, HFIN.out.2.2.2.2.1, HFIN.out.2.2.2.2.2.1, HFIN.out.2.2.2.2.2.2⟩
end
end Go.Proofs.YtohhkjamddojmaaGreatDoor.Big
