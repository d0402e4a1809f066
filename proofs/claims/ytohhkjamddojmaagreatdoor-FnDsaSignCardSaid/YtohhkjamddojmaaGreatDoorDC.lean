/- A key's numbers as bytes, as the law makes them. A DSA key as the package has it. -/
import Derived.Test.YtohhkjamddojmaaGreatDoorDB
namespace Go.Proofs.YtohhkjamddojmaaGreatDoor.Big
open Go.RowKit
attribute [local go_sem] ptr

/-- a row of bytes that is kept, of this number -/
structure BytesAt (G : Nat → Prop) (w : World) (g cap : Nat) (ks : List Nat) (n : Nat) : Prop where
  kept : G g
  cell : ∀ i, i < ks.length → w.cell? ⟨g, 0 + i, .none⟩ = some (.int .u8 (ks.getD i 0 : Nat))
  lt : ∀ i, ks.getD i 0 < 256
  len : ks.length ≤ 100
  cap : ks.length ≤ cap
  val : bev ks = n
theorem BytesAt.on {G : Nat → Prop} {w w' : World} {g cap n : Nat} {ks : List Nat} (h : BytesAt G w g cap ks n) {G' : Nat → Prop} (hk : Kept G w w') (hG : ∀ k, G k → G' k) : BytesAt G' w' g cap ks n :=
  ⟨hG _ h.kept, fun i hi => hk.cell h.kept (h.cell i hi), h.lt, h.len, h.cap, h.val⟩
theorem BytesAt.put {G : Nat → Prop} {w w' : World} {b g cap n : Nat} {ks : List Nat} (h : BytesAt G w g cap ks n) {G' : Nat → Prop} (hk : w.grownBy w' (some b)) (hb : g ≠ b) (hG : G' g) : BytesAt G' w' g cap ks n :=
  ⟨hG, fun i hi => hk.cell (h.cell i hi) (fun e => hb (Option.some.inj e)), h.lt, h.len, h.cap, h.val⟩
section
variable {R : Nat → Prop} {w0 w w' : World} {L L' : List (Nat × Int)}
/-- bytes of a number: kept, with all that was kept -/
theorem bytesK (h : Own R w0 w L) (n : Nat) (hn : n < 9223372036854775808) : Calls Tryz.prog 18 #[.int .i64 n, .int .i64 0] w (fun e w' => ∃ (ks : List Nat) (g cap : Nat), e = .returned (.slice (some ⟨g, 0, .none⟩) ks.length cap) ∧ Own R w0 w' L ∧ Own (RO R g) w' w' L ∧ BytesAt (RO R g) w' g cap ks n ∧ w0.heap.size ≤ g) := by
  refine (bytesO h n 0 hn (by decide)).mono ?_
  rintro e w' ⟨ks, g, cap, rfl, a1, a2, a3, a4, a5, a6, a7, a8⟩
  exact ⟨ks, g, cap, rfl, a1, a2, ⟨RO.self _ _, a3, a4, by omega, a6, a7⟩, a8⟩
/-- five rows of bytes -/
def FiveP (R : Nat → Prop) (w0 : World) (P Q G Y X : Nat) (e : Ending) (w' : World) : Prop :=
  ∃ (g1 c1 g2 c2 g3 c3 g4 c4 g5 c5 : Nat) (k1 k2 k3 k4 k5 : List Nat) (H : Nat → Prop),
    e = .returned (.agg #[.slice (some ⟨g1, 0, .none⟩) k1.length c1, .slice (some ⟨g2, 0, .none⟩) k2.length c2, .slice (some ⟨g3, 0, .none⟩) k3.length c3, .slice (some ⟨g4, 0, .none⟩) k4.length c4, .slice (some ⟨g5, 0, .none⟩) k5.length c5]) ∧
    Own R w0 w' [] ∧ Own H w' w' [] ∧ (∀ k, R k → H k) ∧ BytesAt H w' g1 c1 k1 P ∧ BytesAt H w' g2 c2 k2 Q ∧ BytesAt H w' g3 c3 k3 G ∧ BytesAt H w' g4 c4 k4 Y ∧ BytesAt H w' g5 c5 k5 X
set_option maxHeartbeats 16000000 in
set_option maxRecDepth 100000 in
theorem numbersO (h : Own R w0 w []) (P Q G Y X : Nat) (hP : P < 9223372036854775808) (hQ : Q < 9223372036854775808) (hG : G < 9223372036854775808) (hY : Y < 9223372036854775808) (hX : X < 9223372036854775808) :
    Calls Tryz.prog 36 #[.agg #[.int .i64 P, .int .i64 Q, .int .i64 G, .int .i64 Y, .int .i64 X]] w (FiveP R w0 P Q G Y X) := by
  have g1 := h.guard (.cells #[.int .i64 P, .int .i64 Q, .int .i64 G, .int .i64 Y, .int .i64 X] 68)
  have n0 := heap_alloc_new w (.cells #[.int .i64 P, .int .i64 Q, .int .i64 G, .int .i64 Y, .int .i64 X] 68)
  have b0 := h.box (.cells #[.int .i64 P, .int .i64 Q, .int .i64 G, .int .i64 Y, .int .i64 X] 68)
  have s1 : (w.alloc (.cells #[.int .i64 P, .int .i64 Q, .int .i64 G, .int .i64 Y, .int .i64 X] 68)).heap.size = w.heap.size + 1 := Array.size_push _
  have g2 := g1.guard (.cells #[.slice .none 0 0, .slice .none 0 0, .slice .none 0 0, .slice .none 0 0, .slice .none 0 0] 72)
  have n1 := heap_alloc_new (w.alloc (.cells #[.int .i64 P, .int .i64 Q, .int .i64 G, .int .i64 Y, .int .i64 X] 68)) (.cells #[.slice .none 0 0, .slice .none 0 0, .slice .none 0 0, .slice .none 0 0, .slice .none 0 0] 72)
  have b1 := b0.box (.cells #[.slice .none 0 0, .slice .none 0 0, .slice .none 0 0, .slice .none 0 0, .slice .none 0 0] 72)
  have s2 : ((w.alloc (.cells #[.int .i64 P, .int .i64 Q, .int .i64 G, .int .i64 Y, .int .i64 X] 68)).alloc (.cells #[.slice .none 0 0, .slice .none 0 0, .slice .none 0 0, .slice .none 0 0, .slice .none 0 0] 72)).heap.size = w.heap.size + 1 + 1 := by
    show (Array.push _ _).size = _
    rw [Array.size_push, s1]
  have m0 := (g1.box (.cells #[.slice .none 0 0, .slice .none 0 0, .slice .none 0 0, .slice .none 0 0, .slice .none 0 0] 72)).block n0 (RO.self _ _)
  rw [s1] at g2 n1
  have HH := Lib.hid (And.intro b1 (And.intro g2 (And.intro m0 n1)))
  have HR := Lib.hid (fun k (hk : R k) => h.old hk)
  have KS := Lib.hid (fun w' (o : Own (RO (RO R w.heap.size) (w.heap.size + 1)) ((w.alloc (.cells #[.int .i64 P, .int .i64 Q, .int .i64 G, .int .i64 Y, .int .i64 X] 68)).alloc (.cells #[.slice .none 0 0, .slice .none 0 0, .slice .none 0 0, .slice .none 0 0, .slice .none 0 0] 72)) w' []) => (⟨block_cell (k := 0) (o.block m0 (.inl (RO.self _ _))) rfl, block_cell (k := 1) (o.block m0 (.inl (RO.self _ _))) rfl, block_cell (k := 2) (o.block m0 (.inl (RO.self _ _))) rfl, block_cell (k := 3) (o.block m0 (.inl (RO.self _ _))) rfl, block_cell (k := 4) (o.block m0 (.inl (RO.self _ _))) rfl⟩ : w'.cell? ⟨w.heap.size, 0, .none⟩ = some (.int .i64 (P : Nat)) ∧ w'.cell? ⟨w.heap.size, 1, .none⟩ = some (.int .i64 (Q : Nat)) ∧ w'.cell? ⟨w.heap.size, 2, .none⟩ = some (.int .i64 (G : Nat)) ∧ w'.cell? ⟨w.heap.size, 3, .none⟩ = some (.int .i64 (Y : Nat)) ∧ w'.cell? ⟨w.heap.size, 4, .none⟩ = some (.int .i64 (X : Nat))))
  have KN := Lib.hid (fun w' (o : Own (RO (RO R w.heap.size) (w.heap.size + 1)) ((w.alloc (.cells #[.int .i64 P, .int .i64 Q, .int .i64 G, .int .i64 Y, .int .i64 X] 68)).alloc (.cells #[.slice .none 0 0, .slice .none 0 0, .slice .none 0 0, .slice .none 0 0, .slice .none 0 0] 72)) w' []) => o.block n1 (RO.self _ _))
  have HL := Lib.hid (And.intro hP (And.intro hQ (And.intro hG (And.intro hY hX))))
  have HSZ := Lib.hid s2
  clear h g1 n0 b0 g2 b1 m0 n1 s1 s2 hP hQ hG hY hX
  go_enter Tryz.func36, Tryz.ntmps36
  go_upto_region 1 with fail
  go_region_held3 (fun w' => w'.cell? ⟨w.heap.size, 0, .none⟩ = some (.int .i64 (P : Nat)) ∧ w'.cell? ⟨w.heap.size, 1, .none⟩ = some (.int .i64 (Q : Nat)) ∧ w'.cell? ⟨w.heap.size, 2, .none⟩ = some (.int .i64 (G : Nat)) ∧ w'.cell? ⟨w.heap.size, 3, .none⟩ = some (.int .i64 (Y : Nat)) ∧ w'.cell? ⟨w.heap.size, 4, .none⟩ = some (.int .i64 (X : Nat))) (go_keep) (first | (go_at_call 18; refine (bytesK N4.out X (HL.out.2.2.2.2)).mono ?_; rintro e w5 ⟨k5, g5, c5, rfl, a1, a2, a3, a4⟩; have b1 : Own (RO (RO R w.heap.size) (w.heap.size + 1)) ((w.alloc (.cells #[.int .i64 P, .int .i64 Q, .int .i64 G, .int .i64 Y, .int .i64 X] 68)).alloc (.cells #[.slice .none 0 0, .slice .none 0 0, .slice .none 0 0, .slice .none 0 0, .slice .none 0 0] 72)) w5 [] := (H4.out.narrow (fun k hk => (.inl (.inl (.inl (.inl hk))))) a1); obtain ⟨q0, q1, q2, q3, q4⟩ := KS.out _ b1; have H5 := Lib.hid b1; have N5 := Lib.hid a2; have B5 := Lib.hid a3; have M5 := Lib.hid (And.intro a4 b1.kept.size); have U5 := Lib.hid a1; have z := KN.out _ b1; have z0 := block_cell (k := 0) z rfl; have y0 := block_free (o := 0) z; have z1 := block_cell (k := 1) z rfl; have y1 := block_free (o := 1) z; have z2 := block_cell (k := 2) z rfl; have y2 := block_free (o := 2) z; have z3 := block_cell (k := 3) z rfl; have y3 := block_free (o := 3) z; have z4 := block_cell (k := 4) z rfl; have y4 := block_free (o := 4) z; clear z; clear a1 a2 a3 a4 b1) | (go_at_call 18; refine (bytesK N3.out Y (HL.out.2.2.2.1)).mono ?_; rintro e w4 ⟨k4, g4, c4, rfl, a1, a2, a3, a4⟩; have b1 : Own (RO (RO R w.heap.size) (w.heap.size + 1)) ((w.alloc (.cells #[.int .i64 P, .int .i64 Q, .int .i64 G, .int .i64 Y, .int .i64 X] 68)).alloc (.cells #[.slice .none 0 0, .slice .none 0 0, .slice .none 0 0, .slice .none 0 0, .slice .none 0 0] 72)) w4 [] := (H3.out.narrow (fun k hk => (.inl (.inl (.inl hk)))) a1); obtain ⟨q0, q1, q2, q3, q4⟩ := KS.out _ b1; have H4 := Lib.hid b1; have N4 := Lib.hid a2; have B4 := Lib.hid a3; have M4 := Lib.hid (And.intro a4 b1.kept.size); have U4 := Lib.hid a1; clear a1 a2 a3 a4 b1) | (go_at_call 18; refine (bytesK N2.out G (HL.out.2.2.1)).mono ?_; rintro e w3 ⟨k3, g3, c3, rfl, a1, a2, a3, a4⟩; have b1 : Own (RO (RO R w.heap.size) (w.heap.size + 1)) ((w.alloc (.cells #[.int .i64 P, .int .i64 Q, .int .i64 G, .int .i64 Y, .int .i64 X] 68)).alloc (.cells #[.slice .none 0 0, .slice .none 0 0, .slice .none 0 0, .slice .none 0 0, .slice .none 0 0] 72)) w3 [] := (H2.out.narrow (fun k hk => (.inl (.inl hk))) a1); obtain ⟨q0, q1, q2, q3, q4⟩ := KS.out _ b1; have H3 := Lib.hid b1; have N3 := Lib.hid a2; have B3 := Lib.hid a3; have M3 := Lib.hid (And.intro a4 b1.kept.size); have U3 := Lib.hid a1; clear a1 a2 a3 a4 b1) | (go_at_call 18; refine (bytesK N1.out Q (HL.out.2.1)).mono ?_; rintro e w2 ⟨k2, g2, c2, rfl, a1, a2, a3, a4⟩; have b1 : Own (RO (RO R w.heap.size) (w.heap.size + 1)) ((w.alloc (.cells #[.int .i64 P, .int .i64 Q, .int .i64 G, .int .i64 Y, .int .i64 X] 68)).alloc (.cells #[.slice .none 0 0, .slice .none 0 0, .slice .none 0 0, .slice .none 0 0, .slice .none 0 0] 72)) w2 [] := (H1.out.narrow (fun k hk => (.inl hk)) a1); obtain ⟨q0, q1, q2, q3, q4⟩ := KS.out _ b1; have H2 := Lib.hid b1; have N2 := Lib.hid a2; have B2 := Lib.hid a3; have M2 := Lib.hid (And.intro a4 b1.kept.size); have U2 := Lib.hid a1; clear a1 a2 a3 a4 b1) | (go_at_call 18; refine (bytesK (HH.out.2.1.drew _) P (HL.out.1)).mono ?_; rintro e w1 ⟨k1, g1, c1, rfl, a1, a2, a3, a4⟩; have b1 : Own (RO (RO R w.heap.size) (w.heap.size + 1)) ((w.alloc (.cells #[.int .i64 P, .int .i64 Q, .int .i64 G, .int .i64 Y, .int .i64 X] 68)).alloc (.cells #[.slice .none 0 0, .slice .none 0 0, .slice .none 0 0, .slice .none 0 0, .slice .none 0 0] 72)) w1 [] := a1; obtain ⟨q0, q1, q2, q3, q4⟩ := KS.out _ b1; have H1 := Lib.hid b1; have N1 := Lib.hid a2; have B1 := Lib.hid a3; have M1 := Lib.hid (And.intro a4 b1.kept.size); have U1 := Lib.hid a2; clear a1 a2 a3 a4 b1))
  all_goals
    have hsz := HSZ.out
    have l1 : w.heap.size + 1 + 1 ≤ g1 := by have := M1.out.1; omega
    have l2 : w.heap.size + 1 + 1 ≤ g2 := by have := M2.out.1; have := M1.out.2; omega
    have l3 : w.heap.size + 1 + 1 ≤ g3 := by have := M3.out.1; have := M2.out.2; omega
    have l4 : w.heap.size + 1 + 1 ≤ g4 := by have := M4.out.1; have := M3.out.2; omega
    have l5 : w.heap.size + 1 + 1 ≤ g5 := by have := M5.out.1; have := M4.out.2; omega
    have e1 := (((B1.out.on (G' := (RO (RO (RO (RO R w.heap.size) (w.heap.size + 1)) g1) g2)) U2.out.kept (fun k hk => .inl hk)).on (G' := (RO (RO (RO (RO (RO R w.heap.size) (w.heap.size + 1)) g1) g2) g3)) U3.out.kept (fun k hk => .inl hk)).on (G' := (RO (RO (RO (RO (RO (RO R w.heap.size) (w.heap.size + 1)) g1) g2) g3) g4)) U4.out.kept (fun k hk => .inl hk)).on (G' := (RO (RO (RO (RO (RO (RO (RO R w.heap.size) (w.heap.size + 1)) g1) g2) g3) g4) g5)) U5.out.kept (fun k hk => .inl hk)
    have e2 := ((B2.out.on (G' := (RO (RO (RO (RO (RO R w.heap.size) (w.heap.size + 1)) g1) g2) g3)) U3.out.kept (fun k hk => .inl hk)).on (G' := (RO (RO (RO (RO (RO (RO R w.heap.size) (w.heap.size + 1)) g1) g2) g3) g4)) U4.out.kept (fun k hk => .inl hk)).on (G' := (RO (RO (RO (RO (RO (RO (RO R w.heap.size) (w.heap.size + 1)) g1) g2) g3) g4) g5)) U5.out.kept (fun k hk => .inl hk)
    have e3 := (B3.out.on (G' := (RO (RO (RO (RO (RO (RO R w.heap.size) (w.heap.size + 1)) g1) g2) g3) g4)) U4.out.kept (fun k hk => .inl hk)).on (G' := (RO (RO (RO (RO (RO (RO (RO R w.heap.size) (w.heap.size + 1)) g1) g2) g3) g4) g5)) U5.out.kept (fun k hk => .inl hk)
    have e4 := B4.out.on (G' := (RO (RO (RO (RO (RO (RO (RO R w.heap.size) (w.heap.size + 1)) g1) g2) g3) g4) g5)) U5.out.kept (fun k hk => .inl hk)
    have e5 := B5.out
    have z := KN.out _ H5.out
    have hw5 := HH.out.1.narrow (fun k hk => (.inl (.inl hk))) H5.out
    have hO5 := N5.out
    have hF0 := setc (setc (setc (setc (setc z 0 (.slice (some ⟨g1, 0, .none⟩) k1.length c1)) 1 (.slice (some ⟨g2, 0, .none⟩) k2.length c2)) 2 (.slice (some ⟨g3, 0, .none⟩) k3.length c3)) 3 (.slice (some ⟨g4, 0, .none⟩) k4.length c4)) 4 (.slice (some ⟨g5, 0, .none⟩) k5.length c5)
    have hg5 : w5.grownBy (((((w5.setCell ⟨w.heap.size + 1, 0, .none⟩ (.slice (some ⟨g1, 0, .none⟩) k1.length c1)).setCell ⟨w.heap.size + 1, 1, .none⟩ (.slice (some ⟨g2, 0, .none⟩) k2.length c2)).setCell ⟨w.heap.size + 1, 2, .none⟩ (.slice (some ⟨g3, 0, .none⟩) k3.length c3)).setCell ⟨w.heap.size + 1, 3, .none⟩ (.slice (some ⟨g4, 0, .none⟩) k4.length c4)).setCell ⟨w.heap.size + 1, 4, .none⟩ (.slice (some ⟨g5, 0, .none⟩) k5.length c5)) (some (w.heap.size + 1)) :=
      grown_trans (grown_set w5 (w.heap.size + 1) 0 _) (grown_trans (grown_set _ (w.heap.size + 1) 1 _) (grown_trans (grown_set _ (w.heap.size + 1) 2 _) (grown_trans (grown_set _ (w.heap.size + 1) 3 _) (grown_set _ (w.heap.size + 1) 4 _))))
    have hO := hw5.turned ((Grow.of hg5).weaken (fun k _ e hk => by have := HR.out k hk; have := Option.some.inj e; omega))
    have hH := hO.widen (R' := (fun k => R k ∨ k = g1 ∨ k = g2 ∨ k = g3 ∨ k = g4 ∨ k = g5)) (fun k hk => .inl hk) (fun k hk => by
      have hs := hg5.size
      rcases hk with hk | rfl | rfl | rfl | rfl | rfl
      · exact hO.old hk
      · exact Nat.lt_of_lt_of_le (hO5.old e1.kept) hs
      · exact Nat.lt_of_lt_of_le (hO5.old e2.kept) hs
      · exact Nat.lt_of_lt_of_le (hO5.old e3.kept) hs
      · exact Nat.lt_of_lt_of_le (hO5.old e4.kept) hs
      · exact Nat.lt_of_lt_of_le (hO5.old e5.kept) hs)
    have a1 := e1.put (G' := (fun k => R k ∨ k = g1 ∨ k = g2 ∨ k = g3 ∨ k = g4 ∨ k = g5)) hg5 (by omega) (show (fun k => R k ∨ k = g1 ∨ k = g2 ∨ k = g3 ∨ k = g4 ∨ k = g5) g1 from .inr (.inl rfl))
    have a2 := e2.put (G' := (fun k => R k ∨ k = g1 ∨ k = g2 ∨ k = g3 ∨ k = g4 ∨ k = g5)) hg5 (by omega) (show (fun k => R k ∨ k = g1 ∨ k = g2 ∨ k = g3 ∨ k = g4 ∨ k = g5) g2 from .inr (.inr (.inl rfl)))
    have a3 := e3.put (G' := (fun k => R k ∨ k = g1 ∨ k = g2 ∨ k = g3 ∨ k = g4 ∨ k = g5)) hg5 (by omega) (show (fun k => R k ∨ k = g1 ∨ k = g2 ∨ k = g3 ∨ k = g4 ∨ k = g5) g3 from .inr (.inr (.inr (.inl rfl))))
    have a4 := e4.put (G' := (fun k => R k ∨ k = g1 ∨ k = g2 ∨ k = g3 ∨ k = g4 ∨ k = g5)) hg5 (by omega) (show (fun k => R k ∨ k = g1 ∨ k = g2 ∨ k = g3 ∨ k = g4 ∨ k = g5) g4 from .inr (.inr (.inr (.inr (.inl rfl)))))
    have a5 := e5.put (G' := (fun k => R k ∨ k = g1 ∨ k = g2 ∨ k = g3 ∨ k = g4 ∨ k = g5)) hg5 (by omega) (show (fun k => R k ∨ k = g1 ∨ k = g2 ∨ k = g3 ∨ k = g4 ∨ k = g5) g5 from .inr (.inr (.inr (.inr (.inr rfl)))))
    obtain ⟨Fw, hFw⟩ : ∃ Fw, Fw = (((((w5.setCell ⟨w.heap.size + 1, 0, .none⟩ (.slice (some ⟨g1, 0, .none⟩) k1.length c1)).setCell ⟨w.heap.size + 1, 1, .none⟩ (.slice (some ⟨g2, 0, .none⟩) k2.length c2)).setCell ⟨w.heap.size + 1, 2, .none⟩ (.slice (some ⟨g3, 0, .none⟩) k3.length c3)).setCell ⟨w.heap.size + 1, 3, .none⟩ (.slice (some ⟨g4, 0, .none⟩) k4.length c4)).setCell ⟨w.heap.size + 1, 4, .none⟩ (.slice (some ⟨g5, 0, .none⟩) k5.length c5)) := ⟨_, rfl⟩
    rw [← hFw] at hF0 hO hH a1 a2 a3 a4 a5 ⊢
    have g0 := block_cell (k := 0) hF0 rfl
    have g1' := block_cell (k := 1) hF0 rfl
    have g2' := block_cell (k := 2) hF0 rfl
    have g3' := block_cell (k := 3) hF0 rfl
    have g4' := block_cell (k := 4) hF0 rfl
    have HFIN := Lib.hid (And.intro hO (And.intro hH (And.intro a1 (And.intro a2 (And.intro a3 (And.intro a4 a5))))))
    clear e1 e2 e3 e4 e5 z hw5 hO5 hg5 hO hH a1 a2 a3 a4 a5 hFw hF0 l1 l2 l3 l4 l5 hsz
    go_wp2_with fail
    simp [bodyPost, results, Tryz.results36, go_sem, g0, g1', g2', g3', g4']
    exact ⟨g1, c1, g2, c2, g3, c3, g4, c4, g5, c5, k1, k2, k3, k4, k5, _, rfl, HFIN.out.1, HFIN.out.2.1, fun k hk => .inl hk, HFIN.out.2.2.1, HFIN.out.2.2.2.1, HFIN.out.2.2.2.2.1, HFIN.out.2.2.2.2.2.1, HFIN.out.2.2.2.2.2.2⟩
end
end Go.Proofs.YtohhkjamddojmaaGreatDoor.Big

namespace Go.Proofs.YtohhkjamddojmaaGreatDoor.Big
open Go.RowKit
attribute [local go_sem] ptr

section
variable {R : Nat → Prop} {w0 w w' : World} {L L' : List (Nat × Int)}
/-- a store into a block that is no Int's and no number's -/
theorem Own.poke (h : Own R w0 w L) {c : Nat} {cs : Array Value} {T : TypeId} (hc : w.heap[c]? = some (.cells cs T)) (h1 : T ≠ 172) (h2 : T ≠ 199) (h8 : 8 ≤ c) (i : Nat) (v : Value) :
    Own R (w.setCell ⟨c, i, .none⟩ v) (w.setCell ⟨c, i, .none⟩ v) L := by
  obtain ⟨ps, qs, hf⟩ := h.ints
  have hg := grown_set w c i v
  refine ⟨⟨ps, qs, ⟨fun k hk => Nat.lt_of_lt_of_le (hf.old k hk) hg.size, hf.lenV, hf.lenP, hf.lenQ, fun i z v p q e1 e2 e3 e4 => ?_, hf.own, hf.zz, hf.pp, hf.zp⟩⟩, Kept.refl _ _, h.tab.kept hg (fun b e => by have := Option.some.inj e; omega), h.low⟩
  have one := hf.one i z v p q e1 e2 e3 e4
  refine one.grow (Grow.of hg) ?_ ?_
  · intro e
    have e := Option.some.inj e
    subst e
    have := one.str
    unfold StrB at this
    rw [hc] at this
    have := Option.some.inj this
    injection this with _ e2 _
    exact h1 e2
  · intro b hb e
    have e := Option.some.inj e
    subst e
    rcases one.num.buf.1 with ⟨e3, _⟩ | ⟨b', e3, hN⟩
    · rw [e3] at hb; cases hb
    · rw [e3] at hb
      have := Option.some.inj hb
      subst this
      unfold NatB at hN
      rw [hc] at hN
      have := Option.some.inj hN
      injection this with _ e2 _
      exact h2 e2
/-- a key as the package has it: the numbers' cells in the block b -/
def PkP (R : Nat → Prop) (w0 : World) (L : List (Nat × Int)) (P Q G Y X : Nat) (e : Ending) (w' : World) : Prop :=
  ∃ (b z1 z2 z3 z4 z5 : Nat) (H : Nat → Prop), e = .returned (ptr b) ∧ H b ∧ w'.heap[b]? = some (.cells #[ptr z1, ptr z2, ptr z3, ptr z4, ptr z5] 141) ∧
    Own H w' w' ((z4, (Y : Int)) :: (z3, (G : Int)) :: (z2, (Q : Int)) :: (z1, (P : Int)) :: (z5, (X : Int)) :: L) ∧ (∀ w'' M, Own H w' w'' M → Own R w0 w'' M) ∧ (∀ k, R k → H k)
set_option maxHeartbeats 16000000 in
set_option maxRecDepth 100000 in
theorem numsKey (h : Own R w0 w L) (P Q G Y X g1 c1 g2 c2 g3 c3 g4 c4 g5 c5 : Nat) (k1 k2 k3 k4 k5 : List Nat) (b1 : BytesAt R w g1 c1 k1 P) (b2 : BytesAt R w g2 c2 k2 Q) (b3 : BytesAt R w g3 c3 k3 G) (b4 : BytesAt R w g4 c4 k4 Y) (b5 : BytesAt R w g5 c5 k5 X) :
    Calls Tryz.prog 84 #[.agg #[.slice (some ⟨g1, 0, .none⟩) k1.length c1, .slice (some ⟨g2, 0, .none⟩) k2.length c2, .slice (some ⟨g3, 0, .none⟩) k3.length c3, .slice (some ⟨g4, 0, .none⟩) k4.length c4, .slice (some ⟨g5, 0, .none⟩) k5.length c5]] w (PkP R w0 L P Q G Y X) := by
  have g0 := h.guard (.cells #[.slice (some ⟨g1, 0, .none⟩) k1.length c1, .slice (some ⟨g2, 0, .none⟩) k2.length c2, .slice (some ⟨g3, 0, .none⟩) k3.length c3, .slice (some ⟨g4, 0, .none⟩) k4.length c4, .slice (some ⟨g5, 0, .none⟩) k5.length c5] 72)
  have n0 := heap_alloc_new w (.cells #[.slice (some ⟨g1, 0, .none⟩) k1.length c1, .slice (some ⟨g2, 0, .none⟩) k2.length c2, .slice (some ⟨g3, 0, .none⟩) k3.length c3, .slice (some ⟨g4, 0, .none⟩) k4.length c4, .slice (some ⟨g5, 0, .none⟩) k5.length c5] 72)
  have e0 := h.box (.cells #[.slice (some ⟨g1, 0, .none⟩) k1.length c1, .slice (some ⟨g2, 0, .none⟩) k2.length c2, .slice (some ⟨g3, 0, .none⟩) k3.length c3, .slice (some ⟨g4, 0, .none⟩) k4.length c4, .slice (some ⟨g5, 0, .none⟩) k5.length c5] 72)
  have hk0 : Kept R w (w.alloc (.cells #[.slice (some ⟨g1, 0, .none⟩) k1.length c1, .slice (some ⟨g2, 0, .none⟩) k2.length c2, .slice (some ⟨g3, 0, .none⟩) k3.length c3, .slice (some ⟨g4, 0, .none⟩) k4.length c4, .slice (some ⟨g5, 0, .none⟩) k5.length c5] 72)) := (h.since.box (.cells #[.slice (some ⟨g1, 0, .none⟩) k1.length c1, .slice (some ⟨g2, 0, .none⟩) k2.length c2, .slice (some ⟨g3, 0, .none⟩) k3.length c3, .slice (some ⟨g4, 0, .none⟩) k4.length c4, .slice (some ⟨g5, 0, .none⟩) k5.length c5] 72)).kept
  have HG := Lib.hid (greatO g0 g5 0 c5 k5 (.inl b5.kept) (fun i hi => hk0.cell b5.kept (b5.cell i hi)) b5.lt (by have := b5.len; omega) b5.cap)
  rw [b5.val] at HG
  have HB := Lib.hid (And.intro b1 (And.intro b2 (And.intro b3 (And.intro b4 b5))))
  have HK0 := Lib.hid hk0
  have H0 := Lib.hid (And.intro h (And.intro e0 n0))
  have r4 := block_cell (k := 4) n0 rfl
  clear h g0 e0 hk0 b1 b2 b3 b4 b5
  unfold ptr at *
  go_enter Tryz.func84, Tryz.ntmps84
  go_wp2_with fail
  refine HG.out.mono ?_
  rintro e w1 ⟨z5, rfl, h1, -⟩
  have m0 := h1.block n0 (RO.self _ _)
  have H1 := Lib.hid h1
  have n2 := heap_alloc_new w1 (.cells #[.pointer .none, .pointer .none, .pointer .none, .pointer .none, ptr z5] 141)
  have h2 := h1.guard (.cells #[.pointer .none, .pointer .none, .pointer .none, .pointer .none, ptr z5] 141)
  have e2 := h1.box (.cells #[.pointer .none, .pointer .none, .pointer .none, .pointer .none, ptr z5] 141)
  have m2 := e2.block n0 (RO.self _ _)
  have KS := Lib.hid (fun w' M (o : Own (RO (RO R w.heap.size) w1.heap.size) (w1.alloc (.cells #[.pointer .none, .pointer .none, .pointer .none, .pointer .none, ptr z5] 141)) w' M) => (⟨block_cell (k := 0) (o.block m2 (.inl (RO.self _ _))) rfl, block_cell (k := 1) (o.block m2 (.inl (RO.self _ _))) rfl, block_cell (k := 2) (o.block m2 (.inl (RO.self _ _))) rfl, block_cell (k := 3) (o.block m2 (.inl (RO.self _ _))) rfl⟩ : w'.cell? ⟨w.heap.size, 0, .none⟩ = some (.slice (some ⟨g1, 0, .none⟩) k1.length c1) ∧ w'.cell? ⟨w.heap.size, 1, .none⟩ = some (.slice (some ⟨g2, 0, .none⟩) k2.length c2) ∧ w'.cell? ⟨w.heap.size, 2, .none⟩ = some (.slice (some ⟨g3, 0, .none⟩) k3.length c3) ∧ w'.cell? ⟨w.heap.size, 3, .none⟩ = some (.slice (some ⟨g4, 0, .none⟩) k4.length c4)))
  have N0 := Lib.hid (And.intro h2 (fun w' M (o : Own (RO (RO R w.heap.size) w1.heap.size) (w1.alloc (.cells #[.pointer .none, .pointer .none, .pointer .none, .pointer .none, ptr z5] 141)) w' M) => o.block n2 (RO.self _ _)))
  have E2 := Lib.hid (And.intro e2 n2)
  have hb2 := (HK0.out.trans ((h1.kept.weaken (fun k _ hn hk => hn (.inl hk))).trans ((h1.since.box (.cells #[.pointer .none, .pointer .none, .pointer .none, .pointer .none, ptr z5] 141)).kept.weaken (fun k _ hn hk => hn (.inl hk)))))
  have HB2 := Lib.hid (And.intro (HB.out.1.on (G' := (RO (RO R w.heap.size) w1.heap.size)) hb2 (fun k hk => .inl (.inl hk))) (And.intro (HB.out.2.1.on (G' := (RO (RO R w.heap.size) w1.heap.size)) hb2 (fun k hk => .inl (.inl hk))) (And.intro (HB.out.2.2.1.on (G' := (RO (RO R w.heap.size) w1.heap.size)) hb2 (fun k hk => .inl (.inl hk))) (HB.out.2.2.2.1.on (G' := (RO (RO R w.heap.size) w1.heap.size)) hb2 (fun k hk => .inl (.inl hk))))))
  have hsz : w.heap.size < w1.heap.size := Nat.lt_of_lt_of_le (by rw [show (w.alloc (.cells #[.slice (some ⟨g1, 0, .none⟩) k1.length c1, .slice (some ⟨g2, 0, .none⟩) k2.length c2, .slice (some ⟨g3, 0, .none⟩) k3.length c3, .slice (some ⟨g4, 0, .none⟩) k4.length c4, .slice (some ⟨g5, 0, .none⟩) k5.length c5] 72)).heap.size = w.heap.size + 1 from Array.size_push _]; omega) h1.kept.size
  have hne1 : ¬ w.heap.size = w1.heap.size := by omega
  have hne2 : ¬ w1.heap.size = w.heap.size := by omega
  clear hsz
  have S8 := Lib.hid (h1.old (h1.low 7 (by decide)))
  clear n0 HG r4 h1 n2 h2 e2 hb2 m2
  go_upto_region 2 with fail
  obtain ⟨q0, q1, q2, q3⟩ := KS.out _ _ N0.out.1
  unfold ptr at *
  go_region_held3 (fun w' => w'.cell? ⟨w.heap.size, 0, .none⟩ = some (.slice (some ⟨g1, 0, .none⟩) k1.length c1) ∧ w'.cell? ⟨w.heap.size, 1, .none⟩ = some (.slice (some ⟨g2, 0, .none⟩) k2.length c2) ∧ w'.cell? ⟨w.heap.size, 2, .none⟩ = some (.slice (some ⟨g3, 0, .none⟩) k3.length c3) ∧ w'.cell? ⟨w.heap.size, 3, .none⟩ = some (.slice (some ⟨g4, 0, .none⟩) k4.length c4)) (go_keep) (first | (go_at_call 61; refine (greatO N3.out g4 0 c4 k4 HB2.out.2.2.2.kept (fun i hi => N3.out.kept.cell HB2.out.2.2.2.kept (HB2.out.2.2.2.cell i hi)) HB2.out.2.2.2.lt (by have := HB2.out.2.2.2.len; omega) HB2.out.2.2.2.cap).mono ?_; rintro e v4 ⟨z4, rfl, a1, a2⟩; rw [HB2.out.2.2.2.val] at a1; obtain ⟨q0, q1, q2, q3⟩ := KS.out _ _ a1; have z := N0.out.2 _ _ a1; have y0 := block_cell (k := 0) z rfl; have x0 := block_free (o := 0) z; have y1 := block_cell (k := 1) z rfl; have x1 := block_free (o := 1) z; have y2 := block_cell (k := 2) z rfl; have x2 := block_free (o := 2) z; have y3 := block_cell (k := 3) z rfl; have x3 := block_free (o := 3) z; clear z; have N4 := Lib.hid (show Own (RO (RO R w.heap.size) w1.heap.size) (w1.alloc (.cells #[.pointer .none, .pointer .none, .pointer .none, .pointer .none, ptr z5] 141)) v4 ((z4, (Y : Int)) :: (z3, (G : Int)) :: (z2, (Q : Int)) :: (z1, (P : Int)) :: (z5, (X : Int)) :: L) from a1); clear a1 a2) | (go_at_call 61; refine (greatO N2.out g3 0 c3 k3 HB2.out.2.2.1.kept (fun i hi => N2.out.kept.cell HB2.out.2.2.1.kept (HB2.out.2.2.1.cell i hi)) HB2.out.2.2.1.lt (by have := HB2.out.2.2.1.len; omega) HB2.out.2.2.1.cap).mono ?_; rintro e v3 ⟨z3, rfl, a1, a2⟩; rw [HB2.out.2.2.1.val] at a1; obtain ⟨q0, q1, q2, q3⟩ := KS.out _ _ a1; have N3 := Lib.hid (show Own (RO (RO R w.heap.size) w1.heap.size) (w1.alloc (.cells #[.pointer .none, .pointer .none, .pointer .none, .pointer .none, ptr z5] 141)) v3 ((z3, (G : Int)) :: (z2, (Q : Int)) :: (z1, (P : Int)) :: (z5, (X : Int)) :: L) from a1); clear a1 a2) | (go_at_call 61; refine (greatO N1.out g2 0 c2 k2 HB2.out.2.1.kept (fun i hi => N1.out.kept.cell HB2.out.2.1.kept (HB2.out.2.1.cell i hi)) HB2.out.2.1.lt (by have := HB2.out.2.1.len; omega) HB2.out.2.1.cap).mono ?_; rintro e v2 ⟨z2, rfl, a1, a2⟩; rw [HB2.out.2.1.val] at a1; obtain ⟨q0, q1, q2, q3⟩ := KS.out _ _ a1; have N2 := Lib.hid (show Own (RO (RO R w.heap.size) w1.heap.size) (w1.alloc (.cells #[.pointer .none, .pointer .none, .pointer .none, .pointer .none, ptr z5] 141)) v2 ((z2, (Q : Int)) :: (z1, (P : Int)) :: (z5, (X : Int)) :: L) from a1); clear a1 a2) | (go_at_call 61; refine (greatO (N0.out.1.drew _) g1 0 c1 k1 HB2.out.1.kept (fun i hi => (N0.out.1.drew _).kept.cell HB2.out.1.kept (HB2.out.1.cell i hi)) HB2.out.1.lt (by have := HB2.out.1.len; omega) HB2.out.1.cap).mono ?_; rintro e v1 ⟨z1, rfl, a1, a2⟩; rw [HB2.out.1.val] at a1; obtain ⟨q0, q1, q2, q3⟩ := KS.out _ _ a1; have N1 := Lib.hid (show Own (RO (RO R w.heap.size) w1.heap.size) (w1.alloc (.cells #[.pointer .none, .pointer .none, .pointer .none, .pointer .none, ptr z5] 141)) v1 ((z1, (P : Int)) :: (z5, (X : Int)) :: L) from a1); clear a1 a2))
  all_goals
    have z := N0.out.2 _ _ N4.out
    have hF := setc (setc (setc (setc z 0 (ptr z1)) 1 (ptr z2)) 2 (ptr z3)) 3 (ptr z4)
    have hg : v4.grownBy ((((v4.setCell ⟨w1.heap.size, 0, .none⟩ (ptr z1)).setCell ⟨w1.heap.size, 1, .none⟩ (ptr z2)).setCell ⟨w1.heap.size, 2, .none⟩ (ptr z3)).setCell ⟨w1.heap.size, 3, .none⟩ (ptr z4)) (some w1.heap.size) :=
      grown_trans (grown_set v4 w1.heap.size 0 _) (grown_trans (grown_set _ w1.heap.size 1 _) (grown_trans (grown_set _ w1.heap.size 2 _) (grown_set _ w1.heap.size 3 _)))
    have p0 := N4.out.since
    have p1 := p0.poke z (by decide) (by decide) S8.out 0 (ptr z1)
    have p2 := p1.poke (setc z 0 (ptr z1)) (by decide) (by decide) S8.out 1 (ptr z2)
    have p3 := p2.poke (setc (setc z 0 (ptr z1)) 1 (ptr z2)) (by decide) (by decide) S8.out 2 (ptr z3)
    have p4 := p3.poke (setc (setc (setc z 0 (ptr z1)) 1 (ptr z2)) 2 (ptr z3)) (by decide) (by decide) S8.out 3 (ptr z4)
    have hw4 := E2.out.1.unguard E2.out.2 (by intro n p l q e; injection e with e1 e2 e3; exact absurd e2 (by decide)) N4.out
    have hA := hw4.turned ((Grow.of hg).weaken (fun k _ e hk => by
      have := Option.some.inj e
      subst this
      rcases hk with hk | hk
      · exact absurd (Nat.lt_of_lt_of_le (H0.out.1.old hk) (Nat.le_of_lt (Nat.lt_of_lt_of_le (by rw [show (w.alloc (.cells #[.slice (some ⟨g1, 0, .none⟩) k1.length c1, .slice (some ⟨g2, 0, .none⟩) k2.length c2, .slice (some ⟨g3, 0, .none⟩) k3.length c3, .slice (some ⟨g4, 0, .none⟩) k4.length c4, .slice (some ⟨g5, 0, .none⟩) k5.length c5] 72)).heap.size = w.heap.size + 1 from Array.size_push _]; omega) H1.out.kept.size))) (Nat.lt_irrefl _)
      · exact hne2 hk))
    have HFIN := Lib.hid (And.intro p4 (And.intro hF (fun w'' M (o : Own (RO (RO R w.heap.size) w1.heap.size) ((((v4.setCell ⟨w1.heap.size, 0, .none⟩ (ptr z1)).setCell ⟨w1.heap.size, 1, .none⟩ (ptr z2)).setCell ⟨w1.heap.size, 2, .none⟩ (ptr z3)).setCell ⟨w1.heap.size, 3, .none⟩ (ptr z4)) w'' M) => H0.out.2.1.unguard H0.out.2.2 (by intro n p l q e; injection e with e1 e2 e3; exact absurd e2 (by decide)) (hA.unguard hF (by intro n p l q e; injection e with e1 e2 e3; exact absurd e2 (by decide)) o))))
    clear z hF hg p0 p1 p2 p3 p4 hw4 hA
    unfold ptr at *
    go_wp2_with fail
    go_ret
    exact ⟨_, z1, z2, z3, z4, z5, _, rfl, RO.self _ _, HFIN.out.2.1, HFIN.out.1, HFIN.out.2.2, fun k hk => .inl (.inl hk)⟩
end
end Go.Proofs.YtohhkjamddojmaaGreatDoor.Big
