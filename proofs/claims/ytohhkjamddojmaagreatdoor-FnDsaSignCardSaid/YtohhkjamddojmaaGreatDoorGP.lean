/- The package's DsaSign. The law of FnDsaSign: walked. -/
import Derived.Test.YtohhkjamddojmaaGreatDoorGJ
import Derived.Test.YtohhkjamddojmaaGreatDoorDG
import Derived.Test.YtohhkjamddojmaaGreatDoorGN
namespace Go.Proofs.YtohhkjamddojmaaGreatDoor.Big
open Go.RowKit NumLaw
attribute [local go_sem] ptr
attribute [local irreducible] Sz

section
variable {R : Nat → Prop} {w0 w w' : World} {L L' : List (Nat × Int)}
/-- a signature as bytes, and it is one -/
def SigP (R : Nat → Prop) (w0 : World) (P Q G Y z : Nat) (e : Ending) (w' : World) : Prop :=
  ∃ (gr pr gs ps r s : Nat) (kr kt : List Nat) (H : Nat → Prop), e = .returned (.tuple #[.slice (some ⟨gr, pr, .none⟩) kr.length kr.length, .slice (some ⟨gs, ps, .none⟩) kt.length kt.length, .bool true]) ∧ kr.length ≤ 2 ∧ kt.length ≤ 2 ∧
    Own R w0 w' [] ∧ Own H w' w' [] ∧ (∀ k, R k → H k) ∧ BytesOf H w' gr pr kr.length kr r ∧ BytesOf H w' gs ps kt.length kt s ∧ verB P Q G Y z r s = true ∧ r < 65536 ∧ s < 65536
set_option maxHeartbeats 16000000 in
set_option maxRecDepth 100000 in
theorem signD (h : Own R w0 w []) (P Q G Y X z g1 c1 g2 c2 g3 c3 g4 c4 g5 c5 gh oh ch rb o n c : Nat) (k1 k2 k3 k4 k5 kh : List Nat) (a : Nat → Nat) (HK : KeyN P Q G Y X) (hF : FreshN P Q G a) (b1 : BytesAt R w g1 c1 k1 P) (b2 : BytesAt R w g2 c2 k2 Q) (b3 : BytesAt R w g3 c3 k3 G) (b4 : BytesAt R w g4 c4 k4 Y) (b5 : BytesAt R w g5 c5 k5 X)
    (bh : BytesOf R w gh oh ch kh z) (hz : z < 65536) (hRr : R rb) (hr : ∀ i, i < 4 → w.cell? ⟨rb, o + i, .none⟩ = some (.int .u8 (a i : Nat))) (hn : 8 ≤ n) (hc : n ≤ c) :
    Calls Tryz.prog 42 #[.agg #[.slice (some ⟨g1, 0, .none⟩) k1.length c1, .slice (some ⟨g2, 0, .none⟩) k2.length c2, .slice (some ⟨g3, 0, .none⟩) k3.length c3, .slice (some ⟨g4, 0, .none⟩) k4.length c4, .slice (some ⟨g5, 0, .none⟩) k5.length c5], .slice (some ⟨gh, oh, .none⟩) kh.length ch, .slice (some ⟨rb, o, .none⟩) n c] w (SigP R w0 P Q G Y z) := by
  have e0 := h.box (.cells #[.slice (some ⟨g1, 0, .none⟩) k1.length c1, .slice (some ⟨g2, 0, .none⟩) k2.length c2, .slice (some ⟨g3, 0, .none⟩) k3.length c3, .slice (some ⟨g4, 0, .none⟩) k4.length c4, .slice (some ⟨g5, 0, .none⟩) k5.length c5] 72)
  have m0 := heap_alloc_new w (.cells #[.slice (some ⟨g1, 0, .none⟩) k1.length c1, .slice (some ⟨g2, 0, .none⟩) k2.length c2, .slice (some ⟨g3, 0, .none⟩) k3.length c3, .slice (some ⟨g4, 0, .none⟩) k4.length c4, .slice (some ⟨g5, 0, .none⟩) k5.length c5] 72)
  have s1 : (w.alloc (.cells #[.slice (some ⟨g1, 0, .none⟩) k1.length c1, .slice (some ⟨g2, 0, .none⟩) k2.length c2, .slice (some ⟨g3, 0, .none⟩) k3.length c3, .slice (some ⟨g4, 0, .none⟩) k4.length c4, .slice (some ⟨g5, 0, .none⟩) k5.length c5] 72)).heap.size = w.heap.size + 1 := Array.size_push _
  have e1 := e0.box (.cells #[.slice (some ⟨rb, o, .none⟩) n c, .int .i64 0] 155)
  have n1 := heap_alloc_new (w.alloc (.cells #[.slice (some ⟨g1, 0, .none⟩) k1.length c1, .slice (some ⟨g2, 0, .none⟩) k2.length c2, .slice (some ⟨g3, 0, .none⟩) k3.length c3, .slice (some ⟨g4, 0, .none⟩) k4.length c4, .slice (some ⟨g5, 0, .none⟩) k5.length c5] 72)) (.cells #[.slice (some ⟨rb, o, .none⟩) n c, .int .i64 0] 155)
  have mB := ((grown_alloc (w.alloc (.cells #[.slice (some ⟨g1, 0, .none⟩) k1.length c1, .slice (some ⟨g2, 0, .none⟩) k2.length c2, .slice (some ⟨g3, 0, .none⟩) k3.length c3, .slice (some ⟨g4, 0, .none⟩) k4.length c4, .slice (some ⟨g5, 0, .none⟩) k5.length c5] 72)) (.cells #[.slice (some ⟨rb, o, .none⟩) n c, .int .i64 0] 155) .none).block w.heap.size (by omega) (by simp)).trans m0
  have hk : Kept R w ((w.alloc (.cells #[.slice (some ⟨g1, 0, .none⟩) k1.length c1, .slice (some ⟨g2, 0, .none⟩) k2.length c2, .slice (some ⟨g3, 0, .none⟩) k3.length c3, .slice (some ⟨g4, 0, .none⟩) k4.length c4, .slice (some ⟨g5, 0, .none⟩) k5.length c5] 72)).alloc (.cells #[.slice (some ⟨rb, o, .none⟩) n c, .int .i64 0] 155)) := ((h.since.box (.cells #[.slice (some ⟨g1, 0, .none⟩) k1.length c1, .slice (some ⟨g2, 0, .none⟩) k2.length c2, .slice (some ⟨g3, 0, .none⟩) k3.length c3, .slice (some ⟨g4, 0, .none⟩) k4.length c4, .slice (some ⟨g5, 0, .none⟩) k5.length c5] 72)).box (.cells #[.slice (some ⟨rb, o, .none⟩) n c, .int .i64 0] 155)).kept
  have hRs : ¬ R (w.heap.size + 1) := fun e => by have := h.old e; omega
  rw [s1] at n1
  have a0 := block_cell (k := 0) mB rfl
  have a1 := block_cell (k := 1) mB rfl
  have a2 := block_cell (k := 2) mB rfl
  have a3 := block_cell (k := 3) mB rfl
  have a4 := block_cell (k := 4) mB rfl
  have NK := Lib.hid (numsKey (e1.since.hold n1 (by decide)) P Q G Y X g1 c1 g2 c2 g3 c3 g4 c4 g5 c5 k1 k2 k3 k4 k5 (b1.on hk (fun _ h => .inl h)) (b2.on hk (fun _ h => .inl h)) (b3.on hk (fun _ h => .inl h)) (b4.on hk (fun _ h => .inl h)) (b5.on hk (fun _ h => .inl h)))
  have HH := Lib.hid (And.intro e1 (And.intro n1 (And.intro hRs (And.intro hk (And.intro hRr (And.intro hr (And.intro hn hc)))))))
  have HB := Lib.hid bh
  have HN := Lib.hid (And.intro HK (And.intro hF hz))
  clear h e0 m0 s1 e1 n1 mB hk hRs b1 b2 b3 b4 b5 bh HK hF hz hRr hr hn hc
  unfold ptr at *
  go_enter Tryz.func42, Tryz.ntmps42
  go_wp2_with fail
  refine NK.out.mono ?_
  rintro e v1 ⟨b, z1, z2, z3, z4, z5, H, rfl, x1, x2, x3, x4, x5⟩
  have yA := x4 _ _ x3
  have yB := HH.out.1.unguard HH.out.2.1 (by intro n p l q e; injection e with e1 e2 e3; exact absurd e2 (by decide)) yA
  have src := yA.block HH.out.2.1 (RO.self _ _)
  have hne : ¬ w.heap.size + 1 = b := fun e => by
    rw [e, x2] at src
    have := Option.some.inj src
    injection this with _ e2 _
    exact absurd e2 (by decide)
  have hk1 : Kept R w v1 := HH.out.2.2.2.1.trans (yA.kept.weaken (fun k _ hn hk => hn (.inl hk)))
  have SG := Lib.hid (signIt b z1 z2 z3 z4 z5 (w.heap.size + 1) rb o n c gh oh ch P Q G Y X z kh a (yB.hold x2 (by decide)) x2 (RO.self _ _) HN.out.1 HN.out.2.1 src (fun e => e.elim HH.out.2.2.1 hne) (.inl HH.out.2.2.2.2.1) (fun j hj => hk1.cell HH.out.2.2.2.2.1 (HH.out.2.2.2.2.2.1 j hj)) HH.out.2.2.2.2.2.2.1 HH.out.2.2.2.2.2.2.2 (HB.out.on hk1 (fun _ h => .inl h)) HN.out.2.2)
  have Y1 := Lib.hid yB
  clear x1 x2 x3 x4 x5 yA yB src hne hk1 NK
  unfold ptr at *
  go_wp2_with fail
  refine SG.out.mono ?_
  rintro e w2 ⟨zr, zs, r, s, k, rfl, y1, y2, y3, y4, y5, y6, y7⟩
  have hQ := HN.out.1.q16
  have hQ0 := HN.out.1.q15
  have r16 : r < 65536 := by have := Nat.mod_lt (G ^ k % P) (show 0 < Q by omega); omega
  have s16 : s < 65536 := by have := Nat.mod_lt ((X * r + z) % Q * invQ k Q) (show 0 < Q by omega); unfold sOf at y5; omega
  have D := Lib.hid (And.intro (dsa_ok HN.out.1 y1 y2 y3 y4 y5 y6) (And.intro r16 s16))
  have BR := Lib.hid (intBytesO y7.since 1 r rfl y4 r16)
  have S6 := Lib.hid y6
  have Y2 := Lib.hid (Y1.out.narrow (fun _ h => .inl h) y7)
  clear y1 y2 y3 y4 y5 y6 y7 SG hQ hQ0 r16 s16
  unfold ptr at *
  go_wp2_with fail
  refine BR.out.mono ?_
  rintro e w3 ⟨gr, pr, kr, rfl, y1, y2, y3, y4⟩
  have BS := Lib.hid (intBytesO y3 0 s rfl S6.out D.out.2.2)
  have Y3 := Lib.hid (And.intro y1 (And.intro (Y2.out.narrow (fun _ h => .inl h) y2) y4))
  clear y1 y2 y3 y4 BR
  unfold ptr at *
  go_wp2_with fail
  refine BS.out.mono ?_
  rintro e w4 ⟨gs, ps, kt, rfl, y1, y2, y3, y4⟩
  have FIN := Lib.hid (show SigP R w0 P Q G Y z (.returned (.tuple #[.slice (some ⟨gr, pr, .none⟩) kr.length kr.length, .slice (some ⟨gs, ps, .none⟩) kt.length kt.length, .bool true])) w4 from ⟨gr, pr, gs, ps, r, s, kr, kt, _, rfl, Y3.out.1, y1, Y3.out.2.1.narrow (fun _ h => .inl (.inl h)) y2, y3.narrow (fun _ h => h) y3, fun k hk => .inl (.inl (.inl hk)), Y3.out.2.2.on y2.kept (fun _ h => .inl h), y4, D.out.1, D.out.2.1, D.out.2.2⟩)
  clear y1 y2 y3 y4 BS
  go_wp2_with fail
  simp [bodyPost, results, Tryz.results42, go_sem]
  exact FIN.out
end
end Go.Proofs.YtohhkjamddojmaaGreatDoor.Big

namespace Go.Proofs.YtohhkjamddojmaaGreatDoor.Big
open Go.RowKit NumLaw
attribute [local go_sem] ptr
attribute [local irreducible] Sz

section
variable {R : Nat → Prop} {w0 w w' : World} {L L' : List (Nat × Int)}
def TrueP (R : Nat → Prop) (w0 : World) (e : Ending) (w' : World) : Prop := e = .returned (.bool true) ∧ Own R w0 w' []
set_option maxHeartbeats 16000000 in
set_option maxRecDepth 100000 in
theorem lawSign_big (h : Own R w0 w []) (A B X0 : Int) (cr : Nat) (p pr : Option Addr) (l c n c2 : Nat) (hb : 2147483647 < l ∨ 2147483647 < n) :
    Calls Tryz.prog 10 #[.agg #[.int .i64 A, .int .i64 B, .int .i64 X0, .int .u32 cr], .slice p l c, .slice pr n c2] w (TrueP R w0) := by
  have HB := Lib.hid (h.box (.cells #[.int .i64 A, .int .i64 B, .int .i64 X0, .int .u32 cr] 65))
  clear h
  by_cases hl : 2147483647 < l
  · have i1 : (2147483647 : Int) < l := by omega
    clear hb
    go_enter Tryz.func10, Tryz.ntmps10
    go_wp2_with fail
    go_ret
    exact ⟨rfl, HB.out⟩
  · have hn : 2147483647 < n := by omega
    have i1 : ¬ (2147483647 : Int) < l := by omega
    have i2 : (2147483647 : Int) < n := by omega
    clear hb
    go_enter Tryz.func10, Tryz.ntmps10
    go_wp2_with fail
    go_ret
    exact ⟨rfl, HB.out⟩
set_option maxHeartbeats 16000000 in
set_option maxRecDepth 100000 in
/-- fewer than 8 bytes, or more than 60 -/
theorem freshShort (h : Own R w0 w []) (P Q G Y X n c : Nat) (p : Option Addr) (hn : n < 8 ∨ 60 < n) :
    Calls Tryz.prog 41 #[.agg #[.int .i64 P, .int .i64 Q, .int .i64 G, .int .i64 Y, .int .i64 X], .slice p n c] w (fun e w' => e = .returned (.bool false) ∧ Own R w0 w' []) := by
  have HB := Lib.hid ((h.box (.cells #[.int .i64 P, .int .i64 Q, .int .i64 G, .int .i64 Y, .int .i64 X] 68)).box (.cells #[.slice p n c] 25))
  clear h
  by_cases hl : n < 8
  · have i1 : (n : Int) < 8 := by omega
    clear hn
    go_enter Tryz.func41, Tryz.ntmps41
    go_wp2_with fail
    go_ret
    exact ⟨rfl, HB.out⟩
  · have i1 : ¬ (n : Int) < 8 := by omega
    have i2 : (60 : Int) < n := by omega
    clear hn
    go_enter Tryz.func41, Tryz.ntmps41
    go_wp2_with fail
    go_ret
    exact ⟨rfl, HB.out⟩
set_option maxHeartbeats 16000000 in
set_option maxRecDepth 100000 in
theorem lawSign_len (h : Own R w0 w []) (A B X0 : Int) (cr : Nat) (p pr : Option Addr) (l c n c2 : Nat) (hl : l ≤ 2147483647) (hn : n ≤ 2147483647) (h2 : l ≠ 2) :
    Calls Tryz.prog 10 #[.agg #[.int .i64 A, .int .i64 B, .int .i64 X0, .int .u32 cr], .slice p l c, .slice pr n c2] w (TrueP R w0) := by
  have HC := Lib.hid (keyO (h.box (.cells #[.int .i64 A, .int .i64 B, .int .i64 X0, .int .u32 cr] 65)) A B X0 cr)
  have m0 := heap_alloc_new w (.cells #[.int .i64 A, .int .i64 B, .int .i64 X0, .int .u32 cr] 65)
  have a0 := block_cell (k := 0) m0 rfl
  have a1 := block_cell (k := 1) m0 rfl
  have a2 := block_cell (k := 2) m0 rfl
  have a3 := block_cell (k := 3) m0 rfl
  have i1 : ¬ (2147483647 : Int) < l := by omega
  have i2 : ¬ (2147483647 : Int) < n := by omega
  clear h m0
  go_enter Tryz.func10, Tryz.ntmps10
  go_wp2_with fail
  refine HC.out.mono ?_
  rintro e w1 ⟨P, Q, G, Y, X, rfl, h1, -⟩
  have H4 := Lib.hid (h1.box (.cells #[.int .i64 (P : Nat), .int .i64 (Q : Nat), .int .i64 (G : Nat), .int .i64 (Y : Nat), .int .i64 (X : Nat)] 68))
  clear h1 HC a0 a1 a2 a3
  by_cases hg : 2 < l
  · have i3 : (2 : Int) < l := by omega
    clear h2 hl hn
    go_wp2_with fail
    go_ret
    exact ⟨rfl, H4.out⟩
  · have i3 : ¬ (2 : Int) < l := by omega
    have i4 : (l : Int) < 2 := by omega
    clear h2 hl hn hg
    go_wp2_with fail
    go_ret
    exact ⟨rfl, H4.out⟩
set_option maxHeartbeats 16000000 in
set_option maxRecDepth 100000 in
theorem lawSign_short (h : Own R w0 w []) (A B X0 : Int) (cr : Nat) (p pr : Option Addr) (c n c2 : Nat) (hn : n ≤ 2147483647) (h2 : n < 8 ∨ 60 < n) :
    Calls Tryz.prog 10 #[.agg #[.int .i64 A, .int .i64 B, .int .i64 X0, .int .u32 cr], .slice p 2 c, .slice pr n c2] w (TrueP R w0) := by
  have HC := Lib.hid (keyO (h.box (.cells #[.int .i64 A, .int .i64 B, .int .i64 X0, .int .u32 cr] 65)) A B X0 cr)
  have m0 := heap_alloc_new w (.cells #[.int .i64 A, .int .i64 B, .int .i64 X0, .int .u32 cr] 65)
  have a0 := block_cell (k := 0) m0 rfl
  have a1 := block_cell (k := 1) m0 rfl
  have a2 := block_cell (k := 2) m0 rfl
  have a3 := block_cell (k := 3) m0 rfl
  have i2 : ¬ (2147483647 : Int) < n := by omega
  have H2 := Lib.hid h2
  clear h m0 h2 hn
  go_enter Tryz.func10, Tryz.ntmps10
  go_wp2_with fail
  refine HC.out.mono ?_
  rintro e w1 ⟨P, Q, G, Y, X, rfl, h1, -⟩
  have HF := Lib.hid (freshShort (h1.box (.cells #[.int .i64 (P : Nat), .int .i64 (Q : Nat), .int .i64 (G : Nat), .int .i64 (Y : Nat), .int .i64 (X : Nat)] 68)) P Q G Y X n c2 pr H2.out)
  have m1 := heap_alloc_new w1 (.cells #[.int .i64 (P : Nat), .int .i64 (Q : Nat), .int .i64 (G : Nat), .int .i64 (Y : Nat), .int .i64 (X : Nat)] 68)
  have q0 := block_cell (k := 0) m1 rfl
  have q1 := block_cell (k := 1) m1 rfl
  have q2 := block_cell (k := 2) m1 rfl
  have q3 := block_cell (k := 3) m1 rfl
  have q4 := block_cell (k := 4) m1 rfl
  clear h1 HC a0 a1 a2 a3 m1
  go_wp2_with fail
  refine HF.out.mono ?_
  rintro e w2 ⟨rfl, h5⟩
  have H5 := Lib.hid h5
  clear h5 HF q0 q1 q2 q3 q4
  go_wp2_with fail
  go_ret
  exact ⟨rfl, H5.out⟩
set_option maxHeartbeats 16000000 in
set_option maxRecDepth 100000 in
theorem lawSign_main (h : Own R w0 w []) (A B X0 : Int) (cr gd od cd d0 d1 rb o n c : Nat) (bs : Nat → Nat) (hc2 : 2 ≤ cd) (h0 : d0 < 256) (h1 : d1 < 256) (hRd : R gd) (e0 : w.cell? ⟨gd, od, .none⟩ = some (.int .u8 (d0 : Nat))) (e1 : w.cell? ⟨gd, od + 1, .none⟩ = some (.int .u8 (d1 : Nat)))
    (hRr : R rb) (hc : n ≤ c) (hb : ∀ i, bs i < 256) (hr : ∀ i, i < n → w.cell? ⟨rb, o + i, .none⟩ = some (.int .u8 (bs i : Nat))) (h8 : 8 ≤ n) (h60 : n ≤ 60) :
    Calls Tryz.prog 10 #[.agg #[.int .i64 A, .int .i64 B, .int .i64 X0, .int .u32 cr], .slice (some ⟨gd, od, .none⟩) 2 cd, .slice (some ⟨rb, o, .none⟩) n c] w (TrueP R w0) := by
  have HC := Lib.hid (keyO (h.since.box (.cells #[.int .i64 A, .int .i64 B, .int .i64 X0, .int .u32 cr] 65)) A B X0 cr)
  have m0 := heap_alloc_new w (.cells #[.int .i64 A, .int .i64 B, .int .i64 X0, .int .u32 cr] 65)
  have a0 := block_cell (k := 0) m0 rfl
  have a1 := block_cell (k := 1) m0 rfl
  have a2 := block_cell (k := 2) m0 rfl
  have a3 := block_cell (k := 3) m0 rfl
  have i2 : ¬ (2147483647 : Int) < n := by omega
  have HN := Lib.hid (And.intro hc2 (And.intro h0 (And.intro h1 (And.intro hRd (And.intro e0 (And.intro e1 (And.intro hRr (And.intro hc (And.intro hb (And.intro hr (And.intro h8 h60)))))))))))
  have H0 := Lib.hid h
  clear h m0 hc2 h0 h1 hRd e0 e1 hRr hc hb hr h8 h60
  go_enter Tryz.func10, Tryz.ntmps10
  go_wp2_with fail
  refine HC.out.mono ?_
  rintro e w1 ⟨P, Q, G, Y, X, rfl, h1, h2⟩
  have HK := Lib.hid h2
  have g4 := h1.guard (.cells #[.int .i64 (P : Nat), .int .i64 (Q : Nat), .int .i64 (G : Nat), .int .i64 (Y : Nat), .int .i64 (X : Nat)] 68)
  have b4 := h1.box (.cells #[.int .i64 (P : Nat), .int .i64 (Q : Nat), .int .i64 (G : Nat), .int .i64 (Y : Nat), .int .i64 (X : Nat)] 68)
  have n4 := heap_alloc_new w1 (.cells #[.int .i64 (P : Nat), .int .i64 (Q : Nat), .int .i64 (G : Nat), .int .i64 (Y : Nat), .int .i64 (X : Nat)] 68)
  have kp : ∀ {b o : Nat} {v : Value}, R b → w.cell? ⟨b, o, .none⟩ = some v → (w1.alloc (.cells #[.int .i64 (P : Nat), .int .i64 (Q : Nat), .int .i64 (G : Nat), .int .i64 (Y : Nat), .int .i64 (X : Nat)] 68)).cell? ⟨b, o, .none⟩ = some v := fun hR hc => b4.kept.cell hR hc
  obtain ⟨hc2, h0, h1', hRd, e0, e1, hRr, hc, hb, hr, h8, h60⟩ := HN.out
  have HB4 := Lib.hid b4
  have HF := Lib.hid (freshO g4 P Q G Y X rb o n c bs h2 (.inl hRr) hc hb (fun i hi => kp hRr (hr i hi)) h8 h60)
  have HD := Lib.hid (show BytesOf (RO R w1.heap.size) (w1.alloc (.cells #[.int .i64 (P : Nat), .int .i64 (Q : Nat), .int .i64 (G : Nat), .int .i64 (Y : Nat), .int .i64 (X : Nat)] 68)) gd od cd [d0, d1] (d0 * 256 + d1) from ⟨.inl hRd, fun i hi => by
    match i, hi with
    | 0, _ => exact kp hRd e0
    | 1, _ => exact kp hRd e1, fun i => by
      match i with
      | 0 => exact h0
      | 1 => exact h1'
      | i + 2 => simp, by simp, by simpa using hc2, by simp [bev]⟩)
  have HR4 := Lib.hid (show ∀ i, i < 4 → (w1.alloc (.cells #[.int .i64 (P : Nat), .int .i64 (Q : Nat), .int .i64 (G : Nat), .int .i64 (Y : Nat), .int .i64 (X : Nat)] 68)).cell? ⟨rb, o + i, .none⟩ = some (.int .u8 (bs i : Nat)) from fun i hi => kp hRr (hr i (by omega)))
  have KS := Lib.hid (fun w' (o : Own (RO R w1.heap.size) (w1.alloc (.cells #[.int .i64 (P : Nat), .int .i64 (Q : Nat), .int .i64 (G : Nat), .int .i64 (Y : Nat), .int .i64 (X : Nat)] 68)) w' []) => (⟨block_cell (k := 0) (o.block n4 (RO.self _ _)) rfl, block_cell (k := 1) (o.block n4 (RO.self _ _)) rfl, block_cell (k := 2) (o.block n4 (RO.self _ _)) rfl, block_cell (k := 3) (o.block n4 (RO.self _ _)) rfl, block_cell (k := 4) (o.block n4 (RO.self _ _)) rfl⟩ : w'.cell? ⟨w1.heap.size, 0, .none⟩ = some (.int .i64 (P : Nat)) ∧ w'.cell? ⟨w1.heap.size, 1, .none⟩ = some (.int .i64 (Q : Nat)) ∧ w'.cell? ⟨w1.heap.size, 2, .none⟩ = some (.int .i64 (G : Nat)) ∧ w'.cell? ⟨w1.heap.size, 3, .none⟩ = some (.int .i64 (Y : Nat)) ∧ w'.cell? ⟨w1.heap.size, 4, .none⟩ = some (.int .i64 (X : Nat))))
  obtain ⟨q0, q1, q2, q3, q4⟩ := KS.out _ g4
  have HZ := Lib.hid (show d0 * 256 + d1 < 65536 by omega)
  have HP := Lib.hid (show P < 9223372036854775808 ∧ Q < 9223372036854775808 ∧ G < 9223372036854775808 ∧ Y < 9223372036854775808 ∧ X < 9223372036854775808 by
    have k := HK.out
    have := k.p31
    have := k.q16
    have := k.gp
    have := k.xq
    have : Y < P := by rw [k.y]; exact Nat.mod_lt _ (by have := k.qp; omega)
    omega)
  clear h1 h2 g4 b4 n4 kp HC a0 a1 a2 a3 hc2 h0 h1' hRd e0 e1 hRr hc hb hr h8 h60
  go_wp2_with fail
  refine HF.out.mono ?_
  rintro e w2 ⟨t, rfl, h3, hF⟩
  have HO3 := Lib.hid h3
  have HFN := Lib.hid hF
  obtain ⟨q0, q1, q2, q3, q4⟩ := KS.out _ h3
  clear h3 hF HF
  cases t
  · go_wp2_with fail
    go_ret
    exact ⟨rfl, (H0.out.after (HB4.out.narrow (fun k hk => .inl hk) HO3.out))⟩
  · have HNU := Lib.hid (numbersO HO3.out.since P Q G Y X HP.out.1 HP.out.2.1 HP.out.2.2.1 HP.out.2.2.2.1 HP.out.2.2.2.2)
    go_wp2_with fail
    refine HNU.out.mono ?_
    rintro e w3 ⟨g1, c1, g2, c2, g3, c3, g4, c4, g5, c5, k1, k2, k3, k4, k5, H, rfl, x1, x2, x3, x4, x5, x6, x7, x8⟩
    have kd := (HO3.out.kept.trans x1.kept : Kept (RO R w1.heap.size) (w1.alloc (.cells #[.int .i64 (P : Nat), .int .i64 (Q : Nat), .int .i64 (G : Nat), .int .i64 (Y : Nat), .int .i64 (X : Nat)] 68)) w3)
    have HS := Lib.hid (signD x2 P Q G Y X (d0 * 256 + d1) g1 c1 g2 c2 g3 c3 g4 c4 g5 c5 gd od cd rb o n c k1 k2 k3 k4 k5 [d0, d1] bs HK.out (HFN.out trivial) x4 x5 x6 x7 x8 (HD.out.on kd x3) HZ.out (x3 _ (.inl HN.out.2.2.2.2.2.2.1)) (fun i hi => kd.cell (.inl HN.out.2.2.2.2.2.2.1) (HR4.out i hi)) HN.out.2.2.2.2.2.2.2.2.2.2.1 HN.out.2.2.2.2.2.2.2.1)
    have HX := Lib.hid (And.intro (HO3.out.after x1) x3)
    clear x1 x2 x3 x4 x5 x6 x7 x8 kd HNU q0 q1 q2 q3 q4
    go_wp2_with fail
    refine HS.out.mono ?_
    rintro e w4 ⟨gr, pr, gs, ps, r, s, kr, kt, H2, rfl, lr, ls, y1, y2, y3, y4, y5, y6, y7, y8⟩
    have Y0 := (HX.out.1.narrow HX.out.2 y1 : Own (RO R w1.heap.size) (w1.alloc (.cells #[.int .i64 (P : Nat), .int .i64 (Q : Nat), .int .i64 (G : Nat), .int .i64 (Y : Nat), .int .i64 (X : Nat)] 68)) w4 [])
    have IN := Lib.hid (fun k (hk : RO R w1.heap.size k) => y3 k (HX.out.2 k hk))
    have E0 := Lib.hid Y0
    have N0 := Lib.hid y2
    have HDB := Lib.hid (HD.out.on Y0.kept IN.out)
    have BR := Lib.hid (And.intro y4 y5)
    have HV := Lib.hid (And.intro y6 (And.intro y7 y8))
    have lrI : (kr.length : Int) ≤ 2 := by omega
    have lsI : (kt.length : Int) ≤ 2 := by omega
    have LL := Lib.hid (And.intro lr ls)
    obtain ⟨q0, q1, q2, q3, q4⟩ := KS.out _ Y0
    clear y1 y2 y3 y4 y5 y6 y7 y8 lr ls Y0 HS HFN
    have HRS := Lib.hid (show r < 4294967296 ∧ s < 4294967296 from ⟨by have := HV.out.2.1; omega, by have := HV.out.2.2; omega⟩)
    have NR := Lib.hid (show ∀ V : World, V.heap = w4.heap → Calls Tryz.prog 43 #[.slice (some ⟨gr, pr, .none⟩) kr.length kr.length] V (fun e w' => e = .returned (.int .i64 (r : Nat)) ∧ w' = V) from fun V hV => by
      have := numberS gr pr kr.length kr V LL.out.1 BR.out.1.lt (fun i hi => by have e := BR.out.1.cell i hi; unfold World.cell? at e ⊢; rw [hV]; exact e)
      rwa [BR.out.1.val] at this)
    have NT := Lib.hid (show ∀ V : World, V.heap = w4.heap → Calls Tryz.prog 43 #[.slice (some ⟨gs, ps, .none⟩) kt.length kt.length] V (fun e w' => e = .returned (.int .i64 (s : Nat)) ∧ w' = V) from fun V hV => by
      have := numberS gs ps kt.length kt V LL.out.2 BR.out.2.lt (fun i hi => by have e := BR.out.2.cell i hi; unfold World.cell? at e ⊢; rw [hV]; exact e)
      rwa [BR.out.2.val] at this)
    go_upto_region 7 with fail
    go_region_held3 (fun w' => w'.cell? ⟨w1.heap.size, 0, .none⟩ = some (.int .i64 (P : Nat)) ∧ w'.cell? ⟨w1.heap.size, 1, .none⟩ = some (.int .i64 (Q : Nat)) ∧ w'.cell? ⟨w1.heap.size, 2, .none⟩ = some (.int .i64 (G : Nat)) ∧ w'.cell? ⟨w1.heap.size, 3, .none⟩ = some (.int .i64 (Y : Nat)) ∧ w'.cell? ⟨w1.heap.size, 4, .none⟩ = some (.int .i64 (X : Nat))) (go_keep) (first | (go_at_call 35; refine (verI N3.out P Q G Y X (d0 * 256 + d1) r s g1 c1 g2 c2 g3 c3 g4 c4 g5 c5 gd od cd gr pr kr.length gs ps kt.length k1 k2 k3 k4 k5 [d0, d1] kr kt HK.out F3.out.1 F3.out.2.1 F3.out.2.2.1 F3.out.2.2.2.1 F3.out.2.2.2.2 (HDB.out.on K2.out.kept I3.out) (BR.out.1.on K2.out.kept I3.out) (BR.out.2.on K2.out.kept I3.out) HZ.out HRS.out.1 HRS.out.2).mono ?_; rintro e v3 ⟨he, x1⟩; rw [HV.out.1] at he; subst he; have y := E0.out.narrow IN.out (K2.out.narrow I3.out x1); obtain ⟨q0, q1, q2, q3, q4⟩ := KS.out _ y; have E3 := Lib.hid y; clear x1 y) | (go_at_call 36; refine (numbersO N1.out.since P Q G Y X HP.out.1 HP.out.2.1 HP.out.2.2.1 HP.out.2.2.2.1 HP.out.2.2.2.2).mono ?_; rintro e v2 ⟨g1, c1, g2, c2, g3, c3, g4, c4, g5, c5, k1, k2, k3, k4, k5, H3, rfl, x1, x2, x3, x4, x5, x6, x7, x8⟩; have y2 := N1.out.after x1; have y := E0.out.narrow IN.out y2; obtain ⟨q0, q1, q2, q3, q4⟩ := KS.out _ y; have K2 := Lib.hid y2; have N3 := Lib.hid x2; have I3 := Lib.hid x3; have F3 := Lib.hid (And.intro x4 (And.intro x5 (And.intro x6 (And.intro x7 x8)))); clear x1 x2 x3 x4 x5 x6 x7 x8 y y2) | (go_at_call 37; refine (verS (N0.out.drew _) P Q G Y X r s gd od cd d0 d1 HK.out HRS.out.1 HRS.out.2 HN.out.2.1 HN.out.2.2.1 HDB.out.kept (HDB.out.cell 0 (Nat.zero_lt_succ _)) (HDB.out.cell 1 (Nat.succ_lt_succ (Nat.zero_lt_succ _)))).mono ?_; rintro e v1 ⟨he, x1⟩; rw [HV.out.1] at he; subst he; have y := E0.out.narrow IN.out x1; obtain ⟨q0, q1, q2, q3, q4⟩ := KS.out _ y; have N1 := Lib.hid x1; clear x1 y) | (go_at_call_of 43 (Value.slice (some ⟨gs, ps, .none⟩) kt.length kt.length); refine (NT.out _ (by exact rfl)).mono ?_; rintro e v0 ⟨rfl, rfl⟩) | (go_at_call_of 43 (Value.slice (some ⟨gr, pr, .none⟩) kr.length kr.length); refine (NR.out _ (by exact rfl)).mono ?_; rintro e v0 ⟨rfl, rfl⟩))
    all_goals
      go_wp2_with fail
      go_ret
      exact ⟨rfl, H0.out.after (HB4.out.narrow (fun k hk => .inl hk) E3.out)⟩
end
end Go.Proofs.YtohhkjamddojmaaGreatDoor.Big
