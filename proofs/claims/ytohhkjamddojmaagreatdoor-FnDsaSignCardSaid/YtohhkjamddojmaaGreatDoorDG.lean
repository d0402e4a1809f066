/- The package's DsaVerify. The specification's Verify over a key of the law. The law of FnDsaVerify. -/
import Derived.Test.YtohhkjamddojmaaGreatDoorDE
import Derived.Lib.EndianBits
namespace Go.Proofs.YtohhkjamddojmaaGreatDoor.Big
open Go.RowKit NumLaw
attribute [local go_sem] ptr
attribute [local irreducible] Sz

section
variable {R : Nat → Prop} {w0 w w' : World} {L L' : List (Nat × Int)}
set_option maxHeartbeats 16000000 in
set_option maxRecDepth 100000 in
theorem verI (h : Own R w0 w L) (P Q G Y X z r s g1 c1 g2 c2 g3 c3 g4 c4 g5 c5 gh oh ch gr pr cr gs ps cs : Nat) (k1 k2 k3 k4 k5 kh kr kt : List Nat) (HK : KeyN P Q G Y X) (b1 : BytesAt R w g1 c1 k1 P) (b2 : BytesAt R w g2 c2 k2 Q) (b3 : BytesAt R w g3 c3 k3 G) (b4 : BytesAt R w g4 c4 k4 Y) (b5 : BytesAt R w g5 c5 k5 X)
    (bh : BytesOf R w gh oh ch kh z) (br : BytesOf R w gr pr cr kr r) (bs : BytesOf R w gs ps cs kt s) (hz : z < 65536) (hr : r < 4294967296) (hs : s < 4294967296) :
    Calls Tryz.prog 35 #[.agg #[.slice (some ⟨g1, 0, .none⟩) k1.length c1, .slice (some ⟨g2, 0, .none⟩) k2.length c2, .slice (some ⟨g3, 0, .none⟩) k3.length c3, .slice (some ⟨g4, 0, .none⟩) k4.length c4, .slice (some ⟨g5, 0, .none⟩) k5.length c5], .slice (some ⟨gh, oh, .none⟩) kh.length ch, .slice (some ⟨gr, pr, .none⟩) kr.length cr, .slice (some ⟨gs, ps, .none⟩) kt.length cs] w (fun e w' => e = .returned (.bool (verB P Q G Y z r s)) ∧ Own R w0 w' []) := by
  have g0 := h.guard (.cells #[.slice (some ⟨g1, 0, .none⟩) k1.length c1, .slice (some ⟨g2, 0, .none⟩) k2.length c2, .slice (some ⟨g3, 0, .none⟩) k3.length c3, .slice (some ⟨g4, 0, .none⟩) k4.length c4, .slice (some ⟨g5, 0, .none⟩) k5.length c5] 72)
  have n0 := heap_alloc_new w (.cells #[.slice (some ⟨g1, 0, .none⟩) k1.length c1, .slice (some ⟨g2, 0, .none⟩) k2.length c2, .slice (some ⟨g3, 0, .none⟩) k3.length c3, .slice (some ⟨g4, 0, .none⟩) k4.length c4, .slice (some ⟨g5, 0, .none⟩) k5.length c5] 72)
  have e0 := h.box (.cells #[.slice (some ⟨g1, 0, .none⟩) k1.length c1, .slice (some ⟨g2, 0, .none⟩) k2.length c2, .slice (some ⟨g3, 0, .none⟩) k3.length c3, .slice (some ⟨g4, 0, .none⟩) k4.length c4, .slice (some ⟨g5, 0, .none⟩) k5.length c5] 72)
  have hk0 : Kept R w (w.alloc (.cells #[.slice (some ⟨g1, 0, .none⟩) k1.length c1, .slice (some ⟨g2, 0, .none⟩) k2.length c2, .slice (some ⟨g3, 0, .none⟩) k3.length c3, .slice (some ⟨g4, 0, .none⟩) k4.length c4, .slice (some ⟨g5, 0, .none⟩) k5.length c5] 72)) := (h.since.box (.cells #[.slice (some ⟨g1, 0, .none⟩) k1.length c1, .slice (some ⟨g2, 0, .none⟩) k2.length c2, .slice (some ⟨g3, 0, .none⟩) k3.length c3, .slice (some ⟨g4, 0, .none⟩) k4.length c4, .slice (some ⟨g5, 0, .none⟩) k5.length c5] 72)).kept
  have HB := Lib.hid (And.intro (b1.on (G' := (RO R w.heap.size)) hk0 (fun k hk => .inl hk)) (And.intro (b2.on (G' := (RO R w.heap.size)) hk0 (fun k hk => .inl hk)) (And.intro (b3.on (G' := (RO R w.heap.size)) hk0 (fun k hk => .inl hk)) (And.intro (b4.on (G' := (RO R w.heap.size)) hk0 (fun k hk => .inl hk)) (And.intro (b5.on (G' := (RO R w.heap.size)) hk0 (fun k hk => .inl hk)) (And.intro (bh.on (G' := (RO R w.heap.size)) hk0 (fun k hk => .inl hk)) (And.intro (br.on (G' := (RO R w.heap.size)) hk0 (fun k hk => .inl hk)) (bs.on (G' := (RO R w.heap.size)) hk0 (fun k hk => .inl hk)))))))))
  have HN := Lib.hid (And.intro HK (And.intro hz (And.intro hr hs)))
  have N0 := Lib.hid g0
  have KS := Lib.hid (fun w' M (o : Own (RO R w.heap.size) (w.alloc (.cells #[.slice (some ⟨g1, 0, .none⟩) k1.length c1, .slice (some ⟨g2, 0, .none⟩) k2.length c2, .slice (some ⟨g3, 0, .none⟩) k3.length c3, .slice (some ⟨g4, 0, .none⟩) k4.length c4, .slice (some ⟨g5, 0, .none⟩) k5.length c5] 72)) w' M) => (⟨block_cell (k := 0) (o.block n0 (RO.self _ _)) rfl, block_cell (k := 1) (o.block n0 (RO.self _ _)) rfl, block_cell (k := 2) (o.block n0 (RO.self _ _)) rfl, block_cell (k := 3) (o.block n0 (RO.self _ _)) rfl, block_cell (k := 4) (o.block n0 (RO.self _ _)) rfl⟩ : w'.cell? ⟨w.heap.size, 0, .none⟩ = some (.slice (some ⟨g1, 0, .none⟩) k1.length c1) ∧ w'.cell? ⟨w.heap.size, 1, .none⟩ = some (.slice (some ⟨g2, 0, .none⟩) k2.length c2) ∧ w'.cell? ⟨w.heap.size, 2, .none⟩ = some (.slice (some ⟨g3, 0, .none⟩) k3.length c3) ∧ w'.cell? ⟨w.heap.size, 3, .none⟩ = some (.slice (some ⟨g4, 0, .none⟩) k4.length c4) ∧ w'.cell? ⟨w.heap.size, 4, .none⟩ = some (.slice (some ⟨g5, 0, .none⟩) k5.length c5)))
  have H0 := Lib.hid (And.intro e0 n0)
  clear HK b1 b2 b3 b4 b5 bh br bs hz hr hs hk0 e0 g0 h
  obtain ⟨q0, q1, q2, q3, q4⟩ := KS.out _ _ N0.out
  clear n0
  unfold ptr at *
  go_enter Tryz.func35, Tryz.ntmps35
  go_upto_region 1 with fail
  go_region_held3 (fun w' => w'.cell? ⟨w.heap.size, 0, .none⟩ = some (.slice (some ⟨g1, 0, .none⟩) k1.length c1) ∧ w'.cell? ⟨w.heap.size, 1, .none⟩ = some (.slice (some ⟨g2, 0, .none⟩) k2.length c2) ∧ w'.cell? ⟨w.heap.size, 2, .none⟩ = some (.slice (some ⟨g3, 0, .none⟩) k3.length c3) ∧ w'.cell? ⟨w.heap.size, 3, .none⟩ = some (.slice (some ⟨g4, 0, .none⟩) k4.length c4) ∧ w'.cell? ⟨w.heap.size, 4, .none⟩ = some (.slice (some ⟨g5, 0, .none⟩) k5.length c5)) (go_keep) (first | (go_at_call 83; refine (verO b z1 z2 z3 z4 z5 y2 y3 gh oh ch P Q G Y X z r s kh N3.out.since (N3.out.block X1.out.2.1 X1.out.1) X1.out.1 HN.out.1 ((HB.out.2.2.2.2.2.1.on Y1.out (fun k hk => X1.out.2.2.2 k hk)).on N3.out.kept (fun _ h => h)) HN.out.2.1 HN.out.2.2.1 HN.out.2.2.2).mono ?_; rintro e v4 ⟨rfl, a1⟩; have a2 := X1.out.2.2.1 _ _ (N3.out.after a1); obtain ⟨q0, q1, q2, q3, q4⟩ := KS.out _ _ a2; have N4 := Lib.hid a2; clear a1 a2) | (go_at_call 61; refine (greatO N2.out gs ps cs kt (X1.out.2.2.2 _ HB.out.2.2.2.2.2.2.2.kept) (fun i hi => N2.out.kept.cell (X1.out.2.2.2 _ HB.out.2.2.2.2.2.2.2.kept) (Y1.out.cell HB.out.2.2.2.2.2.2.2.kept (HB.out.2.2.2.2.2.2.2.cell i hi))) HB.out.2.2.2.2.2.2.2.lt (by have := HB.out.2.2.2.2.2.2.2.len; omega) HB.out.2.2.2.2.2.2.2.cap).mono ?_; rintro e v3 ⟨y3, rfl, a1, -⟩; rw [HB.out.2.2.2.2.2.2.2.val] at a1; obtain ⟨q0, q1, q2, q3, q4⟩ := KS.out _ _ (X1.out.2.2.1 _ _ a1); have N3 := Lib.hid (show Own H v1 v3 ((y3, (s : Int)) :: (y2, (r : Int)) :: (z4, (Y : Int)) :: (z3, (G : Int)) :: (z2, (Q : Int)) :: (z1, (P : Int)) :: (z5, (X : Int)) :: L) from a1); clear a1) | (go_at_call 61; refine (greatO N1.out gr pr cr kr (X1.out.2.2.2 _ HB.out.2.2.2.2.2.2.1.kept) (fun i hi => N1.out.kept.cell (X1.out.2.2.2 _ HB.out.2.2.2.2.2.2.1.kept) (Y1.out.cell HB.out.2.2.2.2.2.2.1.kept (HB.out.2.2.2.2.2.2.1.cell i hi))) HB.out.2.2.2.2.2.2.1.lt (by have := HB.out.2.2.2.2.2.2.1.len; omega) HB.out.2.2.2.2.2.2.1.cap).mono ?_; rintro e v2 ⟨y2, rfl, a1, -⟩; rw [HB.out.2.2.2.2.2.2.1.val] at a1; obtain ⟨q0, q1, q2, q3, q4⟩ := KS.out _ _ (X1.out.2.2.1 _ _ a1); have N2 := Lib.hid (show Own H v1 v2 ((y2, (r : Int)) :: (z4, (Y : Int)) :: (z3, (G : Int)) :: (z2, (Q : Int)) :: (z1, (P : Int)) :: (z5, (X : Int)) :: L) from a1); clear a1) | (go_at_call 84; refine (numsKey (N0.out.drew _) P Q G Y X g1 c1 g2 c2 g3 c3 g4 c4 g5 c5 k1 k2 k3 k4 k5 (HB.out.1.on (Kept.drew _ _ _) (fun _ h => h)) (HB.out.2.1.on (Kept.drew _ _ _) (fun _ h => h)) (HB.out.2.2.1.on (Kept.drew _ _ _) (fun _ h => h)) (HB.out.2.2.2.1.on (Kept.drew _ _ _) (fun _ h => h)) (HB.out.2.2.2.2.1.on (Kept.drew _ _ _) (fun _ h => h))).mono ?_; rintro e v1 ⟨b, z1, z2, z3, z4, z5, H, rfl, a1, a2, a3, a4, a5⟩; obtain ⟨q0, q1, q2, q3, q4⟩ := KS.out _ _ (a4 _ _ a3); have hk1 := (a4 _ _ a3).kept; have N1 := Lib.hid a3; have X1 := Lib.hid (And.intro a1 (And.intro a2 (And.intro a4 a5))); have Y1 := Lib.hid hk1; clear a1 a2 a3 a4 a5 hk1))
  all_goals
    go_wp2_with fail
    go_ret
    exact ⟨rfl, (H0.out.1.narrow (fun _ h => h) (H0.out.1.since.unguard H0.out.2 (by intro n p l q e; injection e with e1 e2 e3; exact absurd e2 (by decide)) N4.out))⟩
end
end Go.Proofs.YtohhkjamddojmaaGreatDoor.Big

namespace Go.Proofs.YtohhkjamddojmaaGreatDoor.Big
open Go.RowKit NumLaw
attribute [local go_sem] ptr

theorem quietD {f : FuncId} {args : Array Value} {v : Value} (h : ∀ w, Calls Tryz.prog f args w (fun e w' => e = .returned v ∧ w' = w)) (W : World) (n : Nat) : Calls Tryz.prog f args (W.drewN n) (fun e w'' => e = .returned v ∧ ∃ m, w'' = W.drewN m) := (h _).mono (fun _ _ ⟨he, hw⟩ => ⟨he, n, hw⟩)
theorem quietE {f : FuncId} {args : Array Value} {v : Value} (h : ∀ w, Calls Tryz.prog f args w (fun e w' => e = .returned v ∧ w' = w)) (W : World) (k n : Nat) : Calls Tryz.prog f args (W.drewN (k + n)) (fun e w'' => e = .returned v ∧ ∃ m, w'' = W.drewN (k + m)) := (h _).mono (fun _ _ ⟨he, hw⟩ => ⟨he, n, hw⟩)
theorem wraps_i64 (n : Int) (h0 : 0 ≤ n) (h1 : n < 2 ^ 63) : IntKind.i64.wrap n = n := by
  simp [IntKind.wrap, IntKind.bits, IntKind.signed]; omega
theorem wrapD {n : Int} (h : 0 ≤ n ∧ n < 9223372036854775808) : wrap64 n = n := by unfold wrap64; omega
theorem i64_or (x y : Nat) (hx : x < 256) (hy : y < 256) : bits .or .i64 ((x : Int) * 256) y = ((x * 256 + y : Nat) : Int) := by
  have e1 : ((x : Int) * 256) % 2 ^ 8 = 0 := by omega
  have e2 : (x : Int) * 256 < 2 ^ 63 := Int.lt_of_lt_of_le (b := 65536) (by omega) (by decide)
  have e3 : (y : Int) < 2 ^ 8 := by omega
  have e4 : (y : Int) < 2 ^ 63 := Int.lt_of_lt_of_le (b := 256) (by omega) (by decide)
  rw [bits_join .i64 63 (by decide) wraps_i64 8 ((x : Int) * 256) y (by omega) e1 e2 (by omega) e3 e4]
  omega
theorem i64_or0 (y : Nat) (hy : y < 256) : bits .or .i64 0 y = (y : Int) := by
  have := i64_or 0 y (by decide) hy
  simpa using this
set_option maxHeartbeats 4000000 in
set_option maxRecDepth 100000 in
theorem leftmostS (g o c d0 d1 : Nat) (w : World) (h0 : d0 < 256) (h1 : d1 < 256)
    (c0 : w.cell? ⟨g, o, .none⟩ = some (.int .u8 d0)) (c1 : w.cell? ⟨g, o + 1, .none⟩ = some (.int .u8 d1)) :
    Calls Tryz.prog 86 #[.slice (some ⟨g, o, .none⟩) 2 c] w (fun e w' => e = .returned (.int .i64 (d0 * 256 + d1 : Nat)) ∧ w' = w) := by
  obtain ⟨v, hv⟩ : ∃ v : Nat, v = d0 * 256 + d1 := ⟨_, rfl⟩
  rw [← hv]
  have HV := Lib.hid hv
  clear hv
  go_enter Tryz.func86, Tryz.ntmps86
  go_wp2_with fail
  go_loop [3, 4] (fun a b => (a = .int .i64 0 ∧ b = .int .i64 0) ∨ (a = .int .i64 d0 ∧ b = .int .i64 1) ∨ (a = .int .i64 v ∧ b = .int .i64 2)) (fun _ b => (2 - intOf b).toNat)
  case atStart => exact .inl ⟨rfl, rfl⟩
  case round =>
    rcases hrel with ⟨rfl, rfl⟩ | ⟨rfl, rfl⟩ | ⟨rfl, rfl⟩
    · go_wp2_with fail
      rw [i64_or0 d0 h0]
      exact ⟨.inr (.inl ⟨rfl, rfl⟩), by decide⟩
    · go_wp2_with fail
      rw [i64_or d0 d1 h0 h1, ← HV.out]
      exact ⟨.inr (.inr ⟨rfl, rfl⟩), by decide⟩
    · go_wp2_with fail
      go_ret
      exact ⟨rfl, rfl⟩
section
variable {R : Nat → Prop} {w0 w w' : World} {L L' : List (Nat × Int)}
set_option maxHeartbeats 16000000 in
set_option maxRecDepth 100000 in
theorem verS (h : Own R w0 w []) (P Q G Y X r s g o c d0 d1 : Nat) (HK : KeyN P Q G Y X) (hr : r < 4294967296) (hs : s < 4294967296) (h0 : d0 < 256) (h1 : d1 < 256) (hRg : R g)
    (c0 : w.cell? ⟨g, o, .none⟩ = some (.int .u8 d0)) (c1 : w.cell? ⟨g, o + 1, .none⟩ = some (.int .u8 d1)) :
    Calls Tryz.prog 37 #[.agg #[.int .i64 P, .int .i64 Q, .int .i64 G, .int .i64 Y, .int .i64 X], .slice (some ⟨g, o, .none⟩) 2 c, .int .i64 r, .int .i64 s] w (fun e w' => e = .returned (.bool (verB P Q G Y (d0 * 256 + d1) r s)) ∧ Own R w0 w' []) := by
  have b0 := h.box (.cells #[.int .i64 P, .int .i64 Q, .int .i64 G, .int .i64 Y, .int .i64 X] 68)
  have n0 := heap_alloc_new w (.cells #[.int .i64 P, .int .i64 Q, .int .i64 G, .int .i64 Y, .int .i64 X] 68)
  have hk := (h.since.box (.cells #[.int .i64 P, .int .i64 Q, .int .i64 G, .int .i64 Y, .int .i64 X] 68)).kept
  have x0 := hk.cell hRg c0
  have x1 := hk.cell hRg c1
  have p0 := block_cell (k := 0) n0 rfl
  have p1 := block_cell (k := 1) n0 rfl
  have p2 := block_cell (k := 2) n0 rfl
  have p3 := block_cell (k := 3) n0 rfl
  have HO := Lib.hid b0
  clear b0 n0 hk c0 c1 h
  have N := Lib.hid HK
  clear HK
  rcases Nat.lt_or_ge r 1 with r1 | r1
  · have hd : verB P Q G Y (d0 * 256 + d1) r s = false := decide_eq_false (fun h => by omega)
    rw [hd]
    obtain rfl : r = 0 := by omega
    clear hd r1 hr hs
    go_enter Tryz.func37, Tryz.ntmps37
    go_wp2_with fail
    go_ret
    exact ⟨rfl, HO.out⟩
  rcases Nat.lt_or_ge r Q with rq | rq
  case inr =>
    have hd : verB P Q G Y (d0 * 256 + d1) r s = false := decide_eq_false (fun h => by omega)
    rw [hd]
    clear hd hr hs
    go_enter Tryz.func37, Tryz.ntmps37
    go_wp2_with fail
    go_ret
    exact ⟨rfl, HO.out⟩
  rcases Nat.lt_or_ge s 1 with s1 | s1
  · have hd : verB P Q G Y (d0 * 256 + d1) r s = false := decide_eq_false (fun h => by omega)
    rw [hd]
    obtain rfl : s = 0 := by omega
    clear hd s1 hr hs
    go_enter Tryz.func37, Tryz.ntmps37
    go_wp2_with fail
    go_ret
    exact ⟨rfl, HO.out⟩
  rcases Nat.lt_or_ge s Q with sq | sq
  case inr =>
    have hd : verB P Q G Y (d0 * 256 + d1) r s = false := decide_eq_false (fun h => by omega)
    rw [hd]
    clear hd hr hs
    go_enter Tryz.func37, Tryz.ntmps37
    go_wp2_with fail
    go_ret
    exact ⟨rfl, HO.out⟩
  have VN := VerN.of (z := d0 * 256 + d1) N.out (by omega) r1 rq s1 sq
  obtain ⟨d, hd⟩ : ∃ d, d = verB P Q G Y (d0 * 256 + d1) r s := ⟨_, rfl⟩
  rw [← hd]
  obtain ⟨z, hz⟩ : ∃ z : Nat, z = d0 * 256 + d1 := ⟨_, rfl⟩
  have HL := Lib.hid (show ∀ n, Calls Tryz.prog 86 #[.slice (some ⟨g, o, .none⟩) 2 c] ((w.alloc (.cells #[.int .i64 P, .int .i64 Q, .int .i64 G, .int .i64 Y, .int .i64 X] 68)).drewN n) (fun e w'' => e = .returned (.int .i64 ((d0 * 256 + d1 : Nat) : Int)) ∧ ∃ m, w'' = (w.alloc (.cells #[.int .i64 P, .int .i64 Q, .int .i64 G, .int .i64 Y, .int .i64 X] 68)).drewN m) from fun n => (leftmostS g o c d0 d1 ((w.alloc (.cells #[.int .i64 P, .int .i64 Q, .int .i64 G, .int .i64 Y, .int .i64 X] 68)).drewN n) h0 h1 ((Kept.drew R _ n).cell hRg x0) ((Kept.drew R _ n).cell hRg x1)).mono (fun _ _ ⟨he, hw⟩ => ⟨he, n, hw⟩))
  rw [← hz] at VN hd HL
  have hz16 : z < 65536 := by omega
  have hp31 := N.out.p31
  have hQP := N.out.qp
  have hQ16 := N.out.q16
  have hQ0 : 0 < Q := VN.q0
  have hP0 : 0 < P := VN.p0
  obtain ⟨iv, hiv⟩ : ∃ iv, iv = invQ s Q := ⟨_, rfl⟩
  have ivQ : iv < Q := by rw [hiv]; exact invQ_lt N.out.q
  have HI := Lib.hid (show ∀ w, Calls Tryz.prog 85 #[.int .i64 s, .int .i64 Q] w (fun e w' => e = .returned (.int .i64 (iv : Int)) ∧ w' = w) from fun w => by
    have := invI (s : Int) Q w N.out.q.1 (by omega)
    rwa [show ((s : Int) % (Q : Int)).toNat = s by rw [← Int.natCast_emod, Int.toNat_natCast, Nat.mod_eq_of_lt sq], show s ^ (Q - 2) % Q = iv from hiv.symm] at this)
  obtain ⟨zi, hzi⟩ : ∃ zi, zi = z * iv := ⟨_, rfl⟩
  obtain ⟨ri, hri⟩ : ∃ ri, ri = r * iv := ⟨_, rfl⟩
  have zil : zi ≤ 65536 * 65536 := by rw [hzi]; exact Nat.mul_le_mul (by omega) (by omega)
  have ril : ri ≤ 65536 * 65536 := by rw [hri]; exact Nat.mul_le_mul (by omega) (by omega)
  have m1 : IntKind.i64.wrap ((z : Int) * iv) = (zi : Int) := by rw [← Int.natCast_mul, ← hzi]; exact wraps_i64 _ (by omega) (Int.lt_of_le_of_lt (b := 4294967296) (by omega) (by decide))
  have m1' : wrap64 ((z : Int) * iv) = (zi : Int) := by rw [← Int.natCast_mul, ← hzi]; exact wrapD (by omega)
  obtain ⟨u, hu⟩ : ∃ u, u = zi % Q := ⟨_, rfl⟩
  obtain ⟨t, ht⟩ : ∃ t, t = ri % Q := ⟨_, rfl⟩
  have uQ : u < Q := by rw [hu]; exact Nat.mod_lt _ hQ0
  have tQ : t < Q := by rw [ht]; exact Nat.mod_lt _ hQ0
  have HM := Lib.hid (show ∀ w, Calls Tryz.prog 79 #[.int .i64 (zi : Int), .int .i64 Q] w (fun e w' => e = .returned (.int .i64 (u : Int)) ∧ w' = w) from fun w => by
    have := modI (zi : Int) Q w hQ0 (by omega)
    rwa [← Int.natCast_emod, ← hu] at this)
  have m2 : IntKind.i64.wrap ((r : Int) * iv) = (ri : Int) := by rw [← Int.natCast_mul, ← hri]; exact wraps_i64 _ (by omega) (Int.lt_of_le_of_lt (b := 4294967296) (by omega) (by decide))
  have m2' : wrap64 ((r : Int) * iv) = (ri : Int) := by rw [← Int.natCast_mul, ← hri]; exact wrapD (by omega)
  have m3 : (ri : Int).tmod (Q : Int) = (t : Int) := by rw [ht]; rfl
  obtain ⟨a, ha⟩ : ∃ a, a = G ^ u % P := ⟨_, rfl⟩
  obtain ⟨bb, hbb⟩ : ∃ bb, bb = Y ^ t % P := ⟨_, rfl⟩
  have aP : a < P := by rw [ha]; exact Nat.mod_lt _ hP0
  have bP : bb < P := by rw [hbb]; exact Nat.mod_lt _ hP0
  have hYP : Y < P := by rw [N.out.y]; exact Nat.mod_lt _ hP0
  have HG := Lib.hid (show ∀ w, Calls Tryz.prog 32 #[.int .i64 G, .int .i64 (u : Int), .int .i64 P] w (fun e w' => e = .returned (.int .i64 (a : Int)) ∧ w' = w) from fun w => by
    have := powI (G : Int) u P w hP0 (by omega) (by omega)
    rwa [show ((G : Int) % (P : Int)).toNat = G by rw [← Int.natCast_emod, Int.toNat_natCast, Nat.mod_eq_of_lt N.out.gp], ← ha] at this)
  have HY := Lib.hid (show ∀ w, Calls Tryz.prog 32 #[.int .i64 Y, .int .i64 (t : Int), .int .i64 P] w (fun e w' => e = .returned (.int .i64 (bb : Int)) ∧ w' = w) from fun w => by
    have := powI (Y : Int) t P w hP0 (by omega) (by omega)
    rwa [show ((Y : Int) % (P : Int)).toNat = Y by rw [← Int.natCast_emod, Int.toNat_natCast, Nat.mod_eq_of_lt hYP], ← hbb] at this)
  obtain ⟨ab, hab⟩ : ∃ ab, ab = a * bb := ⟨_, rfl⟩
  have abl : ab ≤ 2147483648 * 2147483648 := by rw [hab]; exact Nat.mul_le_mul (by omega) (by omega)
  have m4 : IntKind.i64.wrap ((a : Int) * bb) = (ab : Int) := by rw [← Int.natCast_mul, ← hab]; exact wraps_i64 _ (by omega) (Int.lt_of_le_of_lt (b := 4611686018427387904) (by omega) (by decide))
  have m4' : wrap64 ((a : Int) * bb) = (ab : Int) := by rw [← Int.natCast_mul, ← hab]; exact wrapD (by omega)
  obtain ⟨abp, habp⟩ : ∃ abp, abp = ab % P := ⟨_, rfl⟩
  have m5 : (ab : Int).tmod (P : Int) = (abp : Int) := by rw [habp]; rfl
  obtain ⟨v, hv⟩ : ∃ v, v = abp % Q := ⟨_, rfl⟩
  have m6 : (abp : Int).tmod (Q : Int) = (v : Int) := by rw [hv]; rfl
  have hb : ((v : Int) == (r : Int)) = d := by
    rw [hd]
    unfold verB
    rw [← hiv, ← hzi, ← hri, ← hu, ← ht, ← ha, ← hbb, ← hab, ← habp, ← hv]
    rw [show ((v : Int) == (r : Int)) = decide ((v : Int) = (r : Int)) from rfl]
    exact decide_eq_decide.2 ⟨fun h => ⟨r1, rq, s1, sq, Int.ofNat_inj.1 h⟩, fun h => by rw [h.2.2.2.2]⟩
  have pz : ¬ P = 0 := by omega
  have qz : ¬ Q = 0 := by omega
  have hrl : ¬ (r : Int) < 1 := by omega
  have hsl : ¬ (s : Int) < 1 := by omega
  have hrq : ¬ (Q : Int) ≤ (r : Int) := by omega
  have hsq : ¬ (Q : Int) ≤ (s : Int) := by omega
  clear hd hz hz16 hp31 hQP hQ16 hQ0 hP0 hiv ivQ hzi hri zil ril hu ht uQ tQ ha hbb aP bP hYP hab abl habp hv VN r1 rq s1 sq hr hs h0 h1 x0 x1
  go_enter Tryz.func37, Tryz.ntmps37
  go_wp2_with fail
  refine (HI.out _).mono ?_
  rintro en wq ⟨rfl, rfl⟩
  clear HI
  go_upto_region 4 with fail
  refine wp_region_quiet_lit (by kernel_rfl) (by kernel_rfl) ?_
  iterate 1 (quiet_step (fail))
  quiet_step ((go_at_call 86; exact HL.out _))
  iterate 4 (quiet_step (fail))
  quiet_step ((go_at_call 79; exact quietD HM.out _ _))
  repeat (quiet_step (fail))
  refine wpQuiet_nil ?_
  intro _ hw'
  obtain ⟨nq, hw''⟩ := hw'
  subst hw''
  clear HL HM
  go_upto_region 5 with fail
  refine wp_region_quiet_lit (by kernel_rfl) (by kernel_rfl) ?_
  iterate 5 (quiet_step (fail))
  quiet_step ((go_at_call 32; exact quietE HG.out _ _ _))
  iterate 5 (quiet_step (fail))
  quiet_step ((go_at_call 32; exact quietE HY.out _ _ _))
  repeat (quiet_step (fail))
  refine wpQuiet_nil ?_
  intro _ hw'
  obtain ⟨nq2, hw''⟩ := hw'
  subst hw''
  go_wp2_with fail
  go_ret
  exact ⟨rfl, (HO.out.drew nq).drew nq2⟩
end
end Go.Proofs.YtohhkjamddojmaaGreatDoor.Big

namespace Go.Proofs.YtohhkjamddojmaaGreatDoor.Big
open Go.RowKit NumLaw
attribute [local go_sem] ptr

section
variable {R : Nat → Prop} {w0 w w' : World} {L L' : List (Nat × Int)}
set_option maxHeartbeats 4000000 in
set_option maxRecDepth 100000 in
theorem keyO (h : Own R w0 w []) (A B X cr : Int) : Calls Tryz.prog 34 #[.agg #[.int .i64 A, .int .i64 B, .int .i64 X, .int .u32 cr]] w (KeyP R w0) := by
  have b0 := h.box (.cells #[.int .i64 A, .int .i64 B, .int .i64 X, .int .u32 cr] 65)
  have m0 := heap_alloc_new w (.cells #[.int .i64 A, .int .i64 B, .int .i64 X, .int .u32 cr] 65)
  have s1 : (w.alloc (.cells #[.int .i64 A, .int .i64 B, .int .i64 X, .int .u32 cr] 65)).heap.size = w.heap.size + 1 := Array.size_push _
  have g1 := b0.guard (.cells #[.int .i64 0, .int .i64 0, .int .i64 0, .int .i64 0, .int .i64 0] 68)
  have n1 := heap_alloc_new (w.alloc (.cells #[.int .i64 A, .int .i64 B, .int .i64 X, .int .u32 cr] 65)) (.cells #[.int .i64 0, .int .i64 0, .int .i64 0, .int .i64 0, .int .i64 0] 68)
  have b1 := b0.box (.cells #[.int .i64 0, .int .i64 0, .int .i64 0, .int .i64 0, .int .i64 0] 68)
  have m1 := (grown_alloc (w.alloc (.cells #[.int .i64 A, .int .i64 B, .int .i64 X, .int .u32 cr] 65)) (.cells #[.int .i64 0, .int .i64 0, .int .i64 0, .int .i64 0, .int .i64 0] 68) .none).block w.heap.size (by omega) (by simp) |>.trans m0
  rw [s1] at g1 n1
  have a0 := block_cell (k := 0) m1 rfl
  have a1 := block_cell (k := 1) m1 rfl
  have a2 := block_cell (k := 2) m1 rfl
  have HC := Lib.hid (newDsa g1 A B X)
  have HG := Lib.hid (And.intro b1 n1)
  have HR := Lib.hid (show ∀ k, R k → k < w.heap.size from fun k hk => h.old hk)
  clear h b0 m0 s1 g1 n1 b1 m1
  go_enter Tryz.func34, Tryz.ntmps34
  go_wp2_with fail
  refine HC.out.mono ?_
  rintro e w1 ⟨P, Q, G, Y, X', rfl, h1, h2⟩
  have z := h1.block HG.out.2 (RO.self _ _)
  have z0 := block_cell (k := 0) z rfl
  have y0 := block_free (o := 0) z
  have z1 := block_cell (k := 1) z rfl
  have y1 := block_free (o := 1) z
  have z2 := block_cell (k := 2) z rfl
  have y2 := block_free (o := 2) z
  have z3 := block_cell (k := 3) z rfl
  have y3 := block_free (o := 3) z
  have z4 := block_cell (k := 4) z rfl
  have y4 := block_free (o := 4) z
  have H1 := Lib.hid (And.intro h1 (And.intro h2 z))
  clear h1 h2 z HC
  go_wp2_with fail
  have hO := HG.out.1.narrow (fun k hk => .inl hk) H1.out.1
  have hF0 := setc (setc (setc (setc (setc H1.out.2.2 0 (.int .i64 (P : Nat))) 1 (.int .i64 (Q : Nat))) 2 (.int .i64 (G : Nat))) 3 (.int .i64 (Y : Nat))) 4 (.int .i64 (X' : Nat))
  have hg5 : w1.grownBy (((((w1.setCell ⟨w.heap.size + 1, 0, .none⟩ (.int .i64 (P : Nat))).setCell ⟨w.heap.size + 1, 1, .none⟩ (.int .i64 (Q : Nat))).setCell ⟨w.heap.size + 1, 2, .none⟩ (.int .i64 (G : Nat))).setCell ⟨w.heap.size + 1, 3, .none⟩ (.int .i64 (Y : Nat))).setCell ⟨w.heap.size + 1, 4, .none⟩ (.int .i64 (X' : Nat))) (some (w.heap.size + 1)) :=
    grown_trans (grown_set w1 (w.heap.size + 1) 0 _) (grown_trans (grown_set _ (w.heap.size + 1) 1 _) (grown_trans (grown_set _ (w.heap.size + 1) 2 _) (grown_trans (grown_set _ (w.heap.size + 1) 3 _) (grown_set _ (w.heap.size + 1) 4 _))))
  have hT := hO.turned ((Grow.of hg5).weaken (fun k _ e hk => by have := HR.out k hk; have := Option.some.inj e; omega))
  obtain ⟨Fw, hFw⟩ : ∃ Fw, Fw = (((((w1.setCell ⟨w.heap.size + 1, 0, .none⟩ (.int .i64 (P : Nat))).setCell ⟨w.heap.size + 1, 1, .none⟩ (.int .i64 (Q : Nat))).setCell ⟨w.heap.size + 1, 2, .none⟩ (.int .i64 (G : Nat))).setCell ⟨w.heap.size + 1, 3, .none⟩ (.int .i64 (Y : Nat))).setCell ⟨w.heap.size + 1, 4, .none⟩ (.int .i64 (X' : Nat))) := ⟨_, rfl⟩
  rw [← hFw] at hF0 hT ⊢
  have g0 := block_cell (k := 0) hF0 rfl
  have g1 := block_cell (k := 1) hF0 rfl
  have g2 := block_cell (k := 2) hF0 rfl
  have g3 := block_cell (k := 3) hF0 rfl
  have g4 := block_cell (k := 4) hF0 rfl
  have HT := Lib.hid hT
  clear hO hF0 hg5 hT hFw
  simp [bodyPost, results, Tryz.results34, go_sem, g0, g1, g2, g3, g4]
  exact ⟨P, Q, G, Y, X', rfl, HT.out, H1.out.2.1⟩
end
end Go.Proofs.YtohhkjamddojmaaGreatDoor.Big
