/- The constants of the curves as great numbers of the specification. OnBig of the specification, where it holds; a base point's multiples are on their curve by it. The law FnNamedAdd. -/
import Derived.Test.YtohhkjamddojmaaGreatDoorBN
import Derived.Test.YtohhkjamddojmaaGreatDoorBT
import Derived.Test.YtohhkjamddojmaaGreatDoorQV
set_option maxHeartbeats 16000000
namespace Go.Proofs.YtohhkjamddojmaaGreatDoor.Bit
open Go.RowKit
open Big EcLaw
abbrev fs1 : Array MapEntry := #[{ key := .int .i64 160, val := .int .i64 7, born := 0 }]
abbrev fs2 : Array MapEntry := #[{ key := .int .i64 160, val := .int .i64 7, born := 0 }, { key := .int .i64 192, val := .int .i64 3, born := 1 }]
abbrev fs3 : Array MapEntry := #[{ key := .int .i64 160, val := .int .i64 7, born := 0 }, { key := .int .i64 192, val := .int .i64 3, born := 1 }, { key := .int .i64 224, val := .int .i64 5, born := 2 }]
abbrev fs4 : Array MapEntry := #[{ key := .int .i64 160, val := .int .i64 7, born := 0 }, { key := .int .i64 192, val := .int .i64 3, born := 1 }, { key := .int .i64 224, val := .int .i64 5, born := 2 }, { key := .int .i64 256, val := .int .i64 7, born := 3 }]
theorem set0 (w : World) : (Instr.mapUpdate 118 (.map (some w.heap.size)) (.int .i64 160) (.int .i64 7)).run Tryz.prog (w.alloc (.map #[] 0)) = .ok () (w.alloc (.map fs1 1)) := map_put w #[] 0 160 (.int .i64 7) rfl
theorem set1 (w : World) : (Instr.mapUpdate 118 (.map (some w.heap.size)) (.int .i64 192) (.int .i64 3)).run Tryz.prog (w.alloc (.map fs1 1)) = .ok () (w.alloc (.map fs2 2)) := map_put w fs1 1 192 (.int .i64 3) rfl
theorem set2 (w : World) : (Instr.mapUpdate 118 (.map (some w.heap.size)) (.int .i64 224) (.int .i64 5)).run Tryz.prog (w.alloc (.map fs2 2)) = .ok () (w.alloc (.map fs3 3)) := map_put w fs2 2 224 (.int .i64 5) rfl
theorem set3 (w : World) : (Instr.mapUpdate 118 (.map (some w.heap.size)) (.int .i64 256) (.int .i64 7)).run Tryz.prog (w.alloc (.map fs3 3)) = .ok () (w.alloc (.map fs4 4)) := map_put w fs3 3 256 (.int .i64 7) rfl
theorem see160 (w : World) : (Instr.lookup 118 (.map (some w.heap.size)) (.int .i64 160) false).run Tryz.prog (w.alloc (.map fs4 4)) = .ok (.int .i64 7) (w.alloc (.map fs4 4)) := map_look w fs4 4 160 0 (.int .i64 7) rfl
set_option maxRecDepth 100000 in
theorem const160O (w : World) : Calls Tryz.prog 24 #[.int .i64 160] w (BigP nums160.b w) := by
 have hmm := @run_makeMap_plain Tryz.prog
 have p0 := set0 w
 have p1 := set1 w
 have p2 := set2 w
 have p3 := set3 w
 have p4 := see160 w
 have b3 : bd nums160.b = [7] := by decide +kernel
 have s1 : (w.alloc (.map fs4 4)).heap.size = w.heap.size + 1 := Array.size_push _
 have HF := Lz (show BigP nums160.b w (.returned (.slice (some ⟨w.heap.size + 1, 0, .none⟩) 1 1)) ((w.alloc (.map fs4 4)).alloc (.cells #[.int .i64 7] 3)) from ⟨_, _, by rw [b3]; rfl, by rw [b3, ← s1]; exact row_block (xs := [7]) (by decide) (heap_alloc_new _ _), (zzx _ _ _).trans (zzx _ _ _)⟩)
 simp only [fs1, fs2, fs3, fs4] at *
 clear b3 s1
 go_enter Tryz.func24, Tryz.ntmps24
 go_wp2_with fail
 go_ret
 exact HF.out
theorem see192 (w : World) : (Instr.lookup 118 (.map (some w.heap.size)) (.int .i64 192) false).run Tryz.prog (w.alloc (.map fs4 4)) = .ok (.int .i64 3) (w.alloc (.map fs4 4)) := map_look w fs4 4 192 1 (.int .i64 3) rfl
set_option maxRecDepth 100000 in
theorem const192O (w : World) : Calls Tryz.prog 24 #[.int .i64 192] w (BigP nums192.b w) := by
 have hmm := @run_makeMap_plain Tryz.prog
 have p0 := set0 w
 have p1 := set1 w
 have p2 := set2 w
 have p3 := set3 w
 have p4 := see192 w
 have b3 : bd nums192.b = [3] := by decide +kernel
 have s1 : (w.alloc (.map fs4 4)).heap.size = w.heap.size + 1 := Array.size_push _
 have HF := Lz (show BigP nums192.b w (.returned (.slice (some ⟨w.heap.size + 1, 0, .none⟩) 1 1)) ((w.alloc (.map fs4 4)).alloc (.cells #[.int .i64 3] 3)) from ⟨_, _, by rw [b3]; rfl, by rw [b3, ← s1]; exact row_block (xs := [3]) (by decide) (heap_alloc_new _ _), (zzx _ _ _).trans (zzx _ _ _)⟩)
 simp only [fs1, fs2, fs3, fs4] at *
 clear b3 s1
 go_enter Tryz.func24, Tryz.ntmps24
 go_wp2_with fail
 go_ret
 exact HF.out
theorem see224 (w : World) : (Instr.lookup 118 (.map (some w.heap.size)) (.int .i64 224) false).run Tryz.prog (w.alloc (.map fs4 4)) = .ok (.int .i64 5) (w.alloc (.map fs4 4)) := map_look w fs4 4 224 2 (.int .i64 5) rfl
set_option maxRecDepth 100000 in
theorem const224O (w : World) : Calls Tryz.prog 24 #[.int .i64 224] w (BigP nums224.b w) := by
 have hmm := @run_makeMap_plain Tryz.prog
 have p0 := set0 w
 have p1 := set1 w
 have p2 := set2 w
 have p3 := set3 w
 have p4 := see224 w
 have b3 : bd nums224.b = [5] := by decide +kernel
 have s1 : (w.alloc (.map fs4 4)).heap.size = w.heap.size + 1 := Array.size_push _
 have HF := Lz (show BigP nums224.b w (.returned (.slice (some ⟨w.heap.size + 1, 0, .none⟩) 1 1)) ((w.alloc (.map fs4 4)).alloc (.cells #[.int .i64 5] 3)) from ⟨_, _, by rw [b3]; rfl, by rw [b3, ← s1]; exact row_block (xs := [5]) (by decide) (heap_alloc_new _ _), (zzx _ _ _).trans (zzx _ _ _)⟩)
 simp only [fs1, fs2, fs3, fs4] at *
 clear b3 s1
 go_enter Tryz.func24, Tryz.ntmps24
 go_wp2_with fail
 go_ret
 exact HF.out
theorem see256 (w : World) : (Instr.lookup 118 (.map (some w.heap.size)) (.int .i64 256) false).run Tryz.prog (w.alloc (.map fs4 4)) = .ok (.int .i64 7) (w.alloc (.map fs4 4)) := map_look w fs4 4 256 3 (.int .i64 7) rfl
set_option maxRecDepth 100000 in
theorem const256O (w : World) : Calls Tryz.prog 24 #[.int .i64 256] w (BigP nums256.b w) := by
 have hmm := @run_makeMap_plain Tryz.prog
 have p0 := set0 w
 have p1 := set1 w
 have p2 := set2 w
 have p3 := set3 w
 have p4 := see256 w
 have b3 : bd nums256.b = [7] := by decide +kernel
 have s1 : (w.alloc (.map fs4 4)).heap.size = w.heap.size + 1 := Array.size_push _
 have HF := Lz (show BigP nums256.b w (.returned (.slice (some ⟨w.heap.size + 1, 0, .none⟩) 1 1)) ((w.alloc (.map fs4 4)).alloc (.cells #[.int .i64 7] 3)) from ⟨_, _, by rw [b3]; rfl, by rw [b3, ← s1]; exact row_block (xs := [7]) (by decide) (heap_alloc_new _ _), (zzx _ _ _).trans (zzx _ _ _)⟩)
 simp only [fs1, fs2, fs3, fs4] at *
 clear b3 s1
 go_enter Tryz.func24, Tryz.ntmps24
 go_wp2_with fail
 go_ret
 exact HF.out
theorem constO {b : Nat} {c : Nums} (h : Four b c) (w : World) : Calls Tryz.prog 24 #[.int .i64 (b : Nat)] w (BigP c.b w) := by
 cases h
 · exact const160O w
 · exact const192O w
 · exact const224O w
 · exact const256O w
end Go.Proofs.YtohhkjamddojmaaGreatDoor.Bit

set_option maxHeartbeats 16000000
namespace Go.Proofs.YtohhkjamddojmaaGreatDoor.Bit
open Go.RowKit
open Big
set_option maxRecDepth 100000 in
theorem onBigS {w : World} {f va vb vx vy : Value} {P A B x y : Nat} (hP : Fd P) (hf : Dg w f P) (dA : Dg w va A) (dB : Dg w vb B) (dx : Dg w vx x) (dy : Dg w vy y) (lA : A < P) (lB : B < P) (lx : x < P) (ly : y < P) (hs : fm P y y = fa P (fa P (fm P (fm P x x) x) (fm P A x)) B) :
 Calls Tryz.prog 29 #[.agg #[f], va, vb, vx, vy] w (fun e w' => e = .returned (.bool true) ∧ w.grownBy w' .none) := by
 obtain ⟨n1, hn1⟩ : ∃ n, n = fm P x x := ⟨_, rfl⟩
 obtain ⟨n2, hn2⟩ : ∃ n, n = fm P n1 x := ⟨_, rfl⟩
 obtain ⟨n3, hn3⟩ : ∃ n, n = fm P A x := ⟨_, rfl⟩
 obtain ⟨n4, hn4⟩ : ∃ n, n = fa P n2 n3 := ⟨_, rfl⟩
 obtain ⟨n5, hn5⟩ : ∃ n, n = fa P n4 B := ⟨_, rfl⟩
 obtain ⟨n6, hn6⟩ : ∃ n, n = fm P y y := ⟨_, rfl⟩
 have hE : n6 = n5 := by
  subst hn6 hn5 hn4 hn3 hn2 hn1
  exact hs
 have HE := Lz hE
 have HN := Lz (show n1 = fm P x x ∧ n2 = fm P n1 x ∧ n3 = fm P A x ∧ n4 = fa P n2 n3 ∧ n5 = fa P n4 B ∧ n6 = fm P y y from ⟨hn1, hn2, hn3, hn4, hn5, hn6⟩)
 have HL := Lz (show A < P ∧ B < P ∧ x < P ∧ y < P ∧ n1 < P ∧ n2 < P ∧ n3 < P ∧ n4 < P ∧ n5 < P ∧ n6 < P from ⟨lA, lB, lx, ly, by rw [hn1]; exact fm_lt hP.pos, by rw [hn2]; exact fm_lt hP.pos, by rw [hn3]; exact fm_lt hP.pos, by rw [hn4]; exact fa_lt hP.pos, by rw [hn5]; exact fa_lt hP.pos, by rw [hn6]; exact fm_lt hP.pos⟩)
 have HP := Lz hP
 have n0 := heap_alloc_new w (.cells #[f] 39)
 have G0 := Lz (zzx w (.cells #[f] 39) .none)
 have q0 := zzj (k := 0) n0 rfl
 have CC := Lz (fun (w' : World) (k : (w.alloc (.cells #[f] 39)).grownBy w' .none) => (k.cell q0 (by simp) : w'.cell? ⟨w.heap.size, 0, .none⟩ = some f))
 have DD := Lz (fun (w' : World) (k : (w.alloc (.cells #[f] 39)).grownBy w' .none) => (⟨hf.kept (G0.out.trans k), dA.kept (G0.out.trans k), dB.kept (G0.out.trans k), dx.kept (G0.out.trans k), dy.kept (G0.out.trans k)⟩ : Dg w' f P ∧ Dg w' va A ∧ Dg w' vb B ∧ Dg w' vx x ∧ Dg w' vy y))
 obtain ⟨pf, cf, rfl, -⟩ := hf
 obtain ⟨pA, cA, rfl, -⟩ := dA
 obtain ⟨pB, cB, rfl, -⟩ := dB
 obtain ⟨px, cx, rfl, -⟩ := dx
 obtain ⟨py, cy, rfl, -⟩ := dy
 clear hP hE hs n0 lA lB lx ly hn1 hn2 hn3 hn4 hn5 hn6
 go_enter Tryz.func29, Tryz.ntmps29
 go_upto_region 1 with fail
 generalize hw1 : w.alloc (.cells #[.slice pf (bd P).length cf] 39) = w1 at *
 go_region_held3 (fun w' => w'.cell? ⟨w.heap.size, 0, .none⟩ = some (.slice pf (bd P).length cf)) (go_keep) (first | (go_at_call 65; refine (addE HN.out.2.2.2.2.1 HP.out (DD.out _ A4.out.1).1 A4.out.2.2.2.2 (DD.out _ A4.out.1).2.2.1 HL.out.2.2.2.2.2.2.2.1 HL.out.2.1).mono ?_; rintro en u5 ⟨vn5, rfl, en5, gr5⟩; have q0 := CC.out _ ((A4.out.1).trans gr5); have A5 := Lz (And.intro ((A4.out.1).trans gr5) (And.intro (A4.out.2.1.kept gr5) (And.intro (A4.out.2.2.1.kept gr5) (And.intro (A4.out.2.2.2.1.kept gr5) (And.intro (A4.out.2.2.2.2.kept gr5) en5))))); obtain ⟨pn5, cn5, rfl, -⟩ := en5; clear gr5) | (go_at_call 65; refine (addE HN.out.2.2.2.1 HP.out (DD.out _ A3.out.1).1 A3.out.2.2.1 A3.out.2.2.2 HL.out.2.2.2.2.2.1 HL.out.2.2.2.2.2.2.1).mono ?_; rintro en u4 ⟨vn4, rfl, en4, gr4⟩; have q0 := CC.out _ ((A3.out.1).trans gr4); have A4 := Lz (And.intro ((A3.out.1).trans gr4) (And.intro (A3.out.2.1.kept gr4) (And.intro (A3.out.2.2.1.kept gr4) (And.intro (A3.out.2.2.2.kept gr4) en4)))); obtain ⟨pn4, cn4, rfl, -⟩ := en4; clear gr4) | (go_at_call 64; refine (mulE HN.out.2.2.1 HP.out (DD.out _ A2.out.1).1 (DD.out _ A2.out.1).2.1 (DD.out _ A2.out.1).2.2.2.1 HL.out.1 HL.out.2.2.1).mono ?_; rintro en u3 ⟨vn3, rfl, en3, gr3⟩; have q0 := CC.out _ ((A2.out.1).trans gr3); have A3 := Lz (And.intro ((A2.out.1).trans gr3) (And.intro (A2.out.2.1.kept gr3) (And.intro (A2.out.2.2.kept gr3) en3))); obtain ⟨pn3, cn3, rfl, -⟩ := en3; clear gr3) | (go_at_call 64; refine (mulE HN.out.2.1 HP.out (DD.out _ A1.out.1).1 A1.out.2 (DD.out _ A1.out.1).2.2.2.1 HL.out.2.2.2.2.1 HL.out.2.2.1).mono ?_; rintro en u2 ⟨vn2, rfl, en2, gr2⟩; have q0 := CC.out _ ((A1.out.1).trans gr2); have A2 := Lz (And.intro ((A1.out.1).trans gr2) (And.intro (A1.out.2.kept gr2) en2)); obtain ⟨pn2, cn2, rfl, -⟩ := en2; clear gr2) | (go_at_call 64; refine (mulE HN.out.1 HP.out (DD.out _ (zzz w1 _ .none)).1 (DD.out _ (zzz w1 _ .none)).2.2.2.1 (DD.out _ (zzz w1 _ .none)).2.2.2.1 HL.out.2.2.1 HL.out.2.2.1).mono ?_; rintro en u1 ⟨vn1, rfl, en1, gr1⟩; have q0 := CC.out _ (((zzz w1 _ .none)).trans gr1); have A1 := Lz (And.intro (((zzz w1 _ .none)).trans gr1) en1); obtain ⟨pn1, cn1, rfl, -⟩ := en1; clear gr1))
 go_wp2_with fail
 refine (mulE HN.out.2.2.2.2.2 HP.out (DD.out _ A5.out.1).1 (DD.out _ A5.out.1).2.2.2.2 (DD.out _ A5.out.1).2.2.2.2 HL.out.2.2.2.1 HL.out.2.2.2.1).mono ?_
 rintro en u6 ⟨vn6, rfl, en6, gr6⟩
 have q0 := CC.out _ ((A5.out.1).trans gr6)
 have A6 := Lz (And.intro ((A5.out.1).trans gr6) (And.intro (A5.out.2.1.kept gr6) (And.intro (A5.out.2.2.1.kept gr6) (And.intro (A5.out.2.2.2.1.kept gr6) (And.intro (A5.out.2.2.2.2.1.kept gr6) (And.intro (A5.out.2.2.2.2.2.kept gr6) en6))))))
 obtain ⟨pn6, cn6, rfl, -⟩ := en6
 clear gr6
 go_wp2_with fail
 refine (eqD HE.out A6.out.2.2.2.2.2.2 A6.out.2.2.2.2.2.1).mono ?_
 rintro en u7 ⟨rfl, gr7⟩
 have q0 := CC.out _ ((A6.out.1).trans gr7)
 have A7 := Lz (And.intro ((A6.out.1).trans gr7) (And.intro (A6.out.2.1.kept gr7) (And.intro (A6.out.2.2.1.kept gr7) (And.intro (A6.out.2.2.2.1.kept gr7) (And.intro (A6.out.2.2.2.2.1.kept gr7) (And.intro (A6.out.2.2.2.2.2.1.kept gr7) (A6.out.2.2.2.2.2.2.kept gr7)))))))
 clear gr7
 have FIN := Lz (G0.out.trans A7.out.1)
 go_wp2_with fail
 go_ret
 exact ⟨rfl, FIN.out⟩
open EcLaw in
theorem on_big {p x y b : Nat} (h0 : 0 < p) (h : On p 0 b (.aff x y)) : fm p y y = fa p (fa p (fm p (fm p x x) x) (fm p 0 x)) b := by
 refine eq_of_dvd (fm_lt h0) (fa_lt h0) ?_
 have h1 := h.2.2.2.2
 have a1 := fm_dvd p y y
 have a2 := fa_dvd p (fa p (fm p (fm p x x) x) (fm p 0 x)) b
 have a3 := fa_dvd p (fm p (fm p x x) x) (fm p 0 x)
 have a4 := fm_dvd p (fm p x x) x
 have a5 := fm_dvd p x x
 have a6 := fm_dvd p 0 x
 generalize fm p y y = t1 at *
 generalize fa p (fa p (fm p (fm p x x) x) (fm p 0 x)) b = t2 at *
 generalize fa p (fm p (fm p x x) x) (fm p 0 x) = t3 at *
 generalize fm p (fm p x x) x = t4 at *
 generalize fm p 0 x = t6 at *
 generalize fm p x x = t5 at *
 have b1 : (p : Int) ∣ (t4 : Int) - x * x * x := lin2 1 (x : Int) a4 a5 (by grind)
 have b2 : (p : Int) ∣ (t2 : Int) - (x * x * x + b) := lin4 1 1 1 1 a2 a3 b1 a6 (by grind)
 exact lin3 1 (-1) 1 a1 b2 h1 (by grind)
end Go.Proofs.YtohhkjamddojmaaGreatDoor.Bit

set_option maxHeartbeats 16000000
namespace Go.Proofs.YtohhkjamddojmaaGreatDoor.Bit
open Go.RowKit
open Big EcLaw
attribute [local go_sem] ptr
attribute [local irreducible] Sz
section
variable {R : Nat → Prop} {w0 w w' : World} {L L' : List (Nat × Int)}
theorem addS {K : Nat → Prop} {b t : Nat} {ae : Addr} {g1 g2 g3 g4 X1 Y1 X2 Y2 a d : Nat} {c : Nums} {cs : Array Value} {v1 v2 v3 v4 : Value} (hf : Four b c) (S : St R K w w' t cs ae) (b1 : ByV w' g1 v1 X1) (b2 : ByV w' g2 v2 Y1) (b3 : ByV w' g3 v3 X2) (b4 : ByV w' g4 v4 Y2) (k1 : K g1) (k2 : K g2) (k3 : K g3) (k4 : K g4)
 (e1 : EcLaw.mul c.p 0 a c.G = .aff X1 Y1) (e2 : EcLaw.mul c.p 0 d c.G = .aff X2 Y2) (hne : a ≠ d) (ha : a < 2 ^ 63) (hd : d < 2 ^ 63) (h0 : 0 < a + d) :
 Calls Tryz.prog 28 #[.int .i64 (b : Nat), v1, v2, v3, v4] w' (GreatP K w' (fun X Y => EcLaw.mul c.p 0 (a + d) c.G = .aff X Y ∧ EcLaw.add c.p 0 (.aff X1 Y1) (.aff X2 Y2) = .aff X Y)) := by
 have hc := hf.grp
 have hn := hf.room.1
 have t1 : EcLaw.add c.p 0 (.aff X1 Y1) (.aff X2 Y2) = EcLaw.mul c.p 0 (a + d) c.G := by rw [mul_add hc.cv hc.on, e1, e2]
 refine (namedAddO hf S.own ae S.eof g1 g2 g3 g4 X1 Y1 X2 Y2 v1 v2 v3 v4 b1 b2 b3 b4 k1 k2 k3 k4 (e1 ▸ mul_on hc.prm hc.on _) (e2 ▸ mul_on hc.prm hc.on _) ?_ ?_).mono ?_
 · intro e
   rw [← e1, ← e2] at e
   rcases Nat.lt_trichotomy a d with h | h | h
   · exact hc.apart h (by omega) e
   · exact hne h
   · exact hc.apart h (by omega) e.symm
 · rw [t1]
   exact hc.ne h0 (by omega)
 · rintro en w'' ⟨X', Y', vx, vy, gx, gy, r1, r2, r3⟩
   exact ⟨X', Y', vx, vy, gx, gy, r1, ⟨t1 ▸ r2, r2⟩, r3⟩
theorem wpList_copy_bytes2 {w0 wX : World} {ops : Array Oper} {rest : List Oper} {o : Oper} {a : Act} {Q : Exit → Act → World → Prop} (hgd : o.guard = none) (s x : Operand)
 (ho : o.op = .call { callee := .builtin .append, args := #[s, x], argTypes := #[25, 25] }) (z : Nat) (hz : w0.heap.size = z) (hs : a.eval s = .slice (some ⟨z, 0, .none⟩) 0 0)
 (gN oN c n : Nat) (ns : List Nat) (hnn : ns.length = n) (hx : a.eval x = .slice (some ⟨gN, oN, .none⟩) n c) (hn : Sl wX gN oN ns) (hX : (w0.alloc (.cells #[] 5)).grownBy wX .none)
 (K : ∀ g cap w', KB w' g cap ns → w0.grownBy w' .none → w0.heap.size ≤ g → wpList Tryz.prog ops Q rest (a.put o.dst (.slice (some ⟨g, 0, .none⟩) n cap)) w') : wpList Tryz.prog ops Q (o :: rest) a wX := by
 subst hz hnn
 obtain ⟨i0, hi, hz0, hz1, hz2⟩ := info_parts info5
 have hlit0 := World.ownsRow_lit (base := w0.heap.size) (e := 5) (size := 1) w0 #[] 0 (Nat.le_refl _) (by decide) rfl
 have hlit : wX.ownsRow w0.heap.size 5 1 (.slice (some ⟨w0.heap.size, 0, .none⟩) 0 0) 0 [] := by
  rcases hlit0 with ⟨hlen, ⟨e, -⟩ | ⟨g, cap, cur, e, hb, hblk, hle, hcm, hsz2, htk⟩⟩
  · cases e
  · refine ⟨hlen, .inr ⟨g, cap, cur, e, hb, ?_, hle, hcm, hsz2, htk⟩⟩
    rw [hX.block g (Array.getElem?_eq_some_iff.1 hblk).1 (by simp)]
    exact hblk
 have hl := hn.2.2.1
 have hsz : w0.heap.size ≤ wX.heap.size := Nat.le_trans (by show _ ≤ (Array.push _ _).size; rw [Array.size_push]; omega) hX.size
 refine wpList_append_own _ hgd s x 25 ho w0.heap.size 5 i0 (.int .u8 0) 1 1 Tryz.underlying25 hi hz0 hz1 hz2 rfl (by decide) _ 0 [] hs hlit ⟨gN, oN, .none⟩ ns.length c (ns.map u8v) hx (by simp) (fun j u hu => ?_) (by intro u hu; obtain ⟨k, -, rfl⟩ := List.mem_map.1 hu; rfl) (by unfold maxLen; omega) (by omega) hsz ?_
 · rw [List.getElem?_map] at hu
   have hj : j < ns.length := by
    apply Nat.lt_of_not_le
    intro e
    rw [List.getElem?_eq_none e] at hu
    cases hu
   have := hn.1 j hj
   rw [List.getElem?_eq_getElem hj] at hu
   have hu' := Option.some.inj hu
   rw [← hu']
   show wX.cell? ((⟨gN, oN, .none⟩ : Addr).add j) = _
   rw [show (⟨gN, oN, .none⟩ : Addr).add j = ⟨gN, oN + j, .none⟩ from by simp [Addr.add], this]
   simp [u8v, List.getD, hj]
 · intro v' w1 hown hgrow hnn
   have hg : w0.grownBy w1 .none := grown_new (zzy (zzx w0 _ none) hX) hgrow (Nat.le_refl _)
   rcases hown with ⟨hlen, ⟨rfl, hks⟩ | ⟨g, cap, cur, rfl, hb, hblk, hle, hcm, hsz2, htk⟩⟩
   · exact absurd (hnn.1 rfl).1 (by intro e; cases e)
   · rw [Nat.zero_add] at htk ⊢
     refine K g cap w1 ⟨cur, hblk, by omega, by omega, fun i hi => ?_⟩ hg hb
     have e : (cur.toList.take (ns.length * 1))[i]? = (ns.map u8v)[i]? := by rw [htk]; rfl
     rw [List.getElem?_take_of_lt (by omega), List.getElem?_map, List.getElem?_eq_getElem hi] at e
     rw [← Array.getElem?_toList, e]
     simp [List.getD, hi]
theorem bd_pos_len {n : Nat} (h : 0 < n) : 0 < (bd n).length := by
 rcases Nat.eq_zero_or_pos (bd n).length with h1 | h1
 · have := bd_eq_nil.1 (List.length_eq_zero_iff.1 h1)
   omega
 · exact h1
theorem rowK {R : Nat → Prop} {b o c : Nat} {xs : List Nat} (h : RowI w (some ⟨b, o, .none⟩) c xs) (k : Kept R w w') (hR : R b) : RowI w' (some ⟨b, o, .none⟩) c xs := by
 refine ⟨h.1, h.2.1, h.2.2.1, fun b' o' e i hi => ?_⟩
 injection e with e
 injection e with e1 e2
 subst e1 e2
 exact k.cell hR (h.2.2.2 _ _ rfl i hi)
theorem sameD {g g' n m : Nat} {v v' : Value} (e : n = m) (h : ByV w g v n) (h' : ByV w g' v' m) : Calls Tryz.prog 26 #[v, v'] w (fun e w' => e = .returned (.bool true) ∧ w.grownBy w' .none) := by
 subst e
 refine (sameBy h h').mono ?_
 rintro e w' ⟨rfl, d, rfl⟩
 exact ⟨rfl, zzz w d .none⟩
theorem constD {b : Nat} {c : Nums} (hf : Four b c) (w : World) : Calls Tryz.prog 24 #[.int .i64 (b : Nat)] w (DgP c.b w) := (constO hf w).mono fun _ _ h => Dg.of h
theorem Four.bp {b : Nat} {c : Nums} (h : Four b c) : c.b < c.p := by
 cases h <;> decide +kernel
set_option maxRecDepth 100000 in
theorem lawAddO (h : Own R w0 w []) (ae : Addr) (he : w.cell? ⟨2, 0, .none⟩ = some (eofV ae)) (x y z : Int) (h0 : 0 ≤ x) (h1 : x < 256) (y0 : 0 ≤ y) (y1 : y < 18446744073709551616) (z0 : 0 ≤ z) (z1 : z < 18446744073709551616) :
 Calls Tryz.prog 5 #[.int .u8 x, .int .u64 y, .int .u64 z] w (fun e w' => e = .returned (.bool true) ∧ Own R w0 w' []) := by
 have S := Lz (sizeO x w h0 h1)
 have HS0 := Lz (And.intro h he)
 obtain ⟨A, rfl⟩ : ∃ A : Nat, y = A := ⟨y.toNat, by omega⟩
 obtain ⟨B, rfl⟩ : ∃ A : Nat, z = A := ⟨z.toNat, by omega⟩
 obtain ⟨A4, hA4⟩ : ∃ a, a = A / 4 := ⟨_, rfl⟩
 obtain ⟨B4, hB4⟩ : ∃ a, a = B / 4 := ⟨_, rfl⟩
 have E1 : (A : Int) / 4 = (A4 : Int) := by omega
 have E2 : (B : Int) / 4 = (B4 : Int) := by omega
 obtain ⟨a, ha⟩ : ∃ a, a = A4 / 2 * 2 + 1 := ⟨_, rfl⟩
 obtain ⟨d, hd⟩ : ∃ a, a = B4 / 2 * 2 + 1 := ⟨_, rfl⟩
 have E3 : bits .or .u64 (A4 : Int) 1 = (a : Int) := by rw [ha]; exact u64_odd A4 (by omega)
 have E4 : bits .or .u64 (B4 : Int) 1 = (d : Int) := by rw [hd]; exact u64_odd B4 (by omega)
 have HA := Lz (show 0 < a ∧ a < 4611686018427387904 ∧ a / 2 * 2 + 1 = a from by omega)
 have HB := Lz (show 0 < d ∧ d < 4611686018427387904 ∧ d / 2 * 2 + 1 = d from by omega)
 clear h he h0 h1 y0 y1 z0 z1 hA4 hB4 ha hd
 go_enter Tryz.func5, Tryz.ntmps5
 go_wp2_with fail
 refine S.out.mono ?_
 rintro en w1 ⟨b, c, hf, rfl, g1⟩
 have H1 := Lz (And.intro (HS0.out.1.grownN g1) (g1.cell HS0.out.2 (by simp)))
 have N := Lz (curveNamedO hf H1.out.1 ae H1.out.2)
 have HF := Lz hf
 have HG1 := Lz g1
 clear S g1 hf
 go_wp2_with fail
 refine N.out.mono ?_
 rintro en w2 ⟨vP, vN, vB, vX, vY, gP, gN, gB, gX, gY, rfl, k2, o2, ⟨bP, bN, bB, bX, bY⟩, z1, z2, z3, z4, z5⟩
 obtain ⟨oN, ns, rfl, -⟩ := bN
 obtain ⟨oP, ps, rfl, -⟩ := bP
 obtain ⟨oB, bs, rfl, -⟩ := bB
 obtain ⟨oX, xs, rX, -⟩ := id bX
 obtain ⟨oY, ys, rY, -⟩ := id bY
 generalize xs.length = lx at rX
 generalize ys.length = ly at rY
 generalize ps.length = lp
 generalize bs.length = lb
 generalize ns.length = ln
 subst rX rY
 obtain ⟨K, hK⟩ : ∃ K : Nat → Prop, K = fun k => R k ∨ k = gX ∨ k = gY ∨ k = w2.heap.size := ⟨_, rfl⟩
 have S3 := Lz (named_start (cs27 := #[.slice (some ⟨gP, oP, .none⟩) lp lp, .slice (some ⟨gN, oN, .none⟩) ln ln, .slice (some ⟨gB, oB, .none⟩) lb lb, .slice (some ⟨gX, oX, .none⟩) lx lx, .slice (some ⟨gY, oY, .none⟩) ly ly, .int .i64 (b : Nat)]) hK HS0.out.1 (Grow.none HG1.out _) k2 o2 bX bY HS0.out.2)
 clear hK k2 o2 bX bY z1 z2 z3 z4 z5 N H1 HG1
 by_cases hab : a = d
 · have q : ((a : Int) == (d : Int)) = true := by rw [hab]; exact beq_self_eq_true _
   have HO := Lz (HS0.out.1.turned S3.out.1.kept)
   clear hab
   go_wp2_with fail
   go_ret
   exact ⟨rfl, HO.out⟩
 have q : ((a : Int) == (d : Int)) = false := by rw [beq_eq_false_iff_ne]; omega
 have HAB := Lz hab
 clear hab
 go_upto_region 8 with fail
 generalize hw3 : w2.alloc (.cells #[.slice (some ⟨gP, oP, .none⟩) lp lp, .slice (some ⟨gN, oN, .none⟩) ln ln, .slice (some ⟨gB, oB, .none⟩) lb lb, .slice (some ⟨gX, oX, .none⟩) lx lx, .slice (some ⟨gY, oY, .none⟩) ly ly, .int .i64 (b : Nat)] 27) = w3 at *
 generalize hcs : (#[.slice (some ⟨gP, oP, .none⟩) lp lp, .slice (some ⟨gN, oN, .none⟩) ln ln, .slice (some ⟨gB, oB, .none⟩) lb lb, .slice (some ⟨gX, oX, .none⟩) lx lx, .slice (some ⟨gY, oY, .none⟩) ly ly, .int .i64 (b : Nat)] : Array Value) = cs27 at *
 have hc3 : cs27[3]? = some (.slice (some ⟨gX, oX, .none⟩) lx lx) := by rw [← hcs]; rfl
 have hc4 : cs27[4]? = some (.slice (some ⟨gY, oY, .none⟩) ly ly) := by rw [← hcs]; rfl
 have HC := Lz (And.intro hc3 hc4)
 clear hcs hc3 hc4 hw3 E1 E2 E3 E4 q
 have QQ := Lz (fun (w' : World) (k : w3.grownBy w' .none) => (⟨k.cell (zzj (k := 3) S3.out.1.blk HC.out.1) (by simp), k.cell (zzj (k := 4) S3.out.1.blk HC.out.2) (by simp)⟩ : w'.cell? ⟨w2.heap.size, 3, .none⟩ = some (.slice (some ⟨gX, oX, .none⟩) lx lx) ∧ w'.cell? ⟨w2.heap.size, 4, .none⟩ = some (.slice (some ⟨gY, oY, .none⟩) ly ly)))
 obtain ⟨q3, q4⟩ := QQ.out w3 (zxq _ _)
 go_region_held3 (fun w' => w'.cell? ⟨w2.heap.size, 3, .none⟩ = some (.slice (some ⟨gX, oX, .none⟩) lx lx) ∧ w'.cell? ⟨w2.heap.size, 4, .none⟩ = some (.slice (some ⟨gY, oY, .none⟩) ly ly)) (go_keep) (first | (go_at_call 16; refine (mulS HF.out (S3.out.1.one A1.out.1 A1.out.2.1) A1.out.2.1 (S3.out.2.1.kept (R := fun _ => True) (Grow.none A1.out.1 _) trivial) (S3.out.2.2.1.kept (R := fun _ => True) (Grow.none A1.out.1 _) trivial) (.inl S3.out.2.2.2.1) (.inl S3.out.2.2.2.2) (.inr rfl) A1.out.2.2 HA.out.1 (by have := HF.out.room.1; have := HA.out; omega)).mono ?_; rintro en w6 hq; obtain ⟨X1, Y1, v1, v2, g1, g2, rfl, p1, k6, s6, b1, b2, z1, z2⟩ := (S3.out.1.one A1.out.1 A1.out.2.1).great hq; have q3 := zzj (k := 3) s6.blk HC.out.1; have q4 := zzj (k := 4) s6.blk HC.out.2; have S6 := Lz (And.intro p1 (And.intro s6 (And.intro b1 (And.intro b2 (And.intro ((S3.out.2.1.kept (R := fun _ => True) (Grow.none A1.out.1 _) trivial).kept k6 (.inl S3.out.2.2.2.1)) ((S3.out.2.2.1.kept (R := fun _ => True) (Grow.none A1.out.1 _) trivial).kept k6 (.inl S3.out.2.2.2.2))))))); clear hq p1 k6 s6 b1 b2 z1 z2) | (go_at_call 17; refine (shortS _ a (by have := HA.out; omega)).mono ?_; rintro en u1 ⟨ks, hb, e1, e2, e3⟩; obtain ⟨g, cap, rfl, sl, gr, gz⟩ := hb.sl e2 (by omega); have gg := (zzz w3 _ .none).trans gr; obtain ⟨q3, q4⟩ := QQ.out _ gg; rw [HA.out.2.2] at e1; have A1 := Lz (And.intro gg (And.intro sl e1)); clear hb e1 e2 e3 sl gr gz gg))
 have KK := Lz (And.intro S3.out.2.2.2.1 S3.out.2.2.2.2)
 clear QQ S3 A1
 have QQ := Lz (fun (w' : World) (k : w6.grownBy w' .none) => (⟨k.cell q3 (by simp), k.cell q4 (by simp)⟩ : w'.cell? ⟨w2.heap.size, 3, .none⟩ = some (.slice (some ⟨gX, oX, .none⟩) lx lx) ∧ w'.cell? ⟨w2.heap.size, 4, .none⟩ = some (.slice (some ⟨gY, oY, .none⟩) ly ly)))
 go_upto_region 9 with fail
 go_region_held3 (fun w' => w'.cell? ⟨w2.heap.size, 3, .none⟩ = some (.slice (some ⟨gX, oX, .none⟩) lx lx) ∧ w'.cell? ⟨w2.heap.size, 4, .none⟩ = some (.slice (some ⟨gY, oY, .none⟩) ly ly)) (go_keep) (first | (go_at_call 16; refine (mulS HF.out (S6.out.2.1.one A2.out.1 A2.out.2.1) A2.out.2.1 (S6.out.2.2.2.2.1.kept (R := fun _ => True) (Grow.none A2.out.1 _) trivial) (S6.out.2.2.2.2.2.kept (R := fun _ => True) (Grow.none A2.out.1 _) trivial) (.inl (.inl (.inl KK.out.1))) (.inl (.inl (.inl KK.out.2))) (.inr rfl) A2.out.2.2 HB.out.1 (by have := HF.out.room.1; have := HB.out; omega)).mono ?_; rintro en w8 hq; obtain ⟨X2, Y2, v3, v4, g3, g4, rfl, p1, k8, s8, b3, b4, z1, z2⟩ := (S6.out.2.1.one A2.out.1 A2.out.2.1).great hq; have q3 := zzj (k := 3) s8.blk HC.out.1; have q4 := zzj (k := 4) s8.blk HC.out.2; have S8 := Lz (And.intro p1 (And.intro s8 (And.intro ((S6.out.2.2.1.kept (R := fun _ => True) (Grow.none A2.out.1 _) trivial).kept k8 (.inl (.inr (.inl rfl)))) (And.intro ((S6.out.2.2.2.1.kept (R := fun _ => True) (Grow.none A2.out.1 _) trivial).kept k8 (.inl (.inr (.inr rfl)))) (And.intro b3 (And.intro b4 (And.intro ((S6.out.2.2.2.2.1.kept (R := fun _ => True) (Grow.none A2.out.1 _) trivial).kept k8 (.inl (.inl (.inl KK.out.1)))) ((S6.out.2.2.2.2.2.kept (R := fun _ => True) (Grow.none A2.out.1 _) trivial).kept k8 (.inl (.inl (.inl KK.out.2))))))))))); clear hq p1 k8 s8 b3 b4 z1 z2) | (go_at_call 17; refine (shortS _ d (by have := HB.out; omega)).mono ?_; rintro en u1 ⟨ks2, hb, e1, e2, e3⟩; obtain ⟨gd, cap2, rfl, sl, gr, gz⟩ := hb.sl e2 (by omega); have gg := (zzz w6 _ .none).trans gr; obtain ⟨q3, q4⟩ := QQ.out _ gg; rw [HB.out.2.2] at e1; have A2 := Lz (And.intro gg (And.intro sl e1)); clear hb e1 e2 e3 sl gr gz gg))
 have P1 := Lz S6.out.1
 clear QQ S6 A2 q3 q4
 go_wp2_with fail
 refine (addS HF.out S8.out.2.1 S8.out.2.2.1 S8.out.2.2.2.1 S8.out.2.2.2.2.1 S8.out.2.2.2.2.2.1 (.inl (.inl (.inr (.inl rfl)))) (.inl (.inl (.inr (.inr rfl)))) (.inr (.inl rfl)) (.inr (.inr rfl)) P1.out S8.out.1 HAB.out (by have := HA.out; omega) (by have := HB.out; omega) (by have := HA.out; omega)).mono ?_
 rintro en w10 hq
 obtain ⟨X3, Y3, v5, v6, g5, g6, rfl, p3, k10, s10, b5, b6, z1, z2⟩ := S8.out.2.1.great hq
 have S10 := Lz (And.intro s10 (And.intro (S8.out.2.2.1.kept k10 (.inl (.inl (.inr (.inl rfl))))) (And.intro (S8.out.2.2.2.1.kept k10 (.inl (.inl (.inr (.inr rfl))))) (And.intro (S8.out.2.2.2.2.1.kept k10 (.inr (.inl rfl))) (And.intro (S8.out.2.2.2.2.2.1.kept k10 (.inr (.inr rfl))) (And.intro b5 (And.intro b6 (And.intro (S8.out.2.2.2.2.2.2.1.kept k10 (.inl (.inl (.inl (.inl KK.out.1))))) ((S8.out.2.2.2.2.2.2.2.kept k10 (.inl (.inl (.inl (.inl KK.out.2))))))))))))))
 have PP := Lz (And.intro P1.out (And.intro S8.out.1 p3))
 clear hq p3 k10 s10 b5 b6 z1 z2 S8 P1
 have CL := Lz (And.intro (coords_lt HF.out.grp PP.out.1) (And.intro (coords_lt HF.out.grp PP.out.2.1) (coords_lt HF.out.grp PP.out.2.2.1)))
 have ON := Lz (on_big HF.out.fd.pos (PP.out.2.2.1 ▸ mul_on HF.out.grp.prm HF.out.grp.on _ : On c.p 0 c.b (.aff X3 Y3)))
 have CH := Lz (chord_law HF.out.grp PP.out.1 PP.out.2.1 (x_apart HF.out.grp HAB.out (by have := HF.out.room.1; have := HA.out; have := HB.out; omega) (by have := HA.out; omega) PP.out.1 PP.out.2.1) PP.out.2.2.2)
 have BB := Lz (fun (w' : World) (k : w10.grownBy w' .none) => (
  have kk : Kept (fun _ => True) w10 w' := Grow.none k _
  ⟨S10.out.2.1.kept kk trivial, S10.out.2.2.1.kept kk trivial, S10.out.2.2.2.1.kept kk trivial, S10.out.2.2.2.2.1.kept kk trivial, S10.out.2.2.2.2.2.1.kept kk trivial, S10.out.2.2.2.2.2.2.1.kept kk trivial, S10.out.2.2.2.2.2.2.2.1.kept kk trivial, S10.out.2.2.2.2.2.2.2.2.kept kk trivial⟩ : ByV w' g1 v1 X1 ∧ ByV w' g2 v2 Y1 ∧ ByV w' g3 v3 X2 ∧ ByV w' g4 v4 Y2 ∧ ByV w' g5 v5 X3 ∧ ByV w' g6 v6 Y3 ∧ ByV w' gX (.slice (some ⟨gX, oX, .none⟩) lx lx) c.x ∧ ByV w' gY (.slice (some ⟨gY, oY, .none⟩) ly ly) c.y))
 obtain ⟨K10, hK10⟩ : ∃ K10 : Nat → Prop, St R K10 w w10 w2.heap.size cs27 ae ∧ K10 gX ∧ K10 gY ∧ K10 g5 ∧ K10 g6 := ⟨_, S10.out.1, (.inl (.inl (.inl (.inl (.inl KK.out.1))))), (.inl (.inl (.inl (.inl (.inl KK.out.2))))), .inr (.inl rfl), .inr (.inr rfl)⟩
 have SK := Lz hK10
 obtain ⟨s, hs⟩ : ∃ s, s = a + d := ⟨_, rfl⟩
 have HSM := Lz (show s = a + d ∧ 0 < s ∧ s < 9223372036854775808 ∧ s < c.n from ⟨hs, by have := HA.out; omega, by have := HA.out; have := HB.out; omega, by have := HA.out; have := HB.out; have := HF.out.room.1; omega⟩)
 have E3 : IntKind.u64.wrap ((a : Int) + d) = (s : Int) := by rw [IntKind.wrap_u64]; have := HSM.out; omega
 have E4 : ((a : Int) + d) % 18446744073709551616 = (s : Int) := by have := HSM.out; omega
 have E5 : wrap64 (s : Int) = (s : Int) := wrapN rfl (by have := HSM.out; omega)
 have E6 : IntKind.i64.wrap (s : Int) = (s : Int) := by rw [IntKind.wrap_i64]; have := HSM.out; omega
 have q3 := zzj (k := 3) SK.out.1.blk HC.out.1
 clear hK10 hs S10 KK HA HB HAB q3
 go_wp2_with fail
 refine (primeD HF.out w10).mono ?_
 rintro en w11 ⟨f0, rfl, d0, gr0⟩
 obtain ⟨pf, cf, rfl, rf⟩ := id d0
 obtain ⟨bf, of_, rfl⟩ := rf.2.2.1 (bd_pos_len HF.out.fd.pos)
 have n12 := heap_alloc_new w11 (.cells #[(.slice (some ⟨bf, of_, .none⟩) (bd c.p).length cf)] 39)
 have g12 : w10.grownBy (w11.alloc (.cells #[(.slice (some ⟨bf, of_, .none⟩) (bd c.p).length cf)] 39)) .none := gr0.trans (zzx _ _ _)
 have r12 := rf.kept (zzx w11 (.cells #[(.slice (some ⟨bf, of_, .none⟩) (bd c.p).length cf)] 39) .none)
 go_upto_region 15 with fail
 generalize w11.alloc (.cells #[(.slice (some ⟨bf, of_, .none⟩) (bd c.p).length cf)] 39) = w12 at *
 generalize w11.heap.size = tf at *
 have q0 := zzj (k := 0) n12 rfl
 have A0 := Lz (And.intro g12 (And.intro n12 r12))
 have CC := Lz (fun (w' : World) (k : w12.grownBy w' .none) => (⟨k.cell q0 (by simp), ⟨_, _, rfl, A0.out.2.2.kept k⟩⟩ : w'.cell? ⟨tf, 0, .none⟩ = some (.slice (some ⟨bf, of_, .none⟩) (bd c.p).length cf) ∧ Dg w' (.slice (some ⟨bf, of_, .none⟩) (bd c.p).length cf) c.p))
 clear gr0 d0 rf n12 g12 r12
 go_region_held3 (fun w' => w'.cell? ⟨tf, 0, .none⟩ = some (.slice (some ⟨bf, of_, .none⟩) (bd c.p).length cf)) (go_keep) (first | (go_at_call 21; refine (isSumC HF.out.fd (CC.out _ B6.out.1).2 (dg_nil _) B6.out.2.1 B6.out.2.2.1 B6.out.2.2.2.1 B6.out.2.2.2.2.1 B6.out.2.2.2.2.2.1 B6.out.2.2.2.2.2.2 HF.out.fd.pos CL.out.1.1 CL.out.1.2 CL.out.2.1.1 CL.out.2.1.2 CL.out.2.2.1 CL.out.2.2.2 CH.out).mono ?_; rintro en u7 ⟨rfl, gr7⟩; have q0 := (CC.out _ (B6.out.1.trans gr7)).1; have B7 := Lz (B6.out.1.trans gr7); clear gr7) | (go_at_call 19; refine (fromD (BB.out _ (A0.out.1.trans B5.out.1)).2.2.2.2.2.1).mono ?_; rintro en u6 ⟨f6, rfl, d6, gr6⟩; have q0 := (CC.out _ (B5.out.1.trans gr6)).1; have B6 := Lz (And.intro (B5.out.1.trans gr6) (And.intro (B5.out.2.1.kept gr6) (And.intro (B5.out.2.2.1.kept gr6) (And.intro (B5.out.2.2.2.1.kept gr6) (And.intro (B5.out.2.2.2.2.1.kept gr6) (And.intro (B5.out.2.2.2.2.2.kept gr6) ((d6)))))))); obtain ⟨pf6, cf6, rfl, -⟩ := d6; clear gr6) | (go_at_call 19; refine (fromD (BB.out _ (A0.out.1.trans B4.out.1)).2.2.2.2.1).mono ?_; rintro en u5 ⟨f5, rfl, d5, gr5⟩; have q0 := (CC.out _ (B4.out.1.trans gr5)).1; have B5 := Lz (And.intro (B4.out.1.trans gr5) (And.intro (B4.out.2.1.kept gr5) (And.intro (B4.out.2.2.1.kept gr5) (And.intro (B4.out.2.2.2.1.kept gr5) (And.intro (B4.out.2.2.2.2.kept gr5) ((d5))))))); obtain ⟨pf5, cf5, rfl, -⟩ := d5; clear gr5) | (go_at_call 19; refine (fromD (BB.out _ (A0.out.1.trans B3.out.1)).2.2.2.1).mono ?_; rintro en u4 ⟨f4, rfl, d4, gr4⟩; have q0 := (CC.out _ (B3.out.1.trans gr4)).1; have B4 := Lz (And.intro (B3.out.1.trans gr4) (And.intro (B3.out.2.1.kept gr4) (And.intro (B3.out.2.2.1.kept gr4) (And.intro (B3.out.2.2.2.kept gr4) ((d4)))))); obtain ⟨pf4, cf4, rfl, -⟩ := d4; clear gr4) | (go_at_call 19; refine (fromD (BB.out _ (A0.out.1.trans B2.out.1)).2.2.1).mono ?_; rintro en u3 ⟨f3, rfl, d3, gr3⟩; have q0 := (CC.out _ (B2.out.1.trans gr3)).1; have B3 := Lz (And.intro (B2.out.1.trans gr3) (And.intro (B2.out.2.1.kept gr3) (And.intro (B2.out.2.2.kept gr3) ((d3))))); obtain ⟨pf3, cf3, rfl, -⟩ := d3; clear gr3) | (go_at_call 19; refine (fromD (BB.out _ (A0.out.1.trans B1.out.1)).2.1).mono ?_; rintro en u2 ⟨f2, rfl, d2, gr2⟩; have q0 := (CC.out _ (B1.out.1.trans gr2)).1; have B2 := Lz (And.intro (B1.out.1.trans gr2) (And.intro (B1.out.2.kept gr2) ((d2)))); obtain ⟨pf2, cf2, rfl, -⟩ := d2; clear gr2) | (go_at_call 19; refine (fromD (BB.out _ (A0.out.1.trans (zzz w12 _ .none))).1).mono ?_; rintro en u1 ⟨f1, rfl, d1, gr1⟩; have q0 := (CC.out _ ((zzz w12 _ .none).trans gr1)).1; have B1 := Lz (And.intro ((zzz w12 _ .none).trans gr1) ((d1))); obtain ⟨pf1, cf1, rfl, -⟩ := d1; clear gr1))
 clear B1 B2 B3 B4 B5 B6 CH CL
 go_wp2_with fail
 refine (bytesOf (u7.alloc (.cells #[] 5)) s 0 HSM.out.2.2.1 (by decide)).mono ?_
 rintro en u8 ⟨ks3, hb, e1, e2, e3⟩
 obtain ⟨gb, capb, rfl, sl, gr, gz⟩ := hb.sl e2 (by omega)
 have SB := Lz (And.intro sl (And.intro e1 gr))
 clear hb e1 e2 e3 sl gr gz q0 E3 E4 E5 E6
 go_upto_region 17 with (at_builtin; refine wpList_copy_bytes2 (w0 := u7) rfl (.tmp 111) (.tmp 116) rfl u7.heap.size rfl rfl gb 0 capb ks3.length ks3 rfl rfl SB.out.1 SB.out.2.2 ?_; intro gk capk w13 kb hg hz)
 have sl3 := kb.sl SB.out.1.2.1 SB.out.1.2.2.1
 have G13 := Lz (B7.out.trans hg)
 have T13 := Lz (A0.out.1.trans (B7.out.trans hg))
 have FB := Lz (And.intro ((G13.out.block tf (Array.getElem?_eq_some_iff.1 A0.out.2.1).1 (by simp)).trans A0.out.2.1) (A0.out.2.2.kept G13.out))
 obtain ⟨K13, hK13⟩ : ∃ K13 : Nat → Prop, K13 = fun k => K10 k ∨ k = gk ∨ k = tf ∨ k = bf := ⟨_, rfl⟩
 have S13 := Lz (show St R K13 w w13 w2.heap.size cs27 ae ∧ Sl w13 gk 0 ks3 ∧ K13 gX ∧ K13 gY ∧ K13 g5 ∧ K13 g6 ∧ K13 gk ∧ K13 tf ∧ K13 bf from by
  subst hK13
  refine ⟨(SK.out.1.keep (Grow.none T13.out _)).wide (fun k hk => .inl hk) ?_, sl3, .inl SK.out.2.1, .inl SK.out.2.2.1, .inl SK.out.2.2.2.1, .inl SK.out.2.2.2.2, .inr (.inl rfl), .inr (.inr (.inl rfl)), .inr (.inr (.inr rfl))⟩
  rintro k (hk | rfl | rfl | rfl)
  · exact (SK.out.1.keep (Grow.none T13.out _)).own.old hk
  · exact sl3.2.2.2
  · exact (Array.getElem?_eq_some_iff.1 FB.out.1).1
  · exact FB.out.2.blk (bd_pos_len HF.out.fd.pos))
 have q3 := zzj (k := 3) S13.out.1.blk HC.out.1
 have q4 := zzj (k := 4) S13.out.1.blk HC.out.2
 clear hK13 sl3 kb hg hz SK CC A0 G13 B7
 go_wp2_with fail
 refine (mulS HF.out S13.out.1 S13.out.2.1 (BB.out _ T13.out).2.2.2.2.2.2.1 (BB.out _ T13.out).2.2.2.2.2.2.2 S13.out.2.2.1 S13.out.2.2.2.1 S13.out.2.2.2.2.2.2.1 SB.out.2.1 HSM.out.2.1 HSM.out.2.2.2).mono ?_
 rintro en w14 hq
 obtain ⟨X4, Y4, v7, v8, g7, g8, rfl, p4, k14, s14, b7, b8, z1, z2⟩ := S13.out.1.great hq
 have EQ := Lz (show X3 = X4 ∧ Y3 = Y4 from by
  have e := PP.out.2.2.1
  rw [← HSM.out.1, p4] at e
  injection e with e1 e2
  omega)
 have S14 := Lz (And.intro s14.kept (And.intro ((BB.out _ T13.out).2.2.2.2.1.kept k14 S13.out.2.2.2.2.1) (And.intro ((BB.out _ T13.out).2.2.2.2.2.1.kept k14 S13.out.2.2.2.2.2.1) (And.intro b7 (And.intro b8 (And.intro (k14.cell S13.out.2.2.2.2.2.2.2.1 (zzj (k := 0) FB.out.1 rfl)) (rowK FB.out.2 k14 S13.out.2.2.2.2.2.2.2.2)))))))
 have CL := Lz (coords_lt HF.out.grp PP.out.2.2.1)
 have q0 := S14.out.2.2.2.2.2.1
 have CC := Lz (fun (w' : World) (k : w14.grownBy w' .none) => (⟨k.cell S14.out.2.2.2.2.2.1 (by simp), ⟨_, _, rfl, S14.out.2.2.2.2.2.2.kept k⟩⟩ : w'.cell? ⟨tf, 0, .none⟩ = some (.slice (some ⟨bf, of_, .none⟩) (bd c.p).length cf) ∧ Dg w' (.slice (some ⟨bf, of_, .none⟩) (bd c.p).length cf) c.p))
 have B2 := Lz (fun (w' : World) (k : w14.grownBy w' .none) => (
  have kk : Kept (fun _ => True) w14 w' := Grow.none k _
  ⟨S14.out.2.1.kept kk trivial, S14.out.2.2.1.kept kk trivial, S14.out.2.2.2.1.kept kk trivial, S14.out.2.2.2.2.1.kept kk trivial⟩ : ByV w' g5 v5 X3 ∧ ByV w' g6 v6 Y3 ∧ ByV w' g7 v7 X4 ∧ ByV w' g8 v8 Y4))
 clear hq p4 k14 s14 b7 b8 z1 z2 BB S13 q3 q4 PP T13 FB SB
 go_upto_region 18 with fail
 go_region_held3 (fun w' => w'.cell? ⟨tf, 0, .none⟩ = some (.slice (some ⟨bf, of_, .none⟩) (bd c.p).length cf)) (go_keep) (first | (go_at_call 29; refine (onBigS HF.out.fd (CC.out _ C5.out.1).2 (dg_nil _) C5.out.2.1 C5.out.2.2.1 C5.out.2.2.2 HF.out.fd.pos HF.out.bp CL.out.1 CL.out.2 ON.out).mono ?_; rintro en t6 ⟨rfl, gr6⟩; have q0 := (CC.out _ (C5.out.1.trans gr6)).1; have C6 := Lz (C5.out.1.trans gr6); clear gr6) | (go_at_call 19; refine (fromD (B2.out _ C4.out.1).2.1).mono ?_; rintro en t5 ⟨x5, rfl, d5, gr5⟩; have q0 := (CC.out _ (C4.out.1.trans gr5)).1; have C5 := Lz (And.intro (C4.out.1.trans gr5) (And.intro (C4.out.2.1.kept gr5) (And.intro (C4.out.2.2.kept gr5) d5))); obtain ⟨px5, cx5, rfl, -⟩ := d5; clear gr5) | (go_at_call 19; refine (fromD (B2.out _ C3.out.1).1).mono ?_; rintro en t4 ⟨x4, rfl, d4, gr4⟩; have q0 := (CC.out _ (C3.out.1.trans gr4)).1; have C4 := Lz (And.intro (C3.out.1.trans gr4) (And.intro (C3.out.2.kept gr4) d4)); obtain ⟨px4, cx4, rfl, -⟩ := d4; clear gr4) | (go_at_call 24; refine (constD HF.out _).mono ?_; rintro en t3 ⟨x3, rfl, d3, gr3⟩; have q0 := (CC.out _ (C2.out.trans gr3)).1; have C3 := Lz (And.intro (C2.out.trans gr3) d3); obtain ⟨px3, cx3, rfl, -⟩ := d3; clear gr3) | (go_at_call 26; refine (sameD EQ.out.2 (B2.out _ C1.out).2.1 (B2.out _ C1.out).2.2.2).mono ?_; rintro en t2 ⟨rfl, gr2⟩; have q0 := (CC.out _ (C1.out.trans gr2)).1; have C2 := Lz (C1.out.trans gr2); clear gr2) | (go_at_call 26; refine (sameD EQ.out.1 (B2.out _ (zzz w14 _ .none)).1 (B2.out _ (zzz w14 _ .none)).2.2.1).mono ?_; rintro en t1 ⟨rfl, gr1⟩; have q0 := (CC.out _ ((zzz w14 _ .none).trans gr1)).1; have C1 := Lz ((zzz w14 _ .none).trans gr1); clear gr1))
 have HE := Lz (HS0.out.1.turned (S14.out.1.trans (Grow.none C6.out _)))
 go_wp2_with fail
 go_ret
 exact ⟨rfl, HE.out⟩
end
end Go.Proofs.YtohhkjamddojmaaGreatDoor.Bit
