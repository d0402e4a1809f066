/- The four curves by name. Bytes of numbers in memory; greats: two Ints as bytes; NamedMult. NamedMult. NamedMult, the whole. -/
import Derived.Test.YtohhkjamddojmaaGreatDoorSN
import Derived.Test.YtohhkjamddojmaaGreatDoorQJ
import Derived.Test.YtohhkjamddojmaaGreatDoorTH
set_option maxHeartbeats 16000000
namespace Go.Proofs.YtohhkjamddojmaaGreatDoor.Bit
open Go.RowKit
open Big EcLaw
attribute [local go_sem] ptr
section
variable {R : Nat → Prop} {w0 w : World} {L : List (Nat × Int)}
set_option maxRecDepth 100000 in
theorem S160 (h : Own R w0 w L) (ae : Addr) (he : w.cell? ⟨2, 0, .none⟩ = some (eofV ae)) : Calls Tryz.prog 98 #[] w (CurveC R w L nums160 160) := by
 have C := Lz (init160 h ae he)
 clear h he
 go_enter Tryz.func98, Tryz.ntmps98
 go_wp2_with fail
 refine C.out.mono ?_
 rintro e w1 hc
 obtain ⟨c, zP, zN, zB, zX, zY, nm, rfl, h1⟩ := id hc
 have HC := Lz hc
 clear hc h1
 unfold ptr
 go_wp2_with fail
 go_ret
 exact HC.out
set_option maxRecDepth 100000 in
theorem named160 (h : Own R w0 w L) (ae : Addr) (he : w.cell? ⟨2, 0, .none⟩ = some (eofV ae)) : Calls Tryz.prog 56 #[.int .i64 160] w (CurveC R w L nums160 160) := by
 have C := Lz (S160 h ae he)
 clear h he
 go_enter Tryz.func56, Tryz.ntmps56
 go_wp2_with fail
 refine C.out.mono ?_
 rintro e w1 hc
 obtain ⟨c, zP, zN, zB, zX, zY, nm, rfl, h1⟩ := id hc
 have HC := Lz hc
 clear hc h1
 unfold ptr
 go_wp2_with fail
 go_ret
 exact HC.out
set_option maxRecDepth 100000 in
theorem S192 (h : Own R w0 w L) (ae : Addr) (he : w.cell? ⟨2, 0, .none⟩ = some (eofV ae)) : Calls Tryz.prog 99 #[] w (CurveC R w L nums192 192) := by
 have C := Lz (init192 h ae he)
 clear h he
 go_enter Tryz.func99, Tryz.ntmps99
 go_wp2_with fail
 refine C.out.mono ?_
 rintro e w1 hc
 obtain ⟨c, zP, zN, zB, zX, zY, nm, rfl, h1⟩ := id hc
 have HC := Lz hc
 clear hc h1
 unfold ptr
 go_wp2_with fail
 go_ret
 exact HC.out
set_option maxRecDepth 100000 in
theorem named192 (h : Own R w0 w L) (ae : Addr) (he : w.cell? ⟨2, 0, .none⟩ = some (eofV ae)) : Calls Tryz.prog 56 #[.int .i64 192] w (CurveC R w L nums192 192) := by
 have C := Lz (S192 h ae he)
 clear h he
 go_enter Tryz.func56, Tryz.ntmps56
 go_wp2_with fail
 refine C.out.mono ?_
 rintro e w1 hc
 obtain ⟨c, zP, zN, zB, zX, zY, nm, rfl, h1⟩ := id hc
 have HC := Lz hc
 clear hc h1
 unfold ptr
 go_wp2_with fail
 go_ret
 exact HC.out
set_option maxRecDepth 100000 in
theorem S224 (h : Own R w0 w L) (ae : Addr) (he : w.cell? ⟨2, 0, .none⟩ = some (eofV ae)) : Calls Tryz.prog 100 #[] w (CurveC R w L nums224 224) := by
 have C := Lz (init224 h ae he)
 clear h he
 go_enter Tryz.func100, Tryz.ntmps100
 go_wp2_with fail
 refine C.out.mono ?_
 rintro e w1 hc
 obtain ⟨c, zP, zN, zB, zX, zY, nm, rfl, h1⟩ := id hc
 have HC := Lz hc
 clear hc h1
 unfold ptr
 go_wp2_with fail
 go_ret
 exact HC.out
set_option maxRecDepth 100000 in
theorem named224 (h : Own R w0 w L) (ae : Addr) (he : w.cell? ⟨2, 0, .none⟩ = some (eofV ae)) : Calls Tryz.prog 56 #[.int .i64 224] w (CurveC R w L nums224 224) := by
 have C := Lz (S224 h ae he)
 clear h he
 go_enter Tryz.func56, Tryz.ntmps56
 go_wp2_with fail
 refine C.out.mono ?_
 rintro e w1 hc
 obtain ⟨c, zP, zN, zB, zX, zY, nm, rfl, h1⟩ := id hc
 have HC := Lz hc
 clear hc h1
 unfold ptr
 go_wp2_with fail
 go_ret
 exact HC.out
set_option maxRecDepth 100000 in
theorem S256 (h : Own R w0 w L) (ae : Addr) (he : w.cell? ⟨2, 0, .none⟩ = some (eofV ae)) : Calls Tryz.prog 101 #[] w (CurveC R w L nums256 256) := by
 have C := Lz (init256 h ae he)
 clear h he
 go_enter Tryz.func101, Tryz.ntmps101
 go_wp2_with fail
 refine C.out.mono ?_
 rintro e w1 hc
 obtain ⟨c, zP, zN, zB, zX, zY, nm, rfl, h1⟩ := id hc
 have HC := Lz hc
 clear hc h1
 unfold ptr
 go_wp2_with fail
 go_ret
 exact HC.out
set_option maxRecDepth 100000 in
theorem named256 (h : Own R w0 w L) (ae : Addr) (he : w.cell? ⟨2, 0, .none⟩ = some (eofV ae)) : Calls Tryz.prog 56 #[.int .i64 256] w (CurveC R w L nums256 256) := by
 have C := Lz (S256 h ae he)
 clear h he
 go_enter Tryz.func56, Tryz.ntmps56
 go_wp2_with fail
 refine C.out.mono ?_
 rintro e w1 hc
 obtain ⟨c, zP, zN, zB, zX, zY, nm, rfl, h1⟩ := id hc
 have HC := Lz hc
 clear hc h1
 unfold ptr
 go_wp2_with fail
 go_ret
 exact HC.out
inductive Four : Nat → Nums → Prop
 | c160 : Four 160 nums160
 | c192 : Four 192 nums192
 | c224 : Four 224 nums224
 | c256 : Four 256 nums256
theorem Four.grp {b : Nat} {cu : Nums} (h : Four b cu) : Grp cu := by
 cases h
 · exact grp160
 · exact grp192
 · exact grp224
 · exact grp256
theorem namedO {b : Nat} {cu : Nums} (hf : Four b cu) (h : Own R w0 w L) (ae : Addr) (he : w.cell? ⟨2, 0, .none⟩ = some (eofV ae)) : Calls Tryz.prog 56 #[.int .i64 (b : Nat)] w (CurveC R w L cu b) := by
 cases hf
 · exact named160 h ae he
 · exact named192 h ae he
 · exact named224 h ae he
 · exact named256 h ae he
end
end Go.Proofs.YtohhkjamddojmaaGreatDoor.Bit

set_option maxHeartbeats 16000000
namespace Go.Proofs.YtohhkjamddojmaaGreatDoor.Bit
open Go.RowKit
open Big EcLaw
attribute [local go_sem] ptr
attribute [local irreducible] Sz
section
variable {R : Nat → Prop} {w0 w w' : World} {L L' : List (Nat × Int)}
def Sl (w : World) (g o : Nat) (ks : List Nat) : Prop := (∀ i, i < ks.length → w.cell? ⟨g, o + i, .none⟩ = some (.int .u8 (ks.getD i 0 : Nat))) ∧ (∀ i, ks.getD i 0 < 256) ∧ ks.length ≤ 700000 ∧ g < w.heap.size
theorem Sl.kept {g o : Nat} {ks : List Nat} (h : Sl w g o ks) (k : Kept R w w') (hR : R g) : Sl w' g o ks := ⟨fun i hi => k.cell hR (h.1 i hi), h.2.1, h.2.2.1, Nat.lt_of_lt_of_le h.2.2.2 k.size⟩
def ByV (w : World) (g : Nat) (v : Value) (n : Nat) : Prop := ∃ o ks, v = .slice (some ⟨g, o, .none⟩) ks.length ks.length ∧ Sl w g o ks ∧ bev ks = n ∧ (0 < ks.length → ks.getD 0 0 ≠ 0)
theorem ByV.kept {g n : Nat} {v : Value} (h : ByV w g v n) (k : Kept R w w') (hR : R g) : ByV w' g v n := by
 obtain ⟨o, ks, e, hs, h1, h2⟩ := h
 exact ⟨o, ks, e, hs.kept k hR, h1, h2⟩
theorem ByV.of {n g o : Nat} {ks : List Nat} (h2 : Own (RO R g) w w L) (h3 : ∀ i, i < ks.length → w.cell? ⟨g, o + i, .none⟩ = some (.int .u8 (ks.getD i 0 : Nat))) (h4 : ∀ i, ks.getD i 0 < 256) (h5 : bev ks = n) (h6 : 0 < ks.length → ks.getD 0 0 ≠ 0) (h7 : ks.length ≤ 700000) :
 ByV w g (.slice (some ⟨g, o, .none⟩) ks.length ks.length) n := ⟨o, ks, rfl, ⟨h3, h4, h7, h2.old (RO.self _ _)⟩, h5, h6⟩
theorem catch_idle2 (a b c : Addr) (w : World) :
 CallsD Tryz.prog 103 #[.pointer (some a), .pointer (some b), .pointer (some c)] .returning w fun e u' w' => e = .returned (.tuple #[]) ∧ u' = .returning ∧ w' = w := by
 refine callsD_of_wpS Tryz.func103 rfl fun c₀ cs hu => ?_
 apply wpS_seq
 apply wpS_region
 simp [wpOpsS, go_sem, recoverD, hu, Tryz.ntmps103, Exit.thenS]
 refine wpS_cond (t := false) (by simp [Act.eval, Array.replicate]) ?_
 simp only [Bool.false_eq_true, if_false]
 refine wpS_of_wp (wp_skip ?_)
 cases c₀
 simp_all [bodyPostS, results, Tryz.results103]
def GreatP (R : Nat → Prop) (w : World) (Post : Nat → Nat → Prop) (e : Ending) (w' : World) : Prop :=
 ∃ X Y vx vy gx gy, e = .returned (.tuple #[vx, vy, .bool true]) ∧ Post X Y ∧ Kept R w w' ∧ Own R w' w' [] ∧ ByV w' gx vx X ∧ ByV w' gy vy Y ∧ w.heap.size ≤ gx ∧ w.heap.size ≤ gy
theorem dg_four {n : Nat} (h : n < B64 ^ 4) : (dg n).length ≤ 10000 := by
 have : (dg n).length ≤ 4 := by
  apply Nat.le_of_not_lt
  intro e
  have h0 : n ≠ 0 := fun e0 => by rw [e0] at e; simp [dg] at e
  have := dg_last h0
  have : B64 ^ 4 ≤ B64 ^ ((dg n).length - 1) := Nat.pow_le_pow_right (by decide) (by omega)
  omega
 omega
set_option maxRecDepth 100000 in
theorem great59 (h : Own R w0 w L) (cap : Array Value) (Post : Nat → Nat → Prop)
 (hF : ∀ w1, Own (RO (RO (RO R w.heap.size) (w.heap.size + 1)) (w.heap.size + 1 + 1)) w1 w1 L → Kept R w w1 → Calls Tryz.prog 59 cap w1 (fun e w' => ∃ (tx ty X Y : Nat) (M : List (Nat × Int)), e = .returned (.tuple #[ptr tx, ptr ty]) ∧ Own (RO (RO (RO R w.heap.size) (w.heap.size + 1)) (w.heap.size + 1 + 1)) w1 w' ((ty, (Y : Int)) :: (tx, (X : Int)) :: M) ∧ X < B64 ^ 4 ∧ Y < B64 ^ 4 ∧ Post X Y)) :
 Calls Tryz.prog 58 #[.func (.func 59) #[] cap] w (GreatP R w Post) := by
 have hmf : ∀ (fn : Fn) (first cap : Array Value) (w : World), (Instr.makeFunc fn first cap).run Tryz.prog w = .ok (.func fn first cap) w := fun _ _ _ _ => rfl
 have g1 := h.guard (.cells #[.slice .none 0 0] 25)
 have g2 := g1.guard (.cells #[.slice .none 0 0] 25)
 have g3 := g2.guard (.cells #[.bool false] 4)
 have e1 := g1.box (.cells #[.slice .none 0 0] 25)
 have e2 := g2.box (.cells #[.bool false] 4)
 have e0 := h.box (.cells #[.slice .none 0 0] 25)
 have k3 := (((h.since.box (.cells #[.slice .none 0 0] 25)).box (.cells #[.slice .none 0 0] 25)).box (.cells #[.bool false] 4)).kept
 have n0 := heap_alloc_new w (.cells #[.slice .none 0 0] 25)
 have n1 := heap_alloc_new (w.alloc (.cells #[.slice .none 0 0] 25)) (.cells #[.slice .none 0 0] 25)
 have n2 := heap_alloc_new ((w.alloc (.cells #[.slice .none 0 0] 25)).alloc (.cells #[.slice .none 0 0] 25)) (.cells #[.bool false] 4)
 have s1 : (w.alloc (.cells #[.slice .none 0 0] 25)).heap.size = w.heap.size + 1 := Array.size_push _
 have s2 : ((w.alloc (.cells #[.slice .none 0 0] 25)).alloc (.cells #[.slice .none 0 0] 25)).heap.size = w.heap.size + 1 + 1 := by
  show (Array.push _ _).size = _
  rw [Array.size_push, s1]
 have s3 : (((w.alloc (.cells #[.slice .none 0 0] 25)).alloc (.cells #[.slice .none 0 0] 25)).alloc (.cells #[.bool false] 4)).heap.size = w.heap.size + 1 + 1 + 1 := by
  show (Array.push _ _).size = _
  rw [Array.size_push, s2]
 rw [s1] at g2 g3 n1 e2
 rw [s2] at g3 n2
 have m1 := e2.block n1 (RO.self _ _)
 have m0 := e1.block n0 (RO.self _ _)
 have m0' := e2.block m0 (.inl (RO.self _ _))
 have f0 : ¬ R w.heap.size := h.fresh
 have f1 : ¬ R (w.heap.size + 1) := by have := e0.fresh; rwa [s1] at this
 have f2 : ¬ R (w.heap.size + 1 + 1) := by have := (e0.box (.cells #[.slice .none 0 0] 25)).fresh; rwa [s2] at this
 have HFR := Lz (And.intro f0 (And.intro f1 (And.intro f2 (And.intro s3 k3))))
 have BL := Lz (And.intro m0' (And.intro m1 n2))
 have HS0 := Lz h
 have C3 := Lz (hF _ g3 k3)
 clear h hF g1 g2 g3 s1 s2 s3 e0 e1 e2 k3 n0 n1 n2 m0 m0' m1 f0 f1 f2
 go_enter_defers Tryz.func58, Tryz.ntmps58
 go_wp2_with fail
 refine C3.out.mono ?_
 rintro e w1 ⟨tx, ty, X, Y, M, rfl, hO, hX, hY, hP⟩
 have I := Lz (intBytesN hO.since 1 X rfl (dg_four hX))
 have J := Lz (fun w2 (g : Nat) (o : Own (RO (RO (RO (RO R w.heap.size) (w.heap.size + 1)) (w.heap.size + 1 + 1)) g) w2 w2 (((ty, (Y : Int)) : Nat × Int) :: (tx, (X : Int)) :: M)) => intBytesN o 0 Y rfl (dg_four hY))
 have HO := Lz hO
 have HP := Lz hP
 have HX := Lz (And.intro hX hY)
 clear hO hX hY hP C3
 unfold ptr at *
 go_wp2_with fail
 refine I.out.mono ?_
 rintro e w2 ⟨g, o, ks, rfl, a1, a2, a3, a4, a5, a6, a7, a8⟩
 have HA := Lz (And.intro a1 (And.intro a2 (And.intro (ByV.of a2 a3 a4 a5 a6 (by have := dg_four HX.out.1; omega)) a8)))
 clear I a1 a2 a3 a4 a5 a6 a7 a8
 go_wp2_with fail
 refine (J.out _ _ HA.out.2.1).mono ?_
 rintro e w3 ⟨g', o', ks', rfl, a1, a2, a3, a4, a5, a6, a7, a8⟩
 have HB := Lz (And.intro a1 (And.intro a2 (And.intro (ByV.of a2 a3 a4 a5 a6 (by have := dg_four HX.out.2; omega)) a8)))
 clear J a1 a2 a3 a4 a5 a6 a7 a8
 have B0 := HB.out.1.block (HA.out.1.block (HO.out.block BL.out.1 (.inl (.inl (RO.self _ _)))) (.inl (.inl (RO.self _ _)))) (.inl (.inl (.inl (RO.self _ _))))
 have B1 := HB.out.1.block (HA.out.1.block (HO.out.block BL.out.2.1 (.inl (RO.self _ _))) (.inl (RO.self _ _))) (.inl (.inl (RO.self _ _)))
 have B2 := HB.out.1.block (HA.out.1.block (HO.out.block BL.out.2.2 (RO.self _ _)) (RO.self _ _)) (.inl (RO.self _ _))
 obtain ⟨⟨q0, q1⟩, ⟨q2, q3⟩, ⟨q4, q5⟩, q6, q7, q8⟩ := three (X := .slice (some ⟨g, o, .none⟩) ks.length ks.length) (Y := .slice (some ⟨g', o', .none⟩) ks'.length ks'.length) (Z := .bool true) B0 B1 B2
 go_wp2_with fail
 refine leaves_cons (f := 103) (args := #[.pointer (some ⟨w.heap.size, 0, .none⟩), .pointer (some ⟨w.heap.size + 1, 0, .none⟩), .pointer (some ⟨w.heap.size + 1 + 1, 0, .none⟩)]) (by simp) (by simp [go_sem]) ?_
 refine (catch_idle2 _ _ _ _).mono ?_
 rintro e u' w'' ⟨rfl, rfl, rfl⟩
 obtain ⟨f0, f1, f2, s3, k3⟩ := HFR.out
 have z1 : w.heap.size + 1 + 1 + 1 ≤ g := by have := HO.out.kept.size; rw [s3] at this; exact Nat.le_trans this HA.out.2.2.2
 have z2 : w.heap.size + 1 + 1 + 1 ≤ g' := by have := HO.out.kept.size; rw [s3] at this; have := HA.out.1.kept.size; have := HB.out.2.2.2; omega
 have KK : Kept (RO (RO R g) g') w3 (((w3.setCell ⟨w.heap.size, 0, .none⟩ (.slice (some ⟨g, o, .none⟩) ks.length ks.length)).setCell ⟨w.heap.size + 1, 0, .none⟩ (.slice (some ⟨g', o', .none⟩) ks'.length ks'.length)).setCell ⟨w.heap.size + 1 + 1, 0, .none⟩ (.bool true)) :=
  ((kept_set (RO.not (RO.not f0 (by omega)) (by omega))).trans (kept_set (RO.not (RO.not f1 (by omega)) (by omega)))).trans (kept_set (RO.not (RO.not f2 (by omega)) (by omega)))
 have kAll : Kept R w w3 := k3.trans ((HO.out.kept.weaken (fun _ _ hn hk => hn (.inl (.inl (.inl hk))))).trans ((HA.out.1.kept.weaken (fun _ _ hn hk => hn (.inl (.inl (.inl hk))))).trans (HB.out.1.kept.weaken (fun _ _ hn hk => hn (.inl (.inl (.inl (.inl hk))))))))
 have kEnd := kAll.trans (KK.weaken (fun _ _ hn hk => hn (.inl (.inl hk))))
 have hW := (HS0.out.turned kEnd).since
 have v1 := (HA.out.2.2.1.kept HB.out.1.kept (RO.self _ _)).kept KK (.inl (RO.self _ _))
 have v2 := HB.out.2.2.1.kept KK (RO.self _ _)
 have hP := HP.out
 simp [Leaves, settle, results, Tryz.results58, go_sem, q6, q7, q8]
 exact ⟨X, Y, _, _, g, g', rfl, hP, kEnd, hW, v1, v2, by omega, by omega⟩
set_option maxRecDepth 100000 in
theorem great70 (h : Own R w0 w L) (cap : Array Value) (Post : Nat → Nat → Prop)
 (hF : ∀ w1, Own (RO (RO (RO R w.heap.size) (w.heap.size + 1)) (w.heap.size + 1 + 1)) w1 w1 L → Kept R w w1 → Calls Tryz.prog 70 cap w1 (fun e w' => ∃ (tx ty X Y : Nat) (M : List (Nat × Int)), e = .returned (.tuple #[ptr tx, ptr ty]) ∧ Own (RO (RO (RO R w.heap.size) (w.heap.size + 1)) (w.heap.size + 1 + 1)) w1 w' ((ty, (Y : Int)) :: (tx, (X : Int)) :: M) ∧ X < B64 ^ 4 ∧ Y < B64 ^ 4 ∧ Post X Y)) :
 Calls Tryz.prog 58 #[.func (.func 70) #[] cap] w (GreatP R w Post) := by
 have hmf : ∀ (fn : Fn) (first cap : Array Value) (w : World), (Instr.makeFunc fn first cap).run Tryz.prog w = .ok (.func fn first cap) w := fun _ _ _ _ => rfl
 have g1 := h.guard (.cells #[.slice .none 0 0] 25)
 have g2 := g1.guard (.cells #[.slice .none 0 0] 25)
 have g3 := g2.guard (.cells #[.bool false] 4)
 have e1 := g1.box (.cells #[.slice .none 0 0] 25)
 have e2 := g2.box (.cells #[.bool false] 4)
 have e0 := h.box (.cells #[.slice .none 0 0] 25)
 have k3 := (((h.since.box (.cells #[.slice .none 0 0] 25)).box (.cells #[.slice .none 0 0] 25)).box (.cells #[.bool false] 4)).kept
 have n0 := heap_alloc_new w (.cells #[.slice .none 0 0] 25)
 have n1 := heap_alloc_new (w.alloc (.cells #[.slice .none 0 0] 25)) (.cells #[.slice .none 0 0] 25)
 have n2 := heap_alloc_new ((w.alloc (.cells #[.slice .none 0 0] 25)).alloc (.cells #[.slice .none 0 0] 25)) (.cells #[.bool false] 4)
 have s1 : (w.alloc (.cells #[.slice .none 0 0] 25)).heap.size = w.heap.size + 1 := Array.size_push _
 have s2 : ((w.alloc (.cells #[.slice .none 0 0] 25)).alloc (.cells #[.slice .none 0 0] 25)).heap.size = w.heap.size + 1 + 1 := by
  show (Array.push _ _).size = _
  rw [Array.size_push, s1]
 have s3 : (((w.alloc (.cells #[.slice .none 0 0] 25)).alloc (.cells #[.slice .none 0 0] 25)).alloc (.cells #[.bool false] 4)).heap.size = w.heap.size + 1 + 1 + 1 := by
  show (Array.push _ _).size = _
  rw [Array.size_push, s2]
 rw [s1] at g2 g3 n1 e2
 rw [s2] at g3 n2
 have m1 := e2.block n1 (RO.self _ _)
 have m0 := e1.block n0 (RO.self _ _)
 have m0' := e2.block m0 (.inl (RO.self _ _))
 have f0 : ¬ R w.heap.size := h.fresh
 have f1 : ¬ R (w.heap.size + 1) := by have := e0.fresh; rwa [s1] at this
 have f2 : ¬ R (w.heap.size + 1 + 1) := by have := (e0.box (.cells #[.slice .none 0 0] 25)).fresh; rwa [s2] at this
 have HFR := Lz (And.intro f0 (And.intro f1 (And.intro f2 (And.intro s3 k3))))
 have BL := Lz (And.intro m0' (And.intro m1 n2))
 have HS0 := Lz h
 have C3 := Lz (hF _ g3 k3)
 clear h hF g1 g2 g3 s1 s2 s3 e0 e1 e2 k3 n0 n1 n2 m0 m0' m1 f0 f1 f2
 go_enter_defers Tryz.func58, Tryz.ntmps58
 go_wp2_with fail
 refine C3.out.mono ?_
 rintro e w1 ⟨tx, ty, X, Y, M, rfl, hO, hX, hY, hP⟩
 have I := Lz (intBytesN hO.since 1 X rfl (dg_four hX))
 have J := Lz (fun w2 (g : Nat) (o : Own (RO (RO (RO (RO R w.heap.size) (w.heap.size + 1)) (w.heap.size + 1 + 1)) g) w2 w2 (((ty, (Y : Int)) : Nat × Int) :: (tx, (X : Int)) :: M)) => intBytesN o 0 Y rfl (dg_four hY))
 have HO := Lz hO
 have HP := Lz hP
 have HX := Lz (And.intro hX hY)
 clear hO hX hY hP C3
 unfold ptr at *
 go_wp2_with fail
 refine I.out.mono ?_
 rintro e w2 ⟨g, o, ks, rfl, a1, a2, a3, a4, a5, a6, a7, a8⟩
 have HA := Lz (And.intro a1 (And.intro a2 (And.intro (ByV.of a2 a3 a4 a5 a6 (by have := dg_four HX.out.1; omega)) a8)))
 clear I a1 a2 a3 a4 a5 a6 a7 a8
 go_wp2_with fail
 refine (J.out _ _ HA.out.2.1).mono ?_
 rintro e w3 ⟨g', o', ks', rfl, a1, a2, a3, a4, a5, a6, a7, a8⟩
 have HB := Lz (And.intro a1 (And.intro a2 (And.intro (ByV.of a2 a3 a4 a5 a6 (by have := dg_four HX.out.2; omega)) a8)))
 clear J a1 a2 a3 a4 a5 a6 a7 a8
 have B0 := HB.out.1.block (HA.out.1.block (HO.out.block BL.out.1 (.inl (.inl (RO.self _ _)))) (.inl (.inl (RO.self _ _)))) (.inl (.inl (.inl (RO.self _ _))))
 have B1 := HB.out.1.block (HA.out.1.block (HO.out.block BL.out.2.1 (.inl (RO.self _ _))) (.inl (RO.self _ _))) (.inl (.inl (RO.self _ _)))
 have B2 := HB.out.1.block (HA.out.1.block (HO.out.block BL.out.2.2 (RO.self _ _)) (RO.self _ _)) (.inl (RO.self _ _))
 obtain ⟨⟨q0, q1⟩, ⟨q2, q3⟩, ⟨q4, q5⟩, q6, q7, q8⟩ := three (X := .slice (some ⟨g, o, .none⟩) ks.length ks.length) (Y := .slice (some ⟨g', o', .none⟩) ks'.length ks'.length) (Z := .bool true) B0 B1 B2
 go_wp2_with fail
 refine leaves_cons (f := 103) (args := #[.pointer (some ⟨w.heap.size, 0, .none⟩), .pointer (some ⟨w.heap.size + 1, 0, .none⟩), .pointer (some ⟨w.heap.size + 1 + 1, 0, .none⟩)]) (by simp) (by simp [go_sem]) ?_
 refine (catch_idle2 _ _ _ _).mono ?_
 rintro e u' w'' ⟨rfl, rfl, rfl⟩
 obtain ⟨f0, f1, f2, s3, k3⟩ := HFR.out
 have z1 : w.heap.size + 1 + 1 + 1 ≤ g := by have := HO.out.kept.size; rw [s3] at this; exact Nat.le_trans this HA.out.2.2.2
 have z2 : w.heap.size + 1 + 1 + 1 ≤ g' := by have := HO.out.kept.size; rw [s3] at this; have := HA.out.1.kept.size; have := HB.out.2.2.2; omega
 have KK : Kept (RO (RO R g) g') w3 (((w3.setCell ⟨w.heap.size, 0, .none⟩ (.slice (some ⟨g, o, .none⟩) ks.length ks.length)).setCell ⟨w.heap.size + 1, 0, .none⟩ (.slice (some ⟨g', o', .none⟩) ks'.length ks'.length)).setCell ⟨w.heap.size + 1 + 1, 0, .none⟩ (.bool true)) :=
  ((kept_set (RO.not (RO.not f0 (by omega)) (by omega))).trans (kept_set (RO.not (RO.not f1 (by omega)) (by omega)))).trans (kept_set (RO.not (RO.not f2 (by omega)) (by omega)))
 have kAll : Kept R w w3 := k3.trans ((HO.out.kept.weaken (fun _ _ hn hk => hn (.inl (.inl (.inl hk))))).trans ((HA.out.1.kept.weaken (fun _ _ hn hk => hn (.inl (.inl (.inl hk))))).trans (HB.out.1.kept.weaken (fun _ _ hn hk => hn (.inl (.inl (.inl (.inl hk))))))))
 have kEnd := kAll.trans (KK.weaken (fun _ _ hn hk => hn (.inl (.inl hk))))
 have hW := (HS0.out.turned kEnd).since
 have v1 := (HA.out.2.2.1.kept HB.out.1.kept (RO.self _ _)).kept KK (.inl (RO.self _ _))
 have v2 := HB.out.2.2.1.kept KK (RO.self _ _)
 have hP := HP.out
 simp [Leaves, settle, results, Tryz.results58, go_sem, q6, q7, q8]
 exact ⟨X, Y, _, _, g, g', rfl, hP, kEnd, hW, v1, v2, by omega, by omega⟩
end
end Go.Proofs.YtohhkjamddojmaaGreatDoor.Bit

set_option maxHeartbeats 16000000
namespace Go.Proofs.YtohhkjamddojmaaGreatDoor.Bit
open Go.RowKit
open Big EcLaw
attribute [local go_sem] ptr
attribute [local irreducible] Sz
section
variable {R : Nat → Prop} {w0 w w' : World} {L L' : List (Nat × Int)}
theorem nat_of_mul {c : Nums} (h : Grp c) {m : Nat} (m0 : 0 < m) (m1 : m < c.n) {U V : Int} (e : EcLaw.mul c.p 0 m c.G = .aff U V) : ∃ X Y : Nat, U = (X : Int) ∧ V = (Y : Int) ∧ X < c.p ∧ Y < c.p := by
 obtain ⟨x, y, e2, hx, hy⟩ := Grp_aff h m0 m1
 rw [e2] at e
 injection e with e3 e4
 exact ⟨x, y, e3.symm, e4.symm, hx, hy⟩
set_option maxRecDepth 100000 in
theorem namedMul1 {c : Nums} (hc : Grp c) (h : Own R w0 w L) (b0 b1 b2 b3 cc P iP gx ox gy oy kb ko kc : Nat) (xs ys ks : List Nat) (hP : L[iP]? = some (P, (c.p : Int)))
 (hc0 : w.cell? ⟨b0, 0, .none⟩ = some (ptr cc)) (hc1 : w.cell? ⟨b1, 0, .none⟩ = some (.slice (some ⟨gx, ox, .none⟩) xs.length xs.length)) (hc2 : w.cell? ⟨b2, 0, .none⟩ = some (.slice (some ⟨gy, oy, .none⟩) ys.length ys.length)) (hc3 : w.cell? ⟨b3, 0, .none⟩ = some (.slice (some ⟨kb, ko, .none⟩) ks.length kc))
 (hcP : w.cell? ⟨cc, 1, .none⟩ = some (ptr P)) (hR0 : R b0) (hR1 : R b1) (hR2 : R b2) (hR3 : R b3) (hRc : R cc) (hRx : R gx) (hRy : R gy) (hRk : R kb)
 (sx : Sl w gx ox xs) (sy : Sl w gy oy ys) (sk : Sl w kb ko ks) (ex : bev xs = c.x) (ey : bev ys = c.y) (k0 : 0 < bev ks) (k1 : bev ks < c.n) :
 Calls Tryz.prog 59 #[ptr b0, ptr b1, ptr b2, ptr b3] w (fun e w' => ∃ (tx ty X Y : Nat) (M : List (Nat × Int)), e = .returned (.tuple #[ptr tx, ptr ty]) ∧ Own R w0 w' ((ty, (Y : Int)) :: (tx, (X : Int)) :: M) ∧ X < B64 ^ 4 ∧ Y < B64 ^ 4 ∧ EcLaw.mul c.p 0 (bev ks) c.G = .aff X Y) := by
 have HSS := Lz h
 have O0 := Lz h.since
 have K5 := Lz (fun (w' : World) (k : Kept R w w') => (⟨k.cell hR0 hc0, k.cell hR1 hc1, k.cell hR2 hc2, k.cell hR3 hc3⟩ : w'.cell? ⟨b0, 0, .none⟩ = some (ptr cc) ∧ w'.cell? ⟨b1, 0, .none⟩ = some (.slice (some ⟨gx, ox, .none⟩) xs.length xs.length) ∧ w'.cell? ⟨b2, 0, .none⟩ = some (.slice (some ⟨gy, oy, .none⟩) ys.length ys.length) ∧ w'.cell? ⟨b3, 0, .none⟩ = some (.slice (some ⟨kb, ko, .none⟩) ks.length kc)))
 have HX := Lz (fun n => greatO (h.since.drew n) gx ox xs.length xs hRx (sx.kept (Kept.drew R w n) hRx).1 sx.2.1 sx.2.2.1 (Nat.le_refl _))
 have HY := Lz (fun w1 (M : List (Nat × Int)) (o : Own R w w1 M) => greatO o gy oy ys.length ys hRy (sy.kept o.kept hRy).1 sy.2.1 sy.2.2.1 (Nat.le_refl _))
 have HM := Lz (fun w1 (x y : Nat) (o : Own R w w1 ((y, (c.y : Int)) :: (x, (c.x : Int)) :: L)) => scalarB hc o cc x y P kb ko kc 1 0 (iP + 2) ks (o.keep hcP hRc) hRc rfl rfl hP hRk (sk.kept o.kept hRk).1 sk.2.1 (by have := sk.2.2.1; omega) k0 k1)
 have HN := Lz (fun U V (e : EcLaw.mul c.p 0 (bev ks) c.G = .aff U V) => nat_of_mul hc k0 k1 e)
 have HP4 := Lz (pB4 hc)
 rw [ex] at HX
 rw [ey] at HY
 clear h hP hc0 hc1 hc2 hc3 hcP hR0 hR1 hR2 hR3 hRc hRx hRy hRk sx sy sk k0 k1 hc ex ey
 have HN0 := Lz (K5.out w (Kept.refl _ _))
 obtain ⟨q0, q1, q2, q3⟩ := HN0.out
 unfold ptr at *
 go_enter Tryz.func59, Tryz.ntmps59
 go_wp2_with fail
 go_region_held3 (fun w' => w'.cell? ⟨b0, 0, .none⟩ = some (.pointer (some ⟨cc, 0, .none⟩)) ∧ w'.cell? ⟨b1, 0, .none⟩ = some (.slice (some ⟨gx, ox, .none⟩) xs.length xs.length) ∧ w'.cell? ⟨b2, 0, .none⟩ = some (.slice (some ⟨gy, oy, .none⟩) ys.length ys.length) ∧ w'.cell? ⟨b3, 0, .none⟩ = some (.slice (some ⟨kb, ko, .none⟩) ks.length kc)) (go_keep) (first | (go_at_call 60; refine (HM.out _ x1 y1 N2.out).mono ?_; rintro en w9 ⟨tx, ty, U, V, rfl, hq, e1, e2, hs⟩; obtain ⟨q0, q1, q2, q3⟩ := K5.out _ hq.kept; have H9 := Lz hq; have HB := Lz hs; clear hq e1 e2 hs) | (go_at_call 61; refine (HY.out _ _ N1.out).mono ?_; rintro en v2 ⟨y1, rfl, hq, e1⟩; obtain ⟨q0, q1, q2, q3⟩ := K5.out _ hq.kept; have N2 := Lz hq; clear hq e1) | (go_at_call 61; refine (HX.out _).mono ?_; rintro en v1 ⟨x1, rfl, hq, e1⟩; obtain ⟨q0, q1, q2, q3⟩ := K5.out _ hq.kept; have N1 := Lz hq; clear hq e1))
 all_goals
  obtain ⟨X, Y, eU, eV, hX, hY⟩ := HN.out _ _ HB.out
  have HF := Lz HB.out
  rw [eU, eV] at HF
  subst eU eV
  have HO := Lz (HSS.out.after H9.out)
  have HL := Lz (And.intro (Nat.lt_trans hX HP4.out) (Nat.lt_trans hY HP4.out))
  clear hX hY HB H9 HX HY HM HN HP4 K5 O0
  go_wp2_with fail
  go_ret2
  exact ⟨tx, ty, X, Y, _, rfl, HO.out, HL.out.1, HL.out.2, HF.out⟩
end
end Go.Proofs.YtohhkjamddojmaaGreatDoor.Bit

set_option maxHeartbeats 16000000
namespace Go.Proofs.YtohhkjamddojmaaGreatDoor.Bit
open Go.RowKit
open Big EcLaw
attribute [local go_sem] ptr
attribute [local irreducible] Sz
section
variable {R : Nat → Prop} {w0 w w' : World} {L L' : List (Nat × Int)}
structure CurveB (R : Nat → Prop) (w w' : World) (c : Nums) (k : Nat → Prop) (b cc zP zN zB zX zY : Nat) : Prop where
 own : Own k w' w' [(zY, (c.y : Int)), (zX, (c.x : Int)), (zB, (c.b : Int)), (zN, (c.n : Int)), (zP, (c.p : Int))]
 kept : Kept R w w'
 cP : w'.cell? ⟨cc, 1, .none⟩ = some (ptr zP)
 cb : w'.cell? ⟨b, 0, .none⟩ = some (ptr cc)
 kb : k b
 kc : k cc
 mono : ∀ i, R i → k i
theorem CurveB.of {c : Nums} {bits cc zP zN zB zX zY : Nat} {nm : Value} (h1 : Own (RO R cc) w' w' ((zY, (c.y : Int)) :: (zX, (c.x : Int)) :: (zB, (c.b : Int)) :: (zN, (c.n : Int)) :: (zP, (c.p : Int)) :: [])) (h2 : Kept R w w') (h3 : w'.heap[cc]? = some (.cells #[nm, ptr zP, ptr zN, ptr zB, ptr zX, ptr zY, .int .i64 (bits : Nat)] 110)) (_h4 : ¬ R cc) :
 CurveB R w (w'.alloc (.cells #[ptr cc] 106)) c (RO (RO R cc) w'.heap.size) w'.heap.size cc zP zN zB zX zY := by
 have g := h1.guard (.cells #[ptr cc] 106)
 have n0 := heap_alloc_new w' (.cells #[ptr cc] 106)
 have hb := (h1.box (.cells #[ptr cc] 106))
 exact ⟨g, h2.trans hb.kept.ro, zzj (k := 1) (h1.since.box (.cells #[ptr cc] 106) |>.block h3 (RO.self _ _)) rfl, zzj n0 rfl, RO.self _ _, .inl (RO.self _ _), fun i hi => .inl (.inl hi)⟩
set_option maxRecDepth 100000 in
theorem namedMultO {bits : Nat} {c : Nums} (hf : Four bits c) (h : Own R w0 w []) (ae : Addr) (he : w.cell? ⟨2, 0, .none⟩ = some (eofV ae)) (gx gy : Nat) (vx vy : Value) (kb ko kc : Nat) (ks : List Nat) (bx : ByV w gx vx c.x) (by_ : ByV w gy vy c.y) (hRx : R gx) (hRy : R gy) (sk : Sl w kb ko ks) (hRk : R kb) (k0 : 0 < bev ks) (k1 : bev ks < c.n) :
 Calls Tryz.prog 16 #[.int .i64 (bits : Nat), vx, vy, .slice (some ⟨kb, ko, .none⟩) ks.length kc] w (GreatP R w (fun X Y => EcLaw.mul c.p 0 (bev ks) c.G = .aff X Y)) := by
 obtain ⟨ox, xs, rfl, sx, ex, zx⟩ := bx
 obtain ⟨oy, ys, rfl, sy, ey, zy⟩ := by_
 have hmf : ∀ (fn : Fn) (first cap : Array Value) (w : World), (Instr.makeFunc fn first cap).run Tryz.prog w = .ok (.func fn first cap) w := fun _ _ _ _ => rfl
 have e0 := h.since.box (.cells #[.slice (some ⟨gx, ox, .none⟩) xs.length xs.length] 25)
 have g1 := h.guard (.cells #[.slice (some ⟨gx, ox, .none⟩) xs.length xs.length] 25)
 have n0 := heap_alloc_new w (.cells #[.slice (some ⟨gx, ox, .none⟩) xs.length xs.length] 25)
 have g2 := g1.guard (.cells #[.slice (some ⟨gy, oy, .none⟩) ys.length ys.length] 25)
 have e1 := g1.box (.cells #[.slice (some ⟨gy, oy, .none⟩) ys.length ys.length] 25)
 have n1 := heap_alloc_new (w.alloc (.cells #[.slice (some ⟨gx, ox, .none⟩) xs.length xs.length] 25)) (.cells #[.slice (some ⟨gy, oy, .none⟩) ys.length ys.length] 25)
 have s1 : (w.alloc (.cells #[.slice (some ⟨gx, ox, .none⟩) xs.length xs.length] 25)).heap.size = w.heap.size + 1 := Array.size_push _
 have s2 : ((w.alloc (.cells #[.slice (some ⟨gx, ox, .none⟩) xs.length xs.length] 25)).alloc (.cells #[.slice (some ⟨gy, oy, .none⟩) ys.length ys.length] 25)).heap.size = w.heap.size + 1 + 1 := by
  show (Array.push _ _).size = _
  rw [Array.size_push, s1]
 have g3 := g2.guard (.cells #[.slice (some ⟨kb, ko, .none⟩) ks.length kc] 25)
 have e2 := g2.box (.cells #[.slice (some ⟨kb, ko, .none⟩) ks.length kc] 25)
 have n2 := heap_alloc_new ((w.alloc (.cells #[.slice (some ⟨gx, ox, .none⟩) xs.length xs.length] 25)).alloc (.cells #[.slice (some ⟨gy, oy, .none⟩) ys.length ys.length] 25)) (.cells #[.slice (some ⟨kb, ko, .none⟩) ks.length kc] 25)
 rw [s1] at g2 g3 n1 e2
 rw [s2] at g3 n2
 have m1 := e2.block n1 (RO.self _ _)
 have m0 := e1.block n0 (RO.self _ _)
 have m0' := e2.block m0 (.inl (RO.self _ _))
 have k3 := (((h.since.box (.cells #[.slice (some ⟨gx, ox, .none⟩) xs.length xs.length] 25)).box (.cells #[.slice (some ⟨gy, oy, .none⟩) ys.length ys.length] 25)).box (.cells #[.slice (some ⟨kb, ko, .none⟩) ks.length kc] 25)).kept
 have hl2 : R 2 := h.low 2 (by omega)
 have C := Lz (namedO hf g3 ae (k3.cell hl2 he))
 have F := Lz (fun (w2 : World) (K : Nat → Prop) (b cc zP zN zB zX zY : Nat) (B : CurveB (RO (RO (RO R w.heap.size) (w.heap.size + 1)) (w.heap.size + 1 + 1)) (((w.alloc (.cells #[.slice (some ⟨gx, ox, .none⟩) xs.length xs.length] 25)).alloc (.cells #[.slice (some ⟨gy, oy, .none⟩) ys.length ys.length] 25)).alloc (.cells #[.slice (some ⟨kb, ko, .none⟩) ks.length kc] 25)) w2 c K b cc zP zN zB zX zY) =>
  great59 B.own #[.pointer (some ⟨b, 0, .none⟩), .pointer (some ⟨w.heap.size, 0, .none⟩), .pointer (some ⟨w.heap.size + 1, 0, .none⟩), .pointer (some ⟨w.heap.size + 1 + 1, 0, .none⟩)] (fun X Y => EcLaw.mul c.p 0 (bev ks) c.G = .aff X Y) (fun w1 o k =>
   have kk : Kept R w w1 := k3.trans ((B.kept.ro.ro.ro).trans (k.weaken (fun _ _ hn hk => hn (B.mono _ (.inl (.inl (.inl hk)))))))
   have hin : ∀ i, R i → RO (RO (RO K w2.heap.size) (w2.heap.size + 1)) (w2.heap.size + 1 + 1) i := fun i hi => .inl (.inl (.inl (B.mono _ (.inl (.inl (.inl hi))))))
   namedMul1 hf.grp o b w.heap.size (w.heap.size + 1) (w.heap.size + 1 + 1) cc zP 4 gx ox gy oy kb ko kc xs ys ks rfl
    (k.cell B.kb B.cb) (k.cell (B.mono _ (.inl (.inl (RO.self _ _)))) (B.kept.cell (.inl (.inl (RO.self _ _))) (zzj m0' rfl))) (k.cell (B.mono _ (.inl (RO.self _ _))) (B.kept.cell (.inl (RO.self _ _)) (zzj m1 rfl))) (k.cell (B.mono _ (RO.self _ _)) (B.kept.cell (RO.self _ _) (zzj n2 rfl)))
    (k.cell B.kc B.cP) (.inl (.inl (.inl B.kb))) (.inl (.inl (.inl (B.mono _ (.inl (.inl (RO.self _ _))))))) (.inl (.inl (.inl (B.mono _ (.inl (RO.self _ _)))))) (.inl (.inl (.inl (B.mono _ (RO.self _ _))))) (.inl (.inl (.inl B.kc)))
    (hin _ hRx) (hin _ hRy) (hin _ hRk) (sx.kept kk hRx) (sy.kept kk hRy) (sk.kept kk hRk) ex ey k0 k1))
 have HE := Lz (fun (w2 w3 : World) (K : Nat → Prop) (b cc zP zN zB zX zY : Nat) (B : CurveB (RO (RO (RO R w.heap.size) (w.heap.size + 1)) (w.heap.size + 1 + 1)) (((w.alloc (.cells #[.slice (some ⟨gx, ox, .none⟩) xs.length xs.length] 25)).alloc (.cells #[.slice (some ⟨gy, oy, .none⟩) ys.length ys.length] 25)).alloc (.cells #[.slice (some ⟨kb, ko, .none⟩) ks.length kc] 25)) w2 c K b cc zP zN zB zX zY) (e : Ending) (G : GreatP K w2 (fun X Y => EcLaw.mul c.p 0 (bev ks) c.G = .aff X Y) e w3) =>
  (show GreatP R w (fun X Y => EcLaw.mul c.p 0 (bev ks) c.G = .aff X Y) e w3 from by
   obtain ⟨X, Y, vx, vy, g, g', a1, a2, a3, a4, a5, a6, a7, a8⟩ := G
   have kk : Kept R w w3 := k3.trans ((B.kept.ro.ro.ro).trans (a3.weaken (fun _ _ hn hk => hn (B.mono _ (.inl (.inl (.inl hk)))))))
   have : w.heap.size ≤ w2.heap.size := (k3.trans B.kept.ro.ro.ro).size
   exact ⟨X, Y, vx, vy, g, g', a1, a2, kk, (h.turned kk).since, a5, a6, by omega, by omega⟩))
 clear h e0 g1 n0 g2 e1 n1 s1 s2 g3 e2 n2 m1 m0 m0' k3 hl2 he hRx hRy hRk sx sy sk ex ey zx zy k0 k1
 go_enter Tryz.func16, Tryz.ntmps16
 go_wp2_with fail
 refine C.out.mono ?_
 rintro en w1 ⟨cc, zP, zN, zB, zX, zY, nm, rfl, a1, a2, a3, a4⟩
 have HC := Lz (CurveB.of a1 a2 a3 a4)
 have q0 := zzj (k := 0) (heap_alloc_new w1 (.cells #[ptr cc] 106)) rfl
 have C2 := Lz (F.out _ _ _ _ _ _ _ _ _ HC.out)
 clear a1 a2 a3 a4 F C
 unfold ptr at *
 go_wp2_with fail
 refine C2.out.mono ?_
 rintro en w3 hq
 obtain ⟨X, Y, vx, vy, g, g', rfl, h1⟩ := id hq
 have H3 := Lz (HE.out _ _ _ _ _ _ _ _ _ _ HC.out _ hq)
 clear hq h1 C2
 go_wp2_with fail
 go_ret3
 exact H3.out
end
end Go.Proofs.YtohhkjamddojmaaGreatDoor.Bit
