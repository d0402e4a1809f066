/- A function's point as ints; a panic would be told. To a twist and back, as a user calls them. -/
import Derived.Test.YtohhkjamddojmaaGreatDoorTF
import Derived.Recover
namespace Go.Proofs.YtohhkjamddojmaaGreatDoor.Big
open Go.RowKit
attribute [local go_sem] ptr

section
variable {R : Nat → Prop} {w0 w w' : World} {L L' : List (Nat × Int)}
set_option maxHeartbeats 1000000 in
theorem intsO (h : Own R w0 w L) (i j : Nat) {x y : Nat} (X Y : Nat) (hi : L[i]? = some (x, (X : Int))) (hj : L[j]? = some (y, (Y : Int))) (hX : X < 9223372036854775808) (hY : Y < 9223372036854775808) :
    Calls Tryz.prog 116 #[ptr x, ptr y] w fun e w' => e = .returned (.tuple #[.int .i64 X, .int .i64 Y, .bool true]) ∧ w = w' := by
  have A1 := Lib.hid (isInt64O h i X hi hX)
  have A2 := Lib.hid (isInt64O h j Y hj hY)
  have B1 := Lib.hid (int64O h i X hi hX)
  have B2 := Lib.hid (int64O h j Y hj hY)
  clear h hi hj hX hY
  unfold ptr at *
  go_enter Tryz.func116, Tryz.ntmps116
  go_wp2_with fail
  refine A1.out.mono ?_
  rintro e w1 ⟨rfl, rfl⟩
  go_wp2_with fail
  refine A2.out.mono ?_
  rintro e w1 ⟨rfl, rfl⟩
  go_wp2_with fail
  refine B1.out.mono ?_
  rintro e w1 ⟨rfl, rfl⟩
  go_wp2_with fail
  refine B2.out.mono ?_
  rintro e w1 ⟨rfl, rfl⟩
  go_wp2_with fail
  go_ret3
  exact ⟨rfl, rfl⟩

theorem catch_idle (a b c : Addr) (w : World) :
    CallsD Tryz.prog 115 #[.pointer (some a), .pointer (some b), .pointer (some c)] .returning w fun e u' w' => e = .returned (.tuple #[]) ∧ u' = .returning ∧ w' = w := by
  refine callsD_of_wpS Tryz.func115 rfl fun c₀ cs hu => ?_
  apply wpS_seq
  apply wpS_region
  simp [wpOpsS, go_sem, recoverD, hu, Tryz.ntmps115, Exit.thenS]
  refine wpS_cond (t := false) (by simp [Act.eval, Array.replicate]) ?_
  simp only [Bool.false_eq_true, if_false]
  refine wpS_of_wp (wp_skip ?_)
  cases c₀
  simp_all [bodyPostS, results, Tryz.results115]
theorem Own.nil (h : Own R w0 w L) : Own R w0 w [] := h.pick [] List.nodup_nil (by intro i hi; cases hi)
theorem Own.turned (h : Own R w0 w L) (hk : Kept R w w') : Own R w0 w' [] := by
  obtain ⟨ps, qs, hf⟩ := h.ints
  exact h.step (L' := []) (zs := []) (vs := []) ⟨[], [], ⟨fun k hr => Nat.lt_of_lt_of_le (hf.old k hr) hk.size, rfl, rfl, rfl, fun i z v p q h1 => by simp at h1, fun i z p h1 => by simp at h1, fun i j z h1 => by simp at h1, fun i j p q b h1 => by simp at h1, fun i j z p h1 => by simp at h1⟩⟩ hk rfl rfl
theorem Own.fresh (h : Own R w0 w L) : ¬ R w.heap.size := fun e => by
  obtain ⟨ps, qs, hf⟩ := h.ints
  have := hf.old _ e; omega
theorem block_free {w : World} {b o : Nat} {cs : Array Value} {T : TypeId} (h : w.heap[b]? = some (.cells cs T (0, 0))) : w.frozen? ⟨b, o, .none⟩ = false := by
  unfold World.frozen?
  rw [h]
  simp

theorem set_self {w : World} {b : Nat} {v v' : Value} {T : TypeId} (h : w.heap[b]? = some (.cells #[v] T)) : (w.setCell ⟨b, 0, .none⟩ v').heap[b]? = some (.cells #[v'] T) := by
  simp only [World.setCell, Array.getElem?_modify, if_true]; rw [h]; simp
theorem set_other {w : World} {b k : Nat} {v : Value} {o : Obj} (h : w.heap[k]? = some o) (hk : k ≠ b) : (w.setCell ⟨b, 0, .none⟩ v).heap[k]? = some o := by
  rw [Below.heap_setCell w ⟨b, 0, .none⟩ v k hk, h]
theorem kept_set {R : Nat → Prop} {w : World} {b : Nat} {v : Value} (hb : ¬ R b) : Kept R w (w.setCell ⟨b, 0, .none⟩ v) := (Grow.of (grown_set w b 0 v)).weaken (fun k _ e => by cases e; exact hb)
theorem three {w : World} {b : Nat} {x y : Value} {X Y Z : Value} {z : Value} {S T U : TypeId} (h0 : w.heap[b]? = some (.cells #[x] S)) (h1 : w.heap[b + 1]? = some (.cells #[y] T)) (h2 : w.heap[b + 1 + 1]? = some (.cells #[z] U)) :
    (w.cell? ⟨b, 0, .none⟩ = some x ∧ w.frozen? ⟨b, 0, .none⟩ = false) ∧
    ((w.setCell ⟨b, 0, .none⟩ X).cell? ⟨b + 1, 0, .none⟩ = some y ∧ (w.setCell ⟨b, 0, .none⟩ X).frozen? ⟨b + 1, 0, .none⟩ = false) ∧
    (((w.setCell ⟨b, 0, .none⟩ X).setCell ⟨b + 1, 0, .none⟩ Y).cell? ⟨b + 1 + 1, 0, .none⟩ = some z ∧ ((w.setCell ⟨b, 0, .none⟩ X).setCell ⟨b + 1, 0, .none⟩ Y).frozen? ⟨b + 1 + 1, 0, .none⟩ = false) ∧
    ((((w.setCell ⟨b, 0, .none⟩ X).setCell ⟨b + 1, 0, .none⟩ Y).setCell ⟨b + 1 + 1, 0, .none⟩ Z).cell? ⟨b, 0, .none⟩ = some X ∧ (((w.setCell ⟨b, 0, .none⟩ X).setCell ⟨b + 1, 0, .none⟩ Y).setCell ⟨b + 1 + 1, 0, .none⟩ Z).cell? ⟨b + 1, 0, .none⟩ = some Y ∧ (((w.setCell ⟨b, 0, .none⟩ X).setCell ⟨b + 1, 0, .none⟩ Y).setCell ⟨b + 1 + 1, 0, .none⟩ Z).cell? ⟨b + 1 + 1, 0, .none⟩ = some Z) :=
  ⟨⟨block_cell h0 rfl, block_free h0⟩, ⟨block_cell (set_other h1 (by omega)) rfl, block_free (set_other h1 (by omega))⟩,
   ⟨block_cell (set_other (set_other h2 (by omega)) (by omega)) rfl, block_free (set_other (set_other h2 (by omega)) (by omega))⟩,
   ⟨block_cell (set_other (set_other (set_self h0) (by omega)) (by omega)) rfl, block_cell (set_other (set_self (set_other h1 (by omega))) (by omega)) rfl, block_cell (set_self (set_other (set_other h2 (by omega)) (by omega))) rfl⟩⟩
set_option maxHeartbeats 4000000 in
set_option maxRecDepth 100000 in
theorem pointTo (h : Own R w0 w []) (cap : Array Value) (Post : Nat → Nat → Prop)
    (hF : ∀ w1, Own (RO (RO (RO R w.heap.size) (w.heap.size + 1)) (w.heap.size + 1 + 1)) w1 w1 [] → Kept R w w1 → Calls Tryz.prog 75 cap w1 (fun e w' => ∃ (tx ty X Y : Nat) (M : List (Nat × Int)), e = .returned (.tuple #[ptr tx, ptr ty]) ∧ Own (RO (RO (RO R w.heap.size) (w.heap.size + 1)) (w.heap.size + 1 + 1)) w1 w' ((ty, (Y : Int)) :: (tx, (X : Int)) :: M) ∧ X < 9223372036854775808 ∧ Y < 9223372036854775808 ∧ Post X Y)) :
    Calls Tryz.prog 74 #[.func (.func 75) #[] cap] w (fun e w' => ∃ X Y : Nat, e = .returned (.tuple #[.int .i64 X, .int .i64 Y, .bool true]) ∧ Post X Y ∧ Own R w0 w' []) := by
  have hmf : ∀ (fn : Fn) (first cap : Array Value) (w : World), (Instr.makeFunc fn first cap).run Tryz.prog w = .ok (.func fn first cap) w := fun _ _ _ _ => rfl
  have g1 := h.guard (.cells #[.int .i64 0] 3)
  have g2 := g1.guard (.cells #[.int .i64 0] 3)
  have g3 := g2.guard (.cells #[.bool false] 4)
  have e1 := g1.box (.cells #[.int .i64 0] 3)
  have e2 := g2.box (.cells #[.bool false] 4)
  have e0 := h.box (.cells #[.int .i64 0] 3)
  have k3 := (((h.since.box (.cells #[.int .i64 0] 3)).box (.cells #[.int .i64 0] 3)).box (.cells #[.bool false] 4)).kept
  have n0 := heap_alloc_new w (.cells #[.int .i64 0] 3)
  have n1 := heap_alloc_new (w.alloc (.cells #[.int .i64 0] 3)) (.cells #[.int .i64 0] 3)
  have n2 := heap_alloc_new ((w.alloc (.cells #[.int .i64 0] 3)).alloc (.cells #[.int .i64 0] 3)) (.cells #[.bool false] 4)
  have s1 : (w.alloc (.cells #[.int .i64 0] 3)).heap.size = w.heap.size + 1 := Array.size_push _
  have s2 : ((w.alloc (.cells #[.int .i64 0] 3)).alloc (.cells #[.int .i64 0] 3)).heap.size = w.heap.size + 1 + 1 := by
    show (Array.push _ _).size = _
    rw [Array.size_push, s1]
  rw [s1] at g2 g3 n1 e2
  rw [s2] at g3 n2
  have m1 := e2.block n1 (RO.self _ _)
  have m0 := e1.block n0 (RO.self _ _)
  have m0' := e2.block m0 (.inl (RO.self _ _))
  have f0 : ¬ R w.heap.size := h.fresh
  have f1 : ¬ R (w.heap.size + 1) := by have := e0.fresh; rwa [s1] at this
  have f2 : ¬ R (w.heap.size + 1 + 1) := by have := (e0.box (.cells #[.int .i64 0] 3)).fresh; rwa [s2] at this
  have HFR := Lib.hid (And.intro f0 (And.intro f1 f2))
  have BL := Lib.hid (And.intro m0' (And.intro m1 n2))
  have UU : ∀ w' M, Own (RO (RO (RO R w.heap.size) (w.heap.size + 1)) (w.heap.size + 1 + 1)) (((w.alloc (.cells #[.int .i64 0] 3)).alloc (.cells #[.int .i64 0] 3)).alloc (.cells #[.bool false] 4)) w' M → Own R w0 w' M := fun w' M hh =>
    Own.unguard e0 n0 (by intro _ _ _ _ e; simp at e) (Own.unguard e1 n1 (by intro _ _ _ _ e; simp at e) (Own.unguard e2 n2 (by intro _ _ _ _ e; simp at e) hh))
  have HUU := Lib.hid UU
  have C3 := Lib.hid (hF _ g3 k3)
  clear h hF g1 g2 g3 s1 s2 e0 e1 e2 k3 n0 n1 n2 m0 m0' m1 f0 f1 f2 UU
  go_enter_defers Tryz.func74, Tryz.ntmps74
  go_wp2_with fail
  refine C3.out.mono ?_
  rintro e w1 ⟨tx, ty, X, Y, M, rfl, hO, hX, hY, hP⟩
  have B0 := hO.block BL.out.1 (.inl (.inl (RO.self _ _)))
  have B1 := hO.block BL.out.2.1 (.inl (RO.self _ _))
  have B2 := hO.block BL.out.2.2 (RO.self _ _)
  have I := Lib.hid (intsO hO 1 0 X Y rfl rfl hX hY)
  have HO := Lib.hid hO
  have HP := Lib.hid hP
  clear hO hX hY hP C3
  unfold ptr at *
  go_wp2_with fail
  refine I.out.mono ?_
  rintro e w2 ⟨rfl, rfl⟩
  clear I
  obtain ⟨⟨q0, q1⟩, ⟨q2, q3⟩, ⟨q4, q5⟩, q6, q7, q8⟩ := three (X := .int .i64 X) (Y := .int .i64 Y) (Z := .bool true) B0 B1 B2
  go_wp2_with fail
  refine leaves_cons (f := 115) (args := #[.pointer (some ⟨w.heap.size, 0, .none⟩), .pointer (some ⟨w.heap.size + 1, 0, .none⟩), .pointer (some ⟨w.heap.size + 1 + 1, 0, .none⟩)]) (by simp) (by simp [go_sem]) ?_
  refine (catch_idle _ _ _ _).mono ?_
  rintro e u' w'' ⟨rfl, rfl, rfl⟩
  obtain ⟨f0, f1, f2⟩ := HFR.out
  have hW := (HUU.out _ _ HO.out).turned (((kept_set f0).trans (kept_set f1)).trans (kept_set f2) : Kept R w1 (((w1.setCell ⟨w.heap.size, 0, .none⟩ (.int .i64 X)).setCell ⟨w.heap.size + 1, 0, .none⟩ (.int .i64 Y)).setCell ⟨w.heap.size + 1 + 1, 0, .none⟩ (.bool true)))
  have hP := HP.out
  simp [Leaves, settle, results, Tryz.results74, go_sem, q6, q7, q8]
  exact ⟨X, Y, ⟨rfl, rfl⟩, hP, hW⟩

set_option maxHeartbeats 4000000 in
set_option maxRecDepth 100000 in
theorem pointFrom (h : Own R w0 w []) (cap : Array Value) (Post : Nat → Nat → Prop)
    (hF : ∀ w1, Own (RO (RO (RO R w.heap.size) (w.heap.size + 1)) (w.heap.size + 1 + 1)) w1 w1 [] → Kept R w w1 → Calls Tryz.prog 80 cap w1 (fun e w' => ∃ (tx ty X Y : Nat) (M : List (Nat × Int)), e = .returned (.tuple #[ptr tx, ptr ty]) ∧ Own (RO (RO (RO R w.heap.size) (w.heap.size + 1)) (w.heap.size + 1 + 1)) w1 w' ((ty, (Y : Int)) :: (tx, (X : Int)) :: M) ∧ X < 9223372036854775808 ∧ Y < 9223372036854775808 ∧ Post X Y)) :
    Calls Tryz.prog 74 #[.func (.func 80) #[] cap] w (fun e w' => ∃ X Y : Nat, e = .returned (.tuple #[.int .i64 X, .int .i64 Y, .bool true]) ∧ Post X Y ∧ Own R w0 w' []) := by
  have hmf : ∀ (fn : Fn) (first cap : Array Value) (w : World), (Instr.makeFunc fn first cap).run Tryz.prog w = .ok (.func fn first cap) w := fun _ _ _ _ => rfl
  have g1 := h.guard (.cells #[.int .i64 0] 3)
  have g2 := g1.guard (.cells #[.int .i64 0] 3)
  have g3 := g2.guard (.cells #[.bool false] 4)
  have e1 := g1.box (.cells #[.int .i64 0] 3)
  have e2 := g2.box (.cells #[.bool false] 4)
  have e0 := h.box (.cells #[.int .i64 0] 3)
  have k3 := (((h.since.box (.cells #[.int .i64 0] 3)).box (.cells #[.int .i64 0] 3)).box (.cells #[.bool false] 4)).kept
  have n0 := heap_alloc_new w (.cells #[.int .i64 0] 3)
  have n1 := heap_alloc_new (w.alloc (.cells #[.int .i64 0] 3)) (.cells #[.int .i64 0] 3)
  have n2 := heap_alloc_new ((w.alloc (.cells #[.int .i64 0] 3)).alloc (.cells #[.int .i64 0] 3)) (.cells #[.bool false] 4)
  have s1 : (w.alloc (.cells #[.int .i64 0] 3)).heap.size = w.heap.size + 1 := Array.size_push _
  have s2 : ((w.alloc (.cells #[.int .i64 0] 3)).alloc (.cells #[.int .i64 0] 3)).heap.size = w.heap.size + 1 + 1 := by
    show (Array.push _ _).size = _
    rw [Array.size_push, s1]
  rw [s1] at g2 g3 n1 e2
  rw [s2] at g3 n2
  have m1 := e2.block n1 (RO.self _ _)
  have m0 := e1.block n0 (RO.self _ _)
  have m0' := e2.block m0 (.inl (RO.self _ _))
  have f0 : ¬ R w.heap.size := h.fresh
  have f1 : ¬ R (w.heap.size + 1) := by have := e0.fresh; rwa [s1] at this
  have f2 : ¬ R (w.heap.size + 1 + 1) := by have := (e0.box (.cells #[.int .i64 0] 3)).fresh; rwa [s2] at this
  have HFR := Lib.hid (And.intro f0 (And.intro f1 f2))
  have BL := Lib.hid (And.intro m0' (And.intro m1 n2))
  have UU : ∀ w' M, Own (RO (RO (RO R w.heap.size) (w.heap.size + 1)) (w.heap.size + 1 + 1)) (((w.alloc (.cells #[.int .i64 0] 3)).alloc (.cells #[.int .i64 0] 3)).alloc (.cells #[.bool false] 4)) w' M → Own R w0 w' M := fun w' M hh =>
    Own.unguard e0 n0 (by intro _ _ _ _ e; simp at e) (Own.unguard e1 n1 (by intro _ _ _ _ e; simp at e) (Own.unguard e2 n2 (by intro _ _ _ _ e; simp at e) hh))
  have HUU := Lib.hid UU
  have C3 := Lib.hid (hF _ g3 k3)
  clear h hF g1 g2 g3 s1 s2 e0 e1 e2 k3 n0 n1 n2 m0 m0' m1 f0 f1 f2 UU
  go_enter_defers Tryz.func74, Tryz.ntmps74
  go_wp2_with fail
  refine C3.out.mono ?_
  rintro e w1 ⟨tx, ty, X, Y, M, rfl, hO, hX, hY, hP⟩
  have B0 := hO.block BL.out.1 (.inl (.inl (RO.self _ _)))
  have B1 := hO.block BL.out.2.1 (.inl (RO.self _ _))
  have B2 := hO.block BL.out.2.2 (RO.self _ _)
  have I := Lib.hid (intsO hO 1 0 X Y rfl rfl hX hY)
  have HO := Lib.hid hO
  have HP := Lib.hid hP
  clear hO hX hY hP C3
  unfold ptr at *
  go_wp2_with fail
  refine I.out.mono ?_
  rintro e w2 ⟨rfl, rfl⟩
  clear I
  obtain ⟨⟨q0, q1⟩, ⟨q2, q3⟩, ⟨q4, q5⟩, q6, q7, q8⟩ := three (X := .int .i64 X) (Y := .int .i64 Y) (Z := .bool true) B0 B1 B2
  go_wp2_with fail
  refine leaves_cons (f := 115) (args := #[.pointer (some ⟨w.heap.size, 0, .none⟩), .pointer (some ⟨w.heap.size + 1, 0, .none⟩), .pointer (some ⟨w.heap.size + 1 + 1, 0, .none⟩)]) (by simp) (by simp [go_sem]) ?_
  refine (catch_idle _ _ _ _).mono ?_
  rintro e u' w'' ⟨rfl, rfl, rfl⟩
  obtain ⟨f0, f1, f2⟩ := HFR.out
  have hW := (HUU.out _ _ HO.out).turned (((kept_set f0).trans (kept_set f1)).trans (kept_set f2) : Kept R w1 (((w1.setCell ⟨w.heap.size, 0, .none⟩ (.int .i64 X)).setCell ⟨w.heap.size + 1, 0, .none⟩ (.int .i64 Y)).setCell ⟨w.heap.size + 1 + 1, 0, .none⟩ (.bool true)))
  have hP := HP.out
  simp [Leaves, settle, results, Tryz.results74, go_sem, q6, q7, q8]
  exact ⟨X, Y, ⟨rfl, rfl⟩, hP, hW⟩
end
end Go.Proofs.YtohhkjamddojmaaGreatDoor.Big

namespace Go.Proofs.YtohhkjamddojmaaGreatDoor.Big
open Go.RowKit
attribute [local go_sem] ptr
attribute [local irreducible] Sz

section
variable {R : Nat → Prop} {w0 w w' : World} {L L' : List (Nat × Int)}

set_option maxHeartbeats 4000000 in
set_option maxRecDepth 100000 in
theorem twistToO (h : Own R w0 w []) (p b z x y : Nat) (z0 : 0 < z) (zp : z < p) (bp : b < p) (p2 : 2 ≤ p) (p63 : p < 9223372036854775808) (hgc : Int.gcd z p = 1) (hX : x < p) (hY : y < p) :
    Calls Tryz.prog 31 #[.agg #[.int .i64 p, .int .i64 b, .int .i64 z], .int .i64 x, .int .i64 y] w (fun e w' => ∃ t X Y : Nat, (t < p ∧ (p : Int) ∣ t * z - 1 ∧ X = x * (z ^ 2 % p) % p ∧ Y = y * (z ^ 3 % p) % p) ∧ e = .returned (.tuple #[.int .i64 X, .int .i64 Y, .bool true]) ∧ Own R w0 w' []) := by
  have hmf : ∀ (fn : Fn) (first cap : Array Value) (w : World), (Instr.makeFunc fn first cap).run Tryz.prog w = .ok (.func fn first cap) w := fun _ _ _ _ => rfl
  have g1 := h.guard (.cells #[.int .i64 p, .int .i64 b, .int .i64 z] 57)
  have g2 := g1.guard (.cells #[.int .i64 x] 3)
  have g3 := g2.guard (.cells #[.int .i64 y] 3)
  have e1 := g1.box (.cells #[.int .i64 x] 3)
  have e2 := g2.box (.cells #[.int .i64 y] 3)
  have e0 := h.box (.cells #[.int .i64 p, .int .i64 b, .int .i64 z] 57)
  have n0 := heap_alloc_new w (.cells #[.int .i64 p, .int .i64 b, .int .i64 z] 57)
  have n1 := heap_alloc_new (w.alloc (.cells #[.int .i64 p, .int .i64 b, .int .i64 z] 57)) (.cells #[.int .i64 x] 3)
  have n2 := heap_alloc_new ((w.alloc (.cells #[.int .i64 p, .int .i64 b, .int .i64 z] 57)).alloc (.cells #[.int .i64 x] 3)) (.cells #[.int .i64 y] 3)
  have s1 : (w.alloc (.cells #[.int .i64 p, .int .i64 b, .int .i64 z] 57)).heap.size = w.heap.size + 1 := Array.size_push _
  have s2 : ((w.alloc (.cells #[.int .i64 p, .int .i64 b, .int .i64 z] 57)).alloc (.cells #[.int .i64 x] 3)).heap.size = w.heap.size + 1 + 1 := by
    show (Array.push _ _).size = _
    rw [Array.size_push, s1]
  rw [s1] at g2 g3 n1 e2
  rw [s2] at g3 n2
  have m1 := e2.block n1 (RO.self _ _)
  have m0 := e1.block n0 (RO.self _ _)
  have m0' := e2.block m0 (.inl (RO.self _ _))
  have UU : ∀ w' M, Own (RO (RO (RO R w.heap.size) (w.heap.size + 1)) (w.heap.size + 1 + 1)) (((w.alloc (.cells #[.int .i64 p, .int .i64 b, .int .i64 z] 57)).alloc (.cells #[.int .i64 x] 3)).alloc (.cells #[.int .i64 y] 3)) w' M → Own R w0 w' M := fun w' M hh =>
    Own.unguard e0 n0 (by intro _ _ _ _ e; simp at e) (Own.unguard e1 n1 (by intro _ _ _ _ e; simp at e) (Own.unguard e2 n2 (by intro _ _ _ _ e; simp at e) hh))
  have HUU := Lib.hid UU
  have C := Lib.hid (pointTo g3 #[.pointer (some ⟨w.heap.size, 0, .none⟩), .pointer (some ⟨w.heap.size + 1, 0, .none⟩), .pointer (some ⟨w.heap.size + 1 + 1, 0, .none⟩)] (fun X Y => ∃ t, t < p ∧ (p : Int) ∣ t * z - 1 ∧ X = x * (z ^ 2 % p) % p ∧ Y = y * (z ^ 3 % p) % p) (fun w1 o k => by
    refine (twistTo1 o w.heap.size (w.heap.size + 1) (w.heap.size + 1 + 1) p b z x y (k.cell (.inl (.inl (RO.self _ _))) (block_cell m0' rfl)) (k.cell (.inl (.inl (RO.self _ _))) (block_cell m0' rfl)) (k.cell (.inl (.inl (RO.self _ _))) (block_cell m0' rfl)) (k.cell (.inl (RO.self _ _)) (block_cell m1 rfl)) (k.cell (RO.self _ _) (block_cell n2 rfl))
      (.inl (.inl (.inl (.inl (.inl (RO.self _ _)))))) (.inl (.inl (.inl (.inl (RO.self _ _))))) (.inl (.inl (.inl (RO.self _ _)))) z0 zp bp p2 p63 hgc hX hY).mono ?_
    rintro e w' ⟨tx, ty, t, M, rfl, ho, h1, h2⟩
    have lt1 : ∀ n, n % p < 9223372036854775808 := fun n => Nat.lt_trans (Nat.mod_lt _ (by omega)) p63
    exact ⟨tx, ty, _, _, M, rfl, ho, lt1 _, lt1 _, t, h1, h2, rfl, rfl⟩))
  clear h g1 g2 g3 s1 s2 e0 e1 e2 n0 n1 n2 m0 m0' m1 UU z0 zp bp p2 p63 hgc hX hY
  go_enter Tryz.func31, Tryz.ntmps31
  go_wp2_with fail
  refine C.out.mono ?_
  rintro e w1 ⟨X, Y, rfl, ⟨t, h1, h2, h3, h4⟩, hO⟩
  have HO := Lib.hid (HUU.out _ _ hO)
  have HT := Lib.hid (show t < p ∧ (p : Int) ∣ t * z - 1 ∧ X = x * (z ^ 2 % p) % p ∧ Y = y * (z ^ 3 % p) % p from ⟨h1, h2, h3, h4⟩)
  clear hO h1 h2 h3 h4
  go_wp2_with fail
  go_ret3
  exact ⟨t, X, Y, HT.out, rfl, HO.out⟩

set_option maxHeartbeats 4000000 in
set_option maxRecDepth 100000 in
theorem twistFromO (h : Own R w0 w []) (p b z x y : Nat) (z0 : 0 < z) (zp : z < p) (bp : b < p) (p2 : 2 ≤ p) (p63 : p < 9223372036854775808) (hgc : Int.gcd z p = 1) (hX : x < p) (hY : y < p) :
    Calls Tryz.prog 33 #[.agg #[.int .i64 p, .int .i64 b, .int .i64 z], .int .i64 x, .int .i64 y] w (fun e w' => ∃ t X Y : Nat, (t < p ∧ (p : Int) ∣ t * z - 1 ∧ X = x * (t ^ 2 % p) % p ∧ Y = y * (t ^ 3 % p) % p) ∧ e = .returned (.tuple #[.int .i64 X, .int .i64 Y, .bool true]) ∧ Own R w0 w' []) := by
  have hmf : ∀ (fn : Fn) (first cap : Array Value) (w : World), (Instr.makeFunc fn first cap).run Tryz.prog w = .ok (.func fn first cap) w := fun _ _ _ _ => rfl
  have g1 := h.guard (.cells #[.int .i64 p, .int .i64 b, .int .i64 z] 57)
  have g2 := g1.guard (.cells #[.int .i64 x] 3)
  have g3 := g2.guard (.cells #[.int .i64 y] 3)
  have e1 := g1.box (.cells #[.int .i64 x] 3)
  have e2 := g2.box (.cells #[.int .i64 y] 3)
  have e0 := h.box (.cells #[.int .i64 p, .int .i64 b, .int .i64 z] 57)
  have n0 := heap_alloc_new w (.cells #[.int .i64 p, .int .i64 b, .int .i64 z] 57)
  have n1 := heap_alloc_new (w.alloc (.cells #[.int .i64 p, .int .i64 b, .int .i64 z] 57)) (.cells #[.int .i64 x] 3)
  have n2 := heap_alloc_new ((w.alloc (.cells #[.int .i64 p, .int .i64 b, .int .i64 z] 57)).alloc (.cells #[.int .i64 x] 3)) (.cells #[.int .i64 y] 3)
  have s1 : (w.alloc (.cells #[.int .i64 p, .int .i64 b, .int .i64 z] 57)).heap.size = w.heap.size + 1 := Array.size_push _
  have s2 : ((w.alloc (.cells #[.int .i64 p, .int .i64 b, .int .i64 z] 57)).alloc (.cells #[.int .i64 x] 3)).heap.size = w.heap.size + 1 + 1 := by
    show (Array.push _ _).size = _
    rw [Array.size_push, s1]
  rw [s1] at g2 g3 n1 e2
  rw [s2] at g3 n2
  have m1 := e2.block n1 (RO.self _ _)
  have m0 := e1.block n0 (RO.self _ _)
  have m0' := e2.block m0 (.inl (RO.self _ _))
  have UU : ∀ w' M, Own (RO (RO (RO R w.heap.size) (w.heap.size + 1)) (w.heap.size + 1 + 1)) (((w.alloc (.cells #[.int .i64 p, .int .i64 b, .int .i64 z] 57)).alloc (.cells #[.int .i64 x] 3)).alloc (.cells #[.int .i64 y] 3)) w' M → Own R w0 w' M := fun w' M hh =>
    Own.unguard e0 n0 (by intro _ _ _ _ e; simp at e) (Own.unguard e1 n1 (by intro _ _ _ _ e; simp at e) (Own.unguard e2 n2 (by intro _ _ _ _ e; simp at e) hh))
  have HUU := Lib.hid UU
  have C := Lib.hid (pointFrom g3 #[.pointer (some ⟨w.heap.size, 0, .none⟩), .pointer (some ⟨w.heap.size + 1, 0, .none⟩), .pointer (some ⟨w.heap.size + 1 + 1, 0, .none⟩)] (fun X Y => ∃ t, t < p ∧ (p : Int) ∣ t * z - 1 ∧ X = x * (t ^ 2 % p) % p ∧ Y = y * (t ^ 3 % p) % p) (fun w1 o k => by
    refine (twistFrom1 o w.heap.size (w.heap.size + 1) (w.heap.size + 1 + 1) p b z x y (k.cell (.inl (.inl (RO.self _ _))) (block_cell m0' rfl)) (k.cell (.inl (.inl (RO.self _ _))) (block_cell m0' rfl)) (k.cell (.inl (.inl (RO.self _ _))) (block_cell m0' rfl)) (k.cell (.inl (RO.self _ _)) (block_cell m1 rfl)) (k.cell (RO.self _ _) (block_cell n2 rfl))
      (.inl (.inl (.inl (.inl (.inl (RO.self _ _)))))) (.inl (.inl (.inl (.inl (RO.self _ _))))) (.inl (.inl (.inl (RO.self _ _)))) z0 zp bp p2 p63 hgc hX hY).mono ?_
    rintro e w' ⟨tx, ty, t, M, rfl, ho, h1, h2⟩
    have lt1 : ∀ n, n % p < 9223372036854775808 := fun n => Nat.lt_trans (Nat.mod_lt _ (by omega)) p63
    exact ⟨tx, ty, _, _, M, rfl, ho, lt1 _, lt1 _, t, h1, h2, rfl, rfl⟩))
  clear h g1 g2 g3 s1 s2 e0 e1 e2 n0 n1 n2 m0 m0' m1 UU z0 zp bp p2 p63 hgc hX hY
  go_enter Tryz.func33, Tryz.ntmps33
  go_wp2_with fail
  refine C.out.mono ?_
  rintro e w1 ⟨X, Y, rfl, ⟨t, h1, h2, h3, h4⟩, hO⟩
  have HO := Lib.hid (HUU.out _ _ hO)
  have HT := Lib.hid (show t < p ∧ (p : Int) ∣ t * z - 1 ∧ X = x * (t ^ 2 % p) % p ∧ Y = y * (t ^ 3 % p) % p from ⟨h1, h2, h3, h4⟩)
  clear hO h1 h2 h3 h4
  go_wp2_with fail
  go_ret3
  exact ⟨t, X, Y, HT.out, rfl, HO.out⟩
end
end Go.Proofs.YtohhkjamddojmaaGreatDoor.Big
