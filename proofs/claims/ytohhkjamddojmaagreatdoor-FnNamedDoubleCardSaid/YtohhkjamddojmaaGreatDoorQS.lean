/- Named: the numbers of a curve as bytes. Numbers in base 65536: the words of the specification's great numbers. Sums, differences, products of numbers in base 65536, digit by digit. The rest of a division in base 65536: the plain law. The specification's great numbers in memory: without zeros at the end; compared. -/
import Derived.Test.YtohhkjamddojmaaGreatDoorDX
import Derived.Test.YtohhkjamddojmaaGreatDoorWA
import Derived.Test.YtohhkjamddojmaaGreatDoorNB
namespace Go.Proofs.YtohhkjamddojmaaGreatDoor.Bit
open Go.RowKit
open Big EcLaw
attribute [local go_sem] ptr
attribute [local irreducible] Sz

section
variable {R : Nat → Prop} {w0 w w' : World} {L L' : List (Nat × Int)}
/-- bytes made of Ints, one after another -/
def Bys (K : Nat → Prop) (w1 w' : World) (L : List (Nat × Int)) (B : List (Nat × Value × Nat)) : Prop :=
 Kept K w1 w' ∧ Own (fun k => K k ∨ ∃ x, x ∈ B ∧ k = x.1) w' w' L ∧ ∀ x, x ∈ B → ByV w' x.1 x.2.1 x.2.2 ∧ w1.heap.size ≤ x.1
theorem Bys.start {K : Nat → Prop} (h : Own K w w L) : Bys K w w L [] := by
 refine ⟨Kept.refl _ _, ?_, by simp⟩
 have : (fun k => K k ∨ ∃ x : Nat × Value × Nat, x ∈ [] ∧ k = x.1) = K := by funext k; simp
 rw [this]; exact h
theorem Bys.drew {K : Nat → Prop} {B : List (Nat × Value × Nat)} (h : Bys K w w' L B) (n : Nat) : Bys K w (w'.drewN n) L B :=
 ⟨h.1.trans (Kept.drew _ _ _), (h.2.1.drew n).since, fun x hx => ⟨(h.2.2 x hx).1.kept (Kept.drew (fun k => K k ∨ ∃ x, x ∈ B ∧ k = x.1) _ _) (.inr ⟨x, hx, rfl⟩), (h.2.2 x hx).2⟩⟩
theorem Bys.next {K : Nat → Prop} {B : List (Nat × Value × Nat)} (h : Bys K w w' L B) (j : Nat) {x : Nat} (n : Nat) (hj : L[j]? = some (x, (n : Int))) (hn : n < B64 ^ 4) :
 Calls Tryz.prog 57 #[ptr x] w' (fun e w'' => ∃ g o l, e = .returned (.slice (some ⟨g, o, .none⟩) l l) ∧ Bys K w w'' L ((g, .slice (some ⟨g, o, .none⟩) l l, n) :: B)) := by
 refine (intBytesN h.2.1 j n hj (dg_four hn)).mono ?_
 rintro e w3 ⟨g, o, ks, rfl, a1, a2, a3, a4, a5, a6, a7, a8⟩
 refine ⟨g, o, ks.length, rfl, h.1.trans (a1.kept.weaken (fun _ _ hn hk => hn (.inl hk))), ?_, ?_⟩
 · have : (fun k => K k ∨ ∃ x : Nat × Value × Nat, x ∈ (g, Value.slice (some ⟨g, o, .none⟩) ks.length ks.length, n) :: B ∧ k = x.1) = RO (fun k => K k ∨ ∃ x, x ∈ B ∧ k = x.1) g := by
    funext k
    apply propext
    simp only [RO, List.mem_cons]
    constructor
    · rintro (h | ⟨x, rfl | h, e⟩)
      · exact .inl (.inl h)
      · exact .inr e
      · exact .inl (.inr ⟨x, h, e⟩)
    · rintro ((h | ⟨x, h, e⟩) | e)
      · exact .inl h
      · exact .inr ⟨x, .inr h, e⟩
      · exact .inr ⟨_, .inl rfl, e⟩
   rw [this]; exact a2
 · intro x hx
   rcases List.mem_cons.1 hx with rfl | hx
   · exact ⟨ByV.of a2 a3 a4 a5 a6 (by have := dg_four hn; omega), Nat.le_trans h.1.size a8⟩
   · exact ⟨(h.2.2 x hx).1.kept a1.kept (.inr ⟨x, hx, rfl⟩), (h.2.2 x hx).2⟩
/-- a curve's numbers as bytes -/
def NamedP (R : Nat → Prop) (w : World) (c : Nums) (bits : Nat) (e : Ending) (w' : World) : Prop :=
 ∃ vP vN vB vX vY gP gN gB gX gY, e = .returned (.tuple #[.agg #[vP, vN, vB, vX, vY, .int .i64 (bits : Nat)], .bool true]) ∧ Kept R w w' ∧ Own R w' w' [] ∧
  (ByV w' gP vP c.p ∧ ByV w' gN vN c.n ∧ ByV w' gB vB c.b ∧ ByV w' gX vX c.x ∧ ByV w' gY vY c.y) ∧ w.heap.size ≤ gP ∧ w.heap.size ≤ gN ∧ w.heap.size ≤ gB ∧ w.heap.size ≤ gX ∧ w.heap.size ≤ gY
theorem set6 {w : World} {b : Nat} {a0 a1 a2 a3 a4 a5 v0 v1 v2 v3 v4 v5 : Value} {T : TypeId} (h : w.heap[b]? = some (.cells #[a0, a1, a2, a3, a4, a5] T)) :
 ((((((w.setCell ⟨b, 0, .none⟩ v0).setCell ⟨b, 1, .none⟩ v1).setCell ⟨b, 2, .none⟩ v2).setCell ⟨b, 3, .none⟩ v3).setCell ⟨b, 4, .none⟩ v4).setCell ⟨b, 5, .none⟩ v5).heap[b]? = some (.cells #[v0, v1, v2, v3, v4, v5] T) := by
 simp only [World.setCell, Array.getElem?_modify, if_true]
 rw [h]
 simp
theorem kept_at {w : World} {b o : Nat} {v : Value} (hb : ¬ R b) : Kept R w (w.setCell ⟨b, o, .none⟩ v) := (Grow.of (grown_set w b o v)).weaken (fun k _ e => by cases e; exact hb)
theorem kept6 {w : World} {b : Nat} {v0 v1 v2 v3 v4 v5 : Value} (hb : ¬ R b) :
 Kept R w ((((((w.setCell ⟨b, 0, .none⟩ v0).setCell ⟨b, 1, .none⟩ v1).setCell ⟨b, 2, .none⟩ v2).setCell ⟨b, 3, .none⟩ v3).setCell ⟨b, 4, .none⟩ v4).setCell ⟨b, 5, .none⟩ v5) :=
 (((((kept_at hb).trans (kept_at hb)).trans (kept_at hb)).trans (kept_at hb)).trans (kept_at hb)).trans (kept_at hb)
theorem named_end {bits cc gP gN gB gX gY : Nat} {vP vN vB vX vY : Value} {c : Nums} {v5 w1 : World} {o : Obj} (h : Own R w0 w []) (hn : ¬ R w.heap.size) (k0 : Kept R w (w.alloc o)) (k1 : Kept (RO R w.heap.size) (w.alloc o) w1)
 (H : Bys (RO (RO R w.heap.size) cc) w1 v5 L [(gY, vY, c.y), (gX, vX, c.x), (gB, vB, c.b), (gN, vN, c.n), (gP, vP, c.p)]) :
 NamedP R w c bits (.returned (.tuple #[.agg #[vP, vN, vB, vX, vY, .int .i64 (bits : Nat)], .bool true])) ((((((v5.setCell ⟨w.heap.size, 0, .none⟩ vP).setCell ⟨w.heap.size, 1, .none⟩ vN).setCell ⟨w.heap.size, 2, .none⟩ vB).setCell ⟨w.heap.size, 3, .none⟩ vX).setCell ⟨w.heap.size, 4, .none⟩ vY).setCell ⟨w.heap.size, 5, .none⟩ (.int .i64 (bits : Nat))) := by
 have hs : (w.alloc o).heap.size = w.heap.size + 1 := Array.size_push _
 have hz := k1.size
 rw [hs] at hz
 obtain ⟨b1, z1⟩ := H.2.2 _ (.head _)
 obtain ⟨b2, z2⟩ := H.2.2 _ (.tail _ (.head _))
 obtain ⟨b3, z3⟩ := H.2.2 _ (.tail _ (.tail _ (.head _)))
 obtain ⟨b4, z4⟩ := H.2.2 _ (.tail _ (.tail _ (.tail _ (.head _))))
 obtain ⟨b5, z5⟩ := H.2.2 _ (.tail _ (.tail _ (.tail _ (.tail _ (.head _)))))
 simp only at b1 b2 b3 b4 b5 z1 z2 z3 z4 z5
 have kk : Kept R w v5 := k0.trans (k1.ro.trans (H.1.weaken (fun _ _ hn hk => hn (.inl (.inl hk)))))
 have ke := kk.trans (kept6 (v0 := vP) (v1 := vN) (v2 := vB) (v3 := vX) (v4 := vY) (v5 := .int .i64 (bits : Nat)) hn)
 have one : ∀ {g n : Nat} {v : Value}, ByV v5 g v n → w1.heap.size ≤ g → ByV ((((((v5.setCell ⟨w.heap.size, 0, .none⟩ vP).setCell ⟨w.heap.size, 1, .none⟩ vN).setCell ⟨w.heap.size, 2, .none⟩ vB).setCell ⟨w.heap.size, 3, .none⟩ vX).setCell ⟨w.heap.size, 4, .none⟩ vY).setCell ⟨w.heap.size, 5, .none⟩ (.int .i64 (bits : Nat))) g v n :=
  fun {g n v} b z => b.kept (kept6 (R := fun k => k = g) (by omega)) rfl
 exact ⟨vP, vN, vB, vX, vY, gP, gN, gB, gX, gY, rfl, ke, (h.turned ke).since, ⟨one b5 z5, one b4 z4, one b3 z3, one b2 z2, one b1 z1⟩, by omega, by omega, by omega, by omega, by omega⟩
theorem nums_lt {bits : Nat} {c : Nums} (h : Four bits c) : c.p < B64 ^ 4 ∧ c.n < B64 ^ 4 ∧ c.b < B64 ^ 4 ∧ c.x < B64 ^ 4 ∧ c.y < B64 ^ 4 := by
 cases h <;> decide +kernel
set_option maxHeartbeats 16000000 in
set_option maxRecDepth 100000 in
theorem curveNamedO {bits : Nat} {c : Nums} (hf : Four bits c) (h : Own R w0 w []) (ae : Addr) (he : w.cell? ⟨2, 0, .none⟩ = some (eofV ae)) :
 Calls Tryz.prog 15 #[.int .i64 (bits : Nat)] w (NamedP R w c bits) := by
 have g1 := h.guard (.cells #[.slice .none 0 0, .slice .none 0 0, .slice .none 0 0, .slice .none 0 0, .slice .none 0 0, .int .i64 0] 27)
 have e0 := h.since.box (.cells #[.slice .none 0 0, .slice .none 0 0, .slice .none 0 0, .slice .none 0 0, .slice .none 0 0, .int .i64 0] 27)
 have n0 := heap_alloc_new w (.cells #[.slice .none 0 0, .slice .none 0 0, .slice .none 0 0, .slice .none 0 0, .slice .none 0 0, .int .i64 0] 27)
 have hl2 : R 2 := h.low 2 (by omega)
 have C := Lib.hid (namedO hf g1 ae (e0.kept.cell hl2 he))
 have HF := Lib.hid (And.intro e0.kept (And.intro n0 (And.intro h.fresh h)))
 have NL := Lib.hid (nums_lt hf)
 clear h g1 e0 n0 hl2 he hf
 go_enter Tryz.func15, Tryz.ntmps15
 go_wp2_with fail
 refine C.out.mono ?_
 rintro en w1 ⟨cc, zP, zN, zB, zX, zY, nm, rfl, a1, a2, a3, a4⟩
 have HC := Lib.hid (And.intro a1 (And.intro a2 (And.intro a3 a4)))
 have HB := Lib.hid (Bys.start a1)
 have K := Lib.hid (fun (w' : World) (k : Kept (RO (RO R w.heap.size) cc) w1 w') => (⟨k.cell (RO.self _ _) (block_cell a3 rfl), k.cell (RO.self _ _) (block_cell a3 rfl), k.cell (RO.self _ _) (block_cell a3 rfl), k.cell (RO.self _ _) (block_cell a3 rfl), k.cell (RO.self _ _) (block_cell a3 rfl), k.cell (RO.self _ _) (block_cell a3 rfl)⟩ :
  w'.cell? ⟨cc, 1, .none⟩ = some (ptr zP) ∧ w'.cell? ⟨cc, 2, .none⟩ = some (ptr zN) ∧ w'.cell? ⟨cc, 3, .none⟩ = some (ptr zB) ∧ w'.cell? ⟨cc, 4, .none⟩ = some (ptr zX) ∧ w'.cell? ⟨cc, 5, .none⟩ = some (ptr zY) ∧ w'.cell? ⟨cc, 6, .none⟩ = some (.int .i64 (bits : Nat))))
 clear a1 a2 a3 a4 C
 have HN0 := Lib.hid (K.out w1 (Kept.refl _ _))
 obtain ⟨q1, q2, q3, q4, q5, q6⟩ := HN0.out
 unfold ptr at *
 go_wp2_with fail
 have HK0 := Lib.hid (fun (w' : World) (k : Kept (RO (RO R w.heap.size) cc) w1 w') => (by rw [k.block w.heap.size (by have := HC.out.2.1.size; have : w.heap.size < (w.alloc (.cells #[.slice .none 0 0, .slice .none 0 0, .slice .none 0 0, .slice .none 0 0, .slice .none 0 0, .int .i64 0] 27)).heap.size := (Array.getElem?_eq_some_iff.1 HF.out.2.1).1; omega) (fun e => e (.inl (RO.self _ _)))]; exact HC.out.1.block (HC.out.2.1.block _ (Array.getElem?_eq_some_iff.1 HF.out.2.1).1 (fun e => e (RO.self _ _)) ▸ HF.out.2.1) (.inl (RO.self _ _)) : w'.heap[w.heap.size]? = some (.cells #[.slice .none 0 0, .slice .none 0 0, .slice .none 0 0, .slice .none 0 0, .slice .none 0 0, .int .i64 0] 27)))
 have HK7 := Lib.hid (fun (w' : World) (k : Kept (RO (RO R w.heap.size) cc) w1 w') => (⟨block_cell (HK0.out w' k) rfl, block_cell (HK0.out w' k) rfl, block_cell (HK0.out w' k) rfl, block_cell (HK0.out w' k) rfl, block_cell (HK0.out w' k) rfl, block_cell (HK0.out w' k) rfl, block_free (HK0.out w' k), block_free (HK0.out w' k), block_free (HK0.out w' k), block_free (HK0.out w' k), block_free (HK0.out w' k), block_free (HK0.out w' k)⟩ : w'.cell? ⟨w.heap.size, 0, .none⟩ = some (.slice .none 0 0) ∧ w'.cell? ⟨w.heap.size, 1, .none⟩ = some (.slice .none 0 0) ∧ w'.cell? ⟨w.heap.size, 2, .none⟩ = some (.slice .none 0 0) ∧ w'.cell? ⟨w.heap.size, 3, .none⟩ = some (.slice .none 0 0) ∧ w'.cell? ⟨w.heap.size, 4, .none⟩ = some (.slice .none 0 0) ∧ w'.cell? ⟨w.heap.size, 5, .none⟩ = some (.int .i64 0) ∧ w'.frozen? ⟨w.heap.size, 0, .none⟩ = false ∧ w'.frozen? ⟨w.heap.size, 1, .none⟩ = false ∧ w'.frozen? ⟨w.heap.size, 2, .none⟩ = false ∧ w'.frozen? ⟨w.heap.size, 3, .none⟩ = false ∧ w'.frozen? ⟨w.heap.size, 4, .none⟩ = false ∧ w'.frozen? ⟨w.heap.size, 5, .none⟩ = false))
 obtain ⟨r0, r1, r2, r3, r4, r5, r6, r7, r8, r9, r10, r11⟩ := HK7.out w1 (Kept.refl _ _)
 clear HN0
 have hne : ¬ (cc = w.heap.size) := fun e => HC.out.2.2.2 (e ▸ RO.self _ _)
 have hne2 : ¬ (w.heap.size = cc) := fun e => hne e.symm
 go_region_held3 (fun w' => w'.cell? ⟨cc, 1, .none⟩ = some (.pointer (some ⟨zP, 0, .none⟩)) ∧ w'.cell? ⟨cc, 2, .none⟩ = some (.pointer (some ⟨zN, 0, .none⟩)) ∧ w'.cell? ⟨cc, 3, .none⟩ = some (.pointer (some ⟨zB, 0, .none⟩)) ∧ w'.cell? ⟨cc, 4, .none⟩ = some (.pointer (some ⟨zX, 0, .none⟩)) ∧ w'.cell? ⟨cc, 5, .none⟩ = some (.pointer (some ⟨zY, 0, .none⟩)) ∧ w'.cell? ⟨cc, 6, .none⟩ = some (.int .i64 (bits : Nat))) (go_keep) (first | (go_at_call 57; refine (Bys.next (H4.out) 0 _ rfl NL.out.2.2.2.2).mono ?_; rintro en v5 ⟨gY, oY, lY, rfl, hq⟩; obtain ⟨q1, q2, q3, q4, q5, q6⟩ := K.out _ hq.1; obtain ⟨r0, r1, r2, r3, r4, r5, r6, r7, r8, r9, r10, r11⟩ := HK7.out _ hq.1; have H5 := Lib.hid hq; clear hq) | (go_at_call 57; refine (Bys.next (H3.out) 1 _ rfl NL.out.2.2.2.1).mono ?_; rintro en v4 ⟨gX, oX, lX, rfl, hq⟩; obtain ⟨q1, q2, q3, q4, q5, q6⟩ := K.out _ hq.1; obtain ⟨r0, r1, r2, r3, r4, r5, r6, r7, r8, r9, r10, r11⟩ := HK7.out _ hq.1; have H4 := Lib.hid hq; clear hq) | (go_at_call 57; refine (Bys.next (H2.out) 2 _ rfl NL.out.2.2.1).mono ?_; rintro en v3 ⟨gB, oB, lB, rfl, hq⟩; obtain ⟨q1, q2, q3, q4, q5, q6⟩ := K.out _ hq.1; obtain ⟨r0, r1, r2, r3, r4, r5, r6, r7, r8, r9, r10, r11⟩ := HK7.out _ hq.1; have H3 := Lib.hid hq; clear hq) | (go_at_call 57; refine (Bys.next (H1.out) 3 _ rfl NL.out.2.1).mono ?_; rintro en v2 ⟨gN, oN, lN, rfl, hq⟩; obtain ⟨q1, q2, q3, q4, q5, q6⟩ := K.out _ hq.1; obtain ⟨r0, r1, r2, r3, r4, r5, r6, r7, r8, r9, r10, r11⟩ := HK7.out _ hq.1; have H2 := Lib.hid hq; clear hq) | (go_at_call 57; refine (Bys.next (HB.out.drew _) 4 _ rfl NL.out.1).mono ?_; rintro en v1 ⟨gP, oP, lP, rfl, hq⟩; obtain ⟨q1, q2, q3, q4, q5, q6⟩ := K.out _ hq.1; obtain ⟨r0, r1, r2, r3, r4, r5, r6, r7, r8, r9, r10, r11⟩ := HK7.out _ hq.1; have H1 := Lib.hid hq; clear hq))
 all_goals
  obtain ⟨wf, hwf⟩ : ∃ wf, wf = ((((((v5.setCell ⟨w.heap.size, 0, .none⟩ (.slice (some ⟨gP, oP, .none⟩) lP lP)).setCell ⟨w.heap.size, 1, .none⟩ (.slice (some ⟨gN, oN, .none⟩) lN lN)).setCell ⟨w.heap.size, 2, .none⟩ (.slice (some ⟨gB, oB, .none⟩) lB lB)).setCell ⟨w.heap.size, 3, .none⟩ (.slice (some ⟨gX, oX, .none⟩) lX lX)).setCell ⟨w.heap.size, 4, .none⟩ (.slice (some ⟨gY, oY, .none⟩) lY lY)).setCell ⟨w.heap.size, 5, .none⟩ (.int .i64 (bits : Nat))) := ⟨_, rfl⟩
  have HB6 := set6 (v0 := .slice (some ⟨gP, oP, .none⟩) lP lP) (v1 := .slice (some ⟨gN, oN, .none⟩) lN lN) (v2 := .slice (some ⟨gB, oB, .none⟩) lB lB) (v3 := .slice (some ⟨gX, oX, .none⟩) lX lX) (v4 := .slice (some ⟨gY, oY, .none⟩) lY lY) (v5 := .int .i64 (bits : Nat)) (HK0.out v5 H5.out.1)
  have HE := Lib.hid (named_end (bits := bits) HF.out.2.2.2 HF.out.2.2.1 HF.out.1 HC.out.2.1 H5.out)
  rw [← hwf] at HB6 HE ⊢
  have c0 := block_cell (k := 0) HB6 rfl
  have c1 := block_cell (k := 1) HB6 rfl
  have c2 := block_cell (k := 2) HB6 rfl
  have c3 := block_cell (k := 3) HB6 rfl
  have c4 := block_cell (k := 4) HB6 rfl
  have c5 := block_cell (k := 5) HB6 rfl
  clear hwf HB6 HK0 HK7 HB K HC HF H1 H2 H3 H4 H5 r0 r1 r2 r3 r4 r5 r6 r7 r8 r9 r10 r11
  go_wp2_with fail
  simp [bodyPost, results, Tryz.results15, go_sem, c0, c1, c2, c3, c4, c5]
  exact HE.out
end
end Go.Proofs.YtohhkjamddojmaaGreatDoor.Bit

namespace Go.Proofs.YtohhkjamddojmaaGreatDoor.Big

def B16 : Nat := 65536
theorem B16_pos : 0 < B16 := by decide
def bval : List Nat → Nat
 | [] => 0
 | x :: xs => x + B16 * bval xs
def Wb (xs : List Nat) : Prop := ∀ x ∈ xs, x < B16
theorem bval_nil : bval [] = 0 := rfl
theorem bval_append : ∀ a b, bval (a ++ b) = bval a + B16 ^ a.length * bval b
 | [], b => by simp [bval]
 | x :: a, b => by
  show x + B16 * bval (a ++ b) = x + B16 * bval a + B16 ^ (a.length + 1) * bval b
  rw [bval_append a b, Nat.mul_add, Nat.pow_succ]
  have : B16 ^ a.length * B16 * bval b = B16 * (B16 ^ a.length * bval b) := by rw [Nat.mul_comm (B16 ^ a.length) B16, Nat.mul_assoc]
  omega
theorem bval_one (x : Nat) : bval [x] = x := by simp [bval]
theorem bval_snoc (a : List Nat) (x : Nat) : bval (a ++ [x]) = bval a + B16 ^ a.length * x := by rw [bval_append, bval_one]
theorem bval_lt : ∀ a, Wb a → bval a < B16 ^ a.length
 | [], _ => by simp [bval]
 | x :: a, h => by
  have ih := bval_lt a (fun y hy => h y (List.mem_cons_of_mem _ hy))
  have hx := h x (List.mem_cons_self ..)
  show x + B16 * bval a < B16 ^ (a.length + 1)
  have e : B16 ^ (a.length + 1) = B16 * B16 ^ a.length := by rw [Nat.pow_succ, Nat.mul_comm]
  have : B16 * (bval a + 1) ≤ B16 * B16 ^ a.length := Nat.mul_le_mul_left _ ih
  rw [Nat.mul_add, Nat.mul_one] at this
  omega
theorem Wb.append {a b : List Nat} (h : Wb a) (h' : Wb b) : Wb (a ++ b) := fun x hx => (List.mem_append.1 hx).elim (h x) (h' x)
theorem Wb.one {x : Nat} (h : x < B16) : Wb [x] := fun y hy => by rw [List.mem_singleton.1 hy]; exact h
theorem Wb.take {a : List Nat} (h : Wb a) (n : Nat) : Wb (a.take n) := fun x hx => h x (List.mem_of_mem_take hx)
theorem Wb.getD {a : List Nat} (h : Wb a) (i : Nat) : a.getD i 0 < B16 := by
 rw [List.getD]
 by_cases hi : i < a.length
 · rw [List.getElem?_eq_getElem hi]; exact h _ (List.getElem_mem hi)
 · rw [List.getElem?_eq_none (by omega)]; exact B16_pos
theorem Wb.nil : Wb [] := fun x hx => by cases hx
def bnorm : List Nat → List Nat
 | [] => []
 | x :: xs => match bnorm xs with
  | [] => if x = 0 then [] else [x]
  | y :: ys => x :: y :: ys
theorem bnorm_snoc0 : ∀ xs, bnorm (xs ++ [0]) = bnorm xs
 | [] => rfl
 | x :: xs => by
  show (match bnorm (xs ++ [0]) with | [] => if x = 0 then [] else [x] | y :: ys => x :: y :: ys) = _
  rw [bnorm_snoc0 xs]; rfl
theorem bnorm_snoc {x : Nat} (h : x ≠ 0) : ∀ xs, bnorm (xs ++ [x]) = xs ++ [x]
 | [] => by simp [bnorm, h]
 | y :: xs => by
  show (match bnorm (xs ++ [x]) with | [] => if y = 0 then [] else [y] | z :: ys => y :: z :: ys) = _
  rw [bnorm_snoc h xs]
  cases xs <;> rfl
theorem bnorm_prefix : ∀ xs, ∃ k, bnorm xs = xs.take k ∧ k ≤ xs.length
 | [] => ⟨0, rfl, Nat.le_refl _⟩
 | x :: xs => by
  obtain ⟨k, hk, hl⟩ := bnorm_prefix xs
  show ∃ k, (match bnorm xs with | [] => if x = 0 then [] else [x] | y :: ys => x :: y :: ys) = _ ∧ _
  cases hn : bnorm xs with
  | nil =>
   by_cases hx : x = 0
   · exact ⟨0, by simp [hx], by simp⟩
   · exact ⟨1, by simp [hx], by simp⟩
  | cons y ys => exact ⟨k + 1, by rw [List.take_succ_cons, ← hk, hn], by simp; omega⟩
theorem bnorm_take (xs : List Nat) : xs.take (bnorm xs).length = bnorm xs := by
 obtain ⟨k, hk, hl⟩ := bnorm_prefix xs
 rw [hk]; simp [Nat.min_eq_left hl]
theorem bnorm_take_succ {cs : List Nat} {k : Nat} (hk : k < cs.length) (h0 : cs.getD k 0 = 0) : bnorm (cs.take (k + 1)) = bnorm (cs.take k) := by
 rw [take_snoc _ _ hk, h0, bnorm_snoc0]
theorem bnorm_take_end {cs : List Nat} {k : Nat} (hk : k < cs.length) (h0 : cs.getD k 0 ≠ 0) : (bnorm (cs.take (k + 1))).length = k + 1 := by
 rw [take_snoc _ _ hk, bnorm_snoc h0]; simp; omega
def bd (n : Nat) : List Nat := if _h : n = 0 then [] else n % B16 :: bd (n / B16)
termination_by n
decreasing_by exact Nat.div_lt_self (by omega) (by unfold B16; omega)
theorem bd_zero : bd 0 = [] := by rw [bd]; simp
theorem bd_pos {n : Nat} (h : n ≠ 0) : bd n = n % B16 :: bd (n / B16) := by rw [bd]; simp [h]
theorem bval_bd (n : Nat) : bval (bd n) = n := by
 induction n using Nat.strongRecOn with
 | ind n ih =>
  by_cases h : n = 0
  · subst h; rw [bd_zero]; rfl
  · rw [bd_pos h]
    show n % B16 + B16 * bval (bd (n / B16)) = n
    rw [ih _ (Nat.div_lt_self (by omega) (by unfold B16; omega))]
    exact Nat.mod_add_div n B16
theorem bd_words (n : Nat) : Wb (bd n) := by
 induction n using Nat.strongRecOn with
 | ind n ih =>
  by_cases h : n = 0
  · subst h; rw [bd_zero]; exact Wb.nil
  · rw [bd_pos h]
    intro x hx
    rcases List.mem_cons.1 hx with rfl | hx
    · exact Nat.mod_lt _ B16_pos
    · exact ih _ (Nat.div_lt_self (by omega) (by unfold B16; omega)) x hx
theorem bd_eq_nil {n : Nat} : bd n = [] ↔ n = 0 := by
 constructor
 · intro h; rw [← bval_bd n, h]; rfl
 · rintro rfl; exact bd_zero
theorem bnorm_bd : ∀ xs, Wb xs → bnorm xs = bd (bval xs)
 | [], _ => by rw [bval_nil, bd_zero]; rfl
 | x :: xs, h => by
  have ih := bnorm_bd xs (fun y hy => h y (List.mem_cons_of_mem _ hy))
  have hx : x < B16 := h x (List.mem_cons_self ..)
  show (match bnorm xs with | [] => if x = 0 then [] else [x] | y :: ys => x :: y :: ys) = bd (x + B16 * bval xs)
  by_cases h0 : bval xs = 0
  · rw [h0, bd_zero] at ih
    rw [ih, h0]
    by_cases hx0 : x = 0
    · subst hx0; simp [bd_zero]
    · have e : bd (x + B16 * 0) = [x] := by
       rw [bd_pos (by omega), Nat.mul_zero, Nat.add_zero, Nat.mod_eq_of_lt hx, Nat.div_eq_of_lt hx, bd_zero]
      rw [e]; simp [hx0]
  · have hp : 0 < B16 * bval xs := Nat.mul_pos B16_pos (by omega)
    have e : bd (x + B16 * bval xs) = x :: bd (bval xs) := by
     rw [bd_pos (by omega), Nat.add_mul_mod_self_left, Nat.mod_eq_of_lt hx, Nat.add_mul_div_left _ _ B16_pos, Nat.div_eq_of_lt hx, Nat.zero_add]
    rw [e, ih]
    cases hd : bd (bval xs) with
    | nil => exact absurd (bd_eq_nil.1 hd) h0
    | cons y ys => rfl
theorem bd_length {n k : Nat} : (bd n).length ≤ k ↔ n < B16 ^ k := by
 constructor
 · intro h
   have := bval_lt _ (bd_words n)
   rw [bval_bd] at this
   exact Nat.lt_of_lt_of_le this (Nat.pow_le_pow_right B16_pos h)
 · intro h
   induction k generalizing n with
   | zero => rw [Nat.pow_zero] at h; obtain rfl : n = 0 := by omega
             simp [bd_zero]
   | succ k ih =>
    by_cases h0 : n = 0
    · subst h0; simp [bd_zero]
    · rw [bd_pos h0, List.length_cons]
      have := ih (n := n / B16) (by rw [Nat.div_lt_iff_lt_mul B16_pos, ← Nat.pow_succ]; exact h)
      omega
theorem bd_last {n : Nat} (h : n ≠ 0) : B16 ^ ((bd n).length - 1) ≤ n := by
 have h1 : ¬ (bd n).length ≤ (bd n).length - 1 := by
  have : (bd n).length ≠ 0 := fun e => h (bd_eq_nil.1 (List.eq_nil_of_length_eq_zero e))
  omega
 rw [bd_length] at h1
 omega
theorem bd_lt {a b : Nat} (h : (bd a).length < (bd b).length) : a < b := by
 have h1 : a < B16 ^ (bd a).length := bd_length.1 (Nat.le_refl _)
 have hb : b ≠ 0 := fun e => by rw [e, bd_zero] at h; simp at h
 have h2 := bd_last hb
 exact Nat.lt_of_lt_of_le h1 (Nat.le_trans (Nat.pow_le_pow_right B16_pos (by omega)) h2)
theorem bval_at {X : List Nat} {k : Nat} (h : k < X.length) : bval X = bval (X.take k) + B16 ^ k * (X.getD k 0 + B16 * bval (X.drop (k + 1))) := by
 conv => lhs; rw [← List.take_append_drop (k + 1) X]
 rw [bval_append, take_snoc _ _ h, bval_snoc, List.length_append, List.length_take, Nat.min_eq_left (by omega), List.length_singleton, Nat.mul_add, Nat.pow_succ, Nat.mul_assoc]
 omega
theorem bval_lt_at {X Y : List Nat} {k : Nat} (hw : Wb X) (hl : X.length = Y.length) (h : k < X.length) (he : X.drop (k + 1) = Y.drop (k + 1)) (hlt : X.getD k 0 < Y.getD k 0) : bval X < bval Y := by
 rw [bval_at h, bval_at (by omega : k < Y.length), he]
 have h1 := bval_lt _ (hw.take k)
 rw [List.length_take, Nat.min_eq_left (by omega)] at h1
 have h2 : B16 ^ k * (X.getD k 0 + B16 * bval (Y.drop (k + 1)) + 1) ≤ B16 ^ k * (Y.getD k 0 + B16 * bval (Y.drop (k + 1))) := Nat.mul_le_mul_left _ (by omega)
 rw [Nat.mul_add, Nat.mul_one] at h2
 omega
end Go.Proofs.YtohhkjamddojmaaGreatDoor.Big

namespace Go.Proofs.YtohhkjamddojmaaGreatDoor.Big

theorem bval_take_succ (a : List Nat) (i : Nat) : bval (a.take (i + 1)) = bval (a.take i) + B16 ^ i * a.getD i 0 := by
 rcases Nat.lt_or_ge i a.length with h | h
 · rw [take_snoc _ _ h, bval_snoc, List.length_take, Nat.min_eq_left (Nat.le_of_lt h)]
 · rw [List.take_of_length_le (by omega), List.take_of_length_le h, List.getD, List.getElem?_eq_none h]
   simp
/-- a sum's digit -/
theorem plus_step {a b o : List Nat} {i c t : Nat} (ho : o.length = i) (h : bval o + B16 ^ i * c = bval (a.take i) + bval (b.take i)) (ht : t = c + a.getD i 0 + b.getD i 0) :
 bval (o ++ [t % B16]) + B16 ^ (i + 1) * (t / B16) = bval (a.take (i + 1)) + bval (b.take (i + 1)) := by
 rw [bval_snoc, ho, bval_take_succ, bval_take_succ]
 have e : B16 ^ (i + 1) * (t / B16) = B16 ^ i * (B16 * (t / B16)) := by rw [Nat.pow_succ, Nat.mul_assoc]
 have e2 := Nat.mod_add_div t B16
 have e3 : B16 ^ i * (t % B16) + B16 ^ i * (B16 * (t / B16)) = B16 ^ i * t := by rw [← Nat.mul_add, e2]
 have e4 : B16 ^ i * t = B16 ^ i * c + B16 ^ i * a.getD i 0 + B16 ^ i * b.getD i 0 := by rw [ht, Nat.mul_add, Nat.mul_add]
 omega
/-- a difference's digit -/
theorem minus_step {a b o : List Nat} {i c d c' : Nat} (ho : o.length = i) (h : bval o + bval (b.take i) = bval (a.take i) + B16 ^ i * c) (ht : d + c + b.getD i 0 = a.getD i 0 + B16 * c') :
 bval (o ++ [d]) + bval (b.take (i + 1)) = bval (a.take (i + 1)) + B16 ^ (i + 1) * c' := by
 rw [bval_snoc, ho, bval_take_succ, bval_take_succ]
 have e : B16 ^ (i + 1) * c' = B16 ^ i * (B16 * c') := by rw [Nat.pow_succ, Nat.mul_assoc]
 have e4 : B16 ^ i * (d + c + b.getD i 0) = B16 ^ i * (a.getD i 0 + B16 * c') := by rw [ht]
 rw [Nat.mul_add, Nat.mul_add, Nat.mul_add] at e4
 omega
theorem minus_end {a b o : List Nat} {c : Nat} (ho : o.length = a.length) (hw : Wb o) (h : bval o + bval b = bval a + B16 ^ a.length * c) (hle : bval b ≤ bval a) : c = 0 ∧ bval o = bval a - bval b := by
 have h1 := bval_lt o hw
 rw [ho] at h1
 have hc : c = 0 := by
  rcases Nat.eq_zero_or_pos c with e | e
  · exact e
  · have := Nat.le_mul_of_pos_right (B16 ^ a.length) e
    omega
 subst hc
 exact ⟨rfl, by omega⟩
/-- a digit changed -/
theorem bval_set {l : List Nat} {p v : Nat} (h : p < l.length) : bval (l.set p v) + B16 ^ p * l.getD p 0 = bval l + B16 ^ p * v := by
 have e : l.set p v = l.take p ++ v :: l.drop (p + 1) := by
  rw [List.set_eq_take_append_cons_drop, if_pos h]
 have e2 : l = l.take p ++ l.getD p 0 :: l.drop (p + 1) := by
  conv => lhs; rw [← List.take_append_drop p l]
  congr 1
  rw [List.drop_eq_getElem_cons h]
  simp [List.getD, h]
 have e3 : bval l = bval (l.take p) + B16 ^ p * (l.getD p 0 + B16 * bval (l.drop (p + 1))) := by
  conv => lhs; rw [e2]
  rw [bval_append, List.length_take, Nat.min_eq_left (by omega)]
  rfl
 rw [e, e3, bval_append, List.length_take, Nat.min_eq_left (by omega)]
 show _ + B16 ^ p * (v + B16 * _) + _ = _
 rw [Nat.mul_add, Nat.mul_add]
 omega
/-- a product's digit -/
theorem prod_step {o b : List Nat} {V i k c x t : Nat} (hp : i + k < o.length) (h : bval o + B16 ^ (i + k) * c = V + B16 ^ i * (x * bval (b.take k))) (ht : t = c + o.getD (i + k) 0 + x * b.getD k 0) :
 bval (o.set (i + k) (t % B16)) + B16 ^ (i + (k + 1)) * (t / B16) = V + B16 ^ i * (x * bval (b.take (k + 1))) := by
 have e := bval_set (v := t % B16) hp
 rw [bval_take_succ]
 have e1 : B16 ^ (i + (k + 1)) * (t / B16) = B16 ^ (i + k) * (B16 * (t / B16)) := by rw [← Nat.add_assoc, Nat.pow_succ, Nat.mul_assoc]
 have e2 := Nat.mod_add_div t B16
 have e3 : B16 ^ (i + k) * (t % B16) + B16 ^ (i + k) * (B16 * (t / B16)) = B16 ^ (i + k) * t := by rw [← Nat.mul_add, e2]
 have e4 : B16 ^ (i + k) * t = B16 ^ (i + k) * c + B16 ^ (i + k) * o.getD (i + k) 0 + B16 ^ (i + k) * (x * b.getD k 0) := by rw [ht, Nat.mul_add, Nat.mul_add]
 have e5 : B16 ^ i * (x * (bval (b.take k) + B16 ^ k * b.getD k 0)) = B16 ^ i * (x * bval (b.take k)) + B16 ^ (i + k) * (x * b.getD k 0) := by
  rw [Nat.mul_add, Nat.mul_add, Nat.pow_add]
  congr 1
  ac_rfl
 omega
/-- a shifted digit -/
theorem shl_step {a o : List Nat} {i c s t : Nat} (ho : o.length = i) (h : bval o + B16 ^ i * c = bval (a.take i) * 2 ^ s) (ht : t = c + a.getD i 0 * 2 ^ s) :
 bval (o ++ [t % B16]) + B16 ^ (i + 1) * (t / B16) = bval (a.take (i + 1)) * 2 ^ s := by
 rw [bval_snoc, ho, bval_take_succ, Nat.add_mul, ← h]
 have e : B16 ^ (i + 1) * (t / B16) = B16 ^ i * (B16 * (t / B16)) := by rw [Nat.pow_succ, Nat.mul_assoc]
 have e2 := Nat.mod_add_div t B16
 have e3 : B16 ^ i * (t % B16) + B16 ^ i * (B16 * (t / B16)) = B16 ^ i * t := by rw [← Nat.mul_add, e2]
 have e4 : B16 ^ i * t = B16 ^ i * c + B16 ^ i * a.getD i 0 * 2 ^ s := by rw [ht, Nat.mul_add, Nat.mul_assoc]
 omega
/-- a digit of a multiple taken away; the carry is what is lent -/
theorem take_step {r m o : List Nat} {i c q d c' : Nat} (ho : o.length = i) (h : bval o + q * bval (m.take i) = bval (r.take i) + B16 ^ i * c) (ht : d + c + q * m.getD i 0 = r.getD i 0 + B16 * c') :
 bval (o ++ [d]) + q * bval (m.take (i + 1)) = bval (r.take (i + 1)) + B16 ^ (i + 1) * c' := by
 rw [bval_snoc, ho, bval_take_succ, bval_take_succ, Nat.mul_add]
 have e : B16 ^ (i + 1) * c' = B16 ^ i * (B16 * c') := by rw [Nat.pow_succ, Nat.mul_assoc]
 have e5 : q * (B16 ^ i * m.getD i 0) = B16 ^ i * (q * m.getD i 0) := by simp only [Nat.mul_left_comm]
 have e4 : B16 ^ i * (d + c + q * m.getD i 0) = B16 ^ i * (r.getD i 0 + B16 * c') := by rw [ht]
 rw [Nat.mul_add, Nat.mul_add, Nat.mul_add] at e4
 omega
end Go.Proofs.YtohhkjamddojmaaGreatDoor.Big

namespace Go.Proofs.YtohhkjamddojmaaGreatDoor.Big

theorem bval_drop (a : List Nat) (i : Nat) : bval (a.drop i) = a.getD i 0 + B16 * bval (a.drop (i + 1)) := by
 rcases Nat.lt_or_ge i a.length with h | h
 · rw [List.drop_eq_getElem_cons h]
   simp [List.getD, h, bval]
 · rw [List.drop_of_length_le h, List.drop_of_length_le (by omega), List.getD, List.getElem?_eq_none h]
   rfl
/-- the guess: not too great -/
theorem rest_guess {r ms : List Nat} {k q : Nat} (hr : r.length = k + 2) (hm : ms.length = k + 1) (hw : Wb ms) (hq : q = (r.getD (k + 1) 0 * B16 + r.getD k 0) / (ms.getD k 0 + 1)) : q * bval ms ≤ bval r := by
 have e1 : bval r = bval (r.take k) + B16 ^ k * (r.getD (k + 1) 0 * B16 + r.getD k 0) := by
  have : bval r = bval (r.take (k + 1 + 1)) := by rw [List.take_of_length_le (by omega)]
  rw [this, bval_take_succ, bval_take_succ, Nat.pow_succ, Nat.mul_add, Nat.mul_assoc, Nat.mul_comm B16]
  omega
 have e2 : bval ms < B16 ^ k * (ms.getD k 0 + 1) := by
  have e : bval ms = bval (ms.take (k + 1)) := by rw [List.take_of_length_le (by omega)]
  have h := bval_lt (ms.take k) (hw.take _)
  rw [List.length_take, Nat.min_eq_left (by omega)] at h
  rw [e, bval_take_succ, Nat.mul_add]
  omega
 have e3 : q * (ms.getD k 0 + 1) ≤ r.getD (k + 1) 0 * B16 + r.getD k 0 := by rw [hq]; exact Nat.div_mul_le_self _ _
 have e4 := Nat.mul_le_mul_left q (Nat.le_of_lt e2)
 have e5 := Nat.mul_le_mul_left (B16 ^ k) e3
 have e6 : q * (B16 ^ k * (ms.getD k 0 + 1)) = B16 ^ k * (q * (ms.getD k 0 + 1)) := Nat.mul_left_comm _ _ _
 omega
/-- the digits of a 2^n, from place i on -/
def RT (a : List Nat) (n i : Nat) : Nat := bval (a.drop i) * 2 ^ n + (if i = 0 then 0 else a.getD (i - 1) 0) / 2 ^ (16 - n)
theorem RT_zero (a : List Nat) (n : Nat) : RT a n 0 = bval a * 2 ^ n := by unfold RT; rw [if_pos rfl, Nat.zero_div]; rfl
theorem RT_end (a : List Nat) (n : Nat) : RT a n (a.length + 1) = 0 := by
 unfold RT
 rw [List.drop_of_length_le (by omega), if_neg (by omega), Nat.add_sub_cancel, List.getD, List.getElem?_eq_none (Nat.le_refl _)]
 simp [bval]
theorem pow16 {n : Nat} (h : n ≤ 15) : 2 ^ (16 - n) * 2 ^ n = B16 := by rw [← Nat.pow_add, show 16 - n + n = 16 by omega]; rfl
theorem sh16 {n : Nat} (x : Nat) (h : n ≤ 15) : x * 2 ^ n / B16 = x / 2 ^ (16 - n) ∧ x * 2 ^ n % B16 = x % 2 ^ (16 - n) * 2 ^ n := by
 rw [← pow16 h]
 exact ⟨Nat.mul_div_mul_right _ _ (Nat.pow_pos (by decide)), Nat.mul_mod_mul_right _ _ _⟩
theorem sh16_low {n x : Nat} (h : n ≤ 15) (hx : x < B16) : x / 2 ^ (16 - n) < 2 ^ n := by
 rw [Nat.div_lt_iff_lt_mul (Nat.pow_pos (by decide)), Nat.mul_comm, pow16 h]; exact hx
theorem RT_step {a : List Nat} {n : Nat} (i : Nat) (h : n ≤ 15) (hw : Wb a) :
 RT a n i = B16 * RT a n (i + 1) + (a.getD i 0 * 2 ^ n % B16 + (if i = 0 then 0 else a.getD (i - 1) 0) / 2 ^ (16 - n)) ∧
 a.getD i 0 * 2 ^ n % B16 + (if i = 0 then 0 else a.getD (i - 1) 0) / 2 ^ (16 - n) < B16 := by
 constructor
 · unfold RT
   rw [bval_drop a i, if_neg (show ¬ i + 1 = 0 by omega), Nat.add_sub_cancel, Nat.add_mul, Nat.mul_add]
   have e := (sh16 (a.getD i 0) h).1
   have e2 := Nat.mod_add_div (a.getD i 0 * 2 ^ n) B16
   rw [e] at e2
   have e3 : B16 * bval (a.drop (i + 1)) * 2 ^ n = B16 * (bval (a.drop (i + 1)) * 2 ^ n) := Nat.mul_assoc _ _ _
   omega
 · rw [(sh16 _ h).2]
   have h1 : (if i = 0 then 0 else a.getD (i - 1) 0) / 2 ^ (16 - n) < 2 ^ n := by
    apply sh16_low h
    split
    · exact B16_pos
    · exact hw.getD _
   have h2 : a.getD i 0 % 2 ^ (16 - n) < 2 ^ (16 - n) := Nat.mod_lt _ (Nat.pow_pos (by decide))
   have h3 := Nat.mul_le_mul_right (2 ^ n) h2
   rw [pow16 h, Nat.succ_mul] at h3
   omega
/-- one digit more, and what is left of it -/
theorem rest_mod {T T' M R d : Nat} (h : R = T' % M) (e : T = B16 * T' + d) : (R * B16 + d) % M = T % M := by
 rw [h, e, Nat.mul_comm B16, Nat.add_mod, Nat.mul_mod, Nat.mod_mod, ← Nat.mul_mod, ← Nat.add_mod]
/-- shifted back -/
theorem back_step {r o : List Nat} {i n V d : Nat} (hn : n ≤ 15) (hw : Wb r) (ho : o.length = i) (h : bval o + B16 ^ i * (bval (r.drop i) / 2 ^ n) = V) (hd : d = (r.getD i 0 + B16 * r.getD (i + 1) 0) / 2 ^ n % B16) :
 bval (o ++ [d]) + B16 ^ (i + 1) * (bval (r.drop (i + 1)) / 2 ^ n) = V := by
 have hp : 0 < 2 ^ n := Nat.pow_pos (by decide)
 have key : ∀ Y, (r.getD i 0 + B16 * Y) / 2 ^ n = B16 * (Y / 2 ^ n) + (r.getD i 0 + B16 * (Y % 2 ^ n)) / 2 ^ n := fun Y => by
  conv => lhs; rw [← Nat.mod_add_div Y (2 ^ n)]
  rw [Nat.mul_add, ← Nat.add_assoc, show B16 * (2 ^ n * (Y / 2 ^ n)) = 2 ^ n * (B16 * (Y / 2 ^ n)) from Nat.mul_left_comm _ _ _, Nat.add_mul_div_left _ _ hp, Nat.add_comm]
 have room : ∀ Y, (r.getD i 0 + B16 * (Y % 2 ^ n)) / 2 ^ n < B16 := fun Y => by
  rw [Nat.div_lt_iff_lt_mul hp]
  have h1 := Nat.mod_lt Y hp
  have h2 := Nat.mul_le_mul_left B16 h1
  have h3 := hw.getD i
  rw [Nat.mul_succ] at h2
  omega
 have e1 : bval (r.drop (i + 1)) % 2 ^ n = r.getD (i + 1) 0 % 2 ^ n := by
  rw [bval_drop r (i + 1), ← pow16 hn, Nat.mul_comm (2 ^ (16 - n)), Nat.mul_assoc, Nat.add_mul_mod_self_left]
 have e2 : d = (r.getD i 0 + B16 * (r.getD (i + 1) 0 % 2 ^ n)) / 2 ^ n := by
  rw [hd, key, Nat.mul_add_mod, Nat.mod_eq_of_lt (room _)]
 have e3 : bval (r.drop i) / 2 ^ n = B16 * (bval (r.drop (i + 1)) / 2 ^ n) + d := by
  rw [bval_drop r i, key, e1, ← e2]
 rw [e3, Nat.mul_add] at h
 rw [bval_snoc, ho, Nat.pow_succ, Nat.mul_assoc]
 omega
theorem rest_fin (a m n : Nat) : a * 2 ^ n % (m * 2 ^ n) / 2 ^ n = a % m := by
 rw [Nat.mul_mod_mul_right, Nat.mul_div_cancel _ (Nat.pow_pos (by decide))]
end Go.Proofs.YtohhkjamddojmaaGreatDoor.Big

namespace Go.Proofs.YtohhkjamddojmaaGreatDoor.Big
open Go.RowKit

/-- a row of ints in memory -/
def RowI (w : World) (p : Option Addr) (c : Nat) (xs : List Nat) : Prop :=
 xs.length ≤ c ∧ c ≤ maxLen ∧ (0 < xs.length → ∃ b o, p = some ⟨b, o, .none⟩) ∧ ∀ b o, p = some ⟨b, o, .none⟩ → ∀ i, i < xs.length → w.cell? ⟨b, o + i, .none⟩ = some (.int .i64 (xs.getD i 0 : Nat))
theorem RowI.take {w : World} {p : Option Addr} {c : Nat} {xs : List Nat} (h : RowI w p c xs) (k : Nat) : RowI w p c (xs.take k) := by
 obtain ⟨h1, h2, h3, h4⟩ := h
 have hl : (xs.take k).length ≤ xs.length := by rw [List.length_take]; exact Nat.min_le_right _ _
 refine ⟨by omega, h2, fun h0 => h3 (by omega), fun b o e i hi => ?_⟩
 rw [h4 b o e i (by omega), getD_take (by rw [List.length_take] at hi; omega)]
set_option maxHeartbeats 2000000 in
set_option maxRecDepth 100000 in
theorem trimS (p : Option Addr) (c : Nat) (xs : List Nat) (w : World) (h : RowI w p c xs) : Calls Tryz.prog 62 #[.slice p xs.length c] w (fun e w' => e = .returned (.slice p (bnorm xs).length c) ∧ w' = w) := by
 have hcm : c ≤ 9223372036854775807 := h.2.1
 have H := Lib.hid h
 clear h
 rcases Nat.eq_zero_or_pos xs.length with h0 | h0
 · obtain rfl : xs = [] := List.eq_nil_of_length_eq_zero h0
   clear h0 H
   go_enter Tryz.func62, Tryz.ntmps62
   go_wp2_with fail
   go_loopw [0] (fun v wr => v = .slice p 0 c ∧ wr = w) (fun _ _ => 0)
   case atStart => exact ⟨rfl, rfl⟩
   case round =>
    obtain ⟨rfl, rfl⟩ := hrel
    go_wp2_with fail
    go_ret
    exact ⟨rfl, rfl⟩
 · obtain ⟨b, o, rfl⟩ := H.out.2.2.1 h0
   clear h0
   go_enter Tryz.func62, Tryz.ntmps62
   go_wp2_with fail
   go_loopw [0] (fun v wr => ∃ k : Nat, v = .slice (some ⟨b, o, .none⟩) k c ∧ wr = w ∧ RowKit.Hid (k ≤ xs.length ∧ bnorm xs = bnorm (xs.take k))) (fun v _ => (match v with | .slice _ l _ => l | _ => 0))
   case atStart => exact ⟨xs.length, rfl, rfl, ⟨Nat.le_refl _, by rw [List.take_length]⟩⟩
   case round =>
    obtain ⟨k, rfl, rfl, HR⟩ := hrel
    by_cases hk0 : k = 0
    · subst hk0
      go_wp2_with fail
      go_ret
      exact ⟨by rw [HR.out.2]; simp [bnorm], rfl⟩
    · obtain ⟨j, hj⟩ : ∃ j, k = j + 1 := ⟨k - 1, by omega⟩
      obtain ⟨k1, k2⟩ := HR.out
      have hjl : j < xs.length := by omega
      have hcj := H.out.2.2.2 b o rfl j hjl
      have hlc := H.out.1
      have i0 : (0 : Int) < k := by omega
      have i1 : (j : Int) < k := by omega
      have W1 := Lib.hid (show wrap64 ((k : Int) - 1) = j from wrapN (by omega) (by omega))
      have i2 : (j : Int) ≤ c := by omega
      have i3 : j ≤ c := by omega
      by_cases hz : xs.getD j 0 = 0
      · have HN := Lib.hid (show j ≤ xs.length ∧ bnorm xs = bnorm (xs.take j) from ⟨Nat.le_of_lt hjl, by rw [k2, hj]; exact bnorm_take_succ hjl hz⟩)
        rw [hz] at hcj
        have w1 := W1.out
        have HJ := Lib.hid hj
        clear hz hj k1 k2 hjl hlc HR
        go_wp2_with fail
        go_roundw
        case rel => exact ⟨j, by first | rfl | trivial, by first | rfl | trivial, HN.out⟩
        case measure => have := HJ.out; clear w1; show j < k; omega
      · have HN := Lib.hid (show (bnorm xs).length = k by rw [k2, hj]; exact bnorm_take_end hjl hz)
        obtain ⟨v, hv⟩ : ∃ v, v = xs.getD j 0 := ⟨_, rfl⟩
        rw [← hv] at hcj hz
        have hz2 : ((v : Int) == 0) = false := by rw [beq_eq_false_iff_ne]; omega
        have w1 := W1.out
        clear hz hj k1 k2 hjl hlc HR hv
        go_wp2_with fail
        go_ret
        exact ⟨by rw [HN.out]; rfl, rfl⟩
end Go.Proofs.YtohhkjamddojmaaGreatDoor.Big
