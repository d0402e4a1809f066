/- What a function owns: Ints by pointer and value, in an order; the operations over it. -/
import Derived.Test.YtohhkjamddojmaaGreatDoorIG
import Derived.Test.YtohhkjamddojmaaGreatDoorIJ
namespace Go.Proofs.YtohhkjamddojmaaGreatDoor.Big
open Go.RowKit

theorem Kept.cell {R : Nat → Prop} {w w' : World} (h : Kept R w w') {b o : Nat} {v : Value} (hR : R b) (hc : w.cell? ⟨b, o, .none⟩ = some v) : w'.cell? ⟨b, o, .none⟩ = some v := by
  have hlt : b < w.heap.size := by
    rcases Nat.lt_or_ge b w.heap.size with h' | h'
    · exact h'
    · simp [World.cell?, Array.getElem?_eq_none h'] at hc
  rw [← hc]
  unfold World.cell?
  rw [h.block b hlt (fun e => e hR)]
theorem Tab.keptR {R : Nat → Prop} {w w' : World} (h : Tab w) (hk : Kept R w w') (low : ∀ k, k < 8 → R k) : Tab w' :=
  ⟨hk.cell (low 4 (by omega)) h.sqr, hk.cell (low 5 (by omega)) h.ksqr, hk.cell (low 6 (by omega)) h.kmul, hk.cell (low 7 (by omega)) h.kdiv⟩
theorem Kept.drew (R : Nat → Prop) (w : World) (n : Nat) : Kept R w (w.drewN n) := Grow.none (grown_drewN w n .none) _
theorem Ints.drewN {R : Nat → Prop} {w : World} {zs : List Nat} {vs : List Int} (h : Ints R w zs vs) (n : Nat) : Ints R (w.drewN n) zs vs := by
  obtain ⟨ps, qs, h⟩ := h
  exact ⟨ps, qs, ⟨h.old, h.lenV, h.lenP, h.lenQ, fun i z v p q h1 h2 h3 h4 => (h.one i z v p q h1 h2 h3 h4).grow (Grow.none (grown_drewN w n .none) (fun _ => False)) id (fun _ _ => id), h.own, h.zz, h.pp, h.zp⟩⟩

/-- Since w0 nothing has turned but what is free to; the Ints L (pointer, value) are there, apart from each other; the thresholds are there. -/
structure Own (R : Nat → Prop) (w0 w : World) (L : List (Nat × Int)) : Prop where
  ints : Ints R w (L.map Prod.fst) (L.map Prod.snd)
  kept : Kept R w0 w
  tab : Tab w
  low : ∀ k, k < 8 → R k
theorem Own.drew {R : Nat → Prop} {w0 w : World} {L : List (Nat × Int)} (h : Own R w0 w L) (n : Nat) : Own R w0 (w.drewN n) L :=
  ⟨h.ints.drewN n, h.kept.trans (Kept.drew R w n), h.tab.keptR (Kept.drew R w n) h.low, h.low⟩
theorem Own.since {R : Nat → Prop} {w0 w : World} {L : List (Nat × Int)} (h : Own R w0 w L) : Own R w w L := ⟨h.ints, Kept.refl R w, h.tab, h.low⟩
theorem Own.after {R : Nat → Prop} {w0 w w' : World} {L L' : List (Nat × Int)} (h : Own R w0 w L) (h' : Own R w w' L') : Own R w0 w' L' := ⟨h'.ints, h.kept.trans h'.kept, h'.tab, h'.low⟩
theorem Own.step {R : Nat → Prop} {w0 w w' : World} {L L' : List (Nat × Int)} {zs : List Nat} {vs : List Int} (h : Own R w0 w L) (hi : Ints R w' zs vs) (hk : Kept R w w') (e1 : zs = L'.map Prod.fst) (e2 : vs = L'.map Prod.snd) : Own R w0 w' L' := by
  subst e1 e2
  exact ⟨hi, h.kept.trans hk, h.tab.keptR hk h.low, h.low⟩
theorem at1 {L : List (Nat × Int)} {i z : Nat} {v : Int} (h : L[i]? = some (z, v)) : (L.map Prod.fst)[i]? = some z := by rw [List.getElem?_map, h]; rfl
theorem at2 {L : List (Nat × Int)} {i z : Nat} {v : Int} (h : L[i]? = some (z, v)) : (L.map Prod.snd)[i]? = some v := by rw [List.getElem?_map, h]; rfl
theorem set1 {L : List (Nat × Int)} {i z : Nat} {v : Int} (h : L[i]? = some (z, v)) (u : Int) : L.map Prod.fst = (L.set i (z, u)).map Prod.fst := by
  rw [List.map_set]; exact (set_same (at1 h)).symm
theorem set2 (L : List (Nat × Int)) (i z : Nat) (u : Int) : (L.map Prod.snd).set i u = (L.set i (z, u)).map Prod.snd := by rw [List.map_set]

/-- what an operation gives that writes the Int z and returns it -/
def OpP (R : Nat → Prop) (w0 : World) (z : Nat) (L : List (Nat × Int)) (e : Ending) (w' : World) : Prop := e = .returned (ptr z) ∧ Own R w0 w' L
theorem OpP.of {R : Nat → Prop} {w0 w : World} {L : List (Nat × Int)} (h : Own R w0 w L) {i z : Nat} {v u : Int} (hi : L[i]? = some (z, v)) {e : Ending} {w' : World} (hp : IntP R (L.map Prod.fst) ((L.map Prod.snd).set i u) z w e w') :
    OpP R w0 z (L.set i (z, u)) e w' := ⟨hp.1, h.step hp.2.1 hp.2.2 (set1 hi u) (set2 L i z u)⟩

section
variable {R : Nat → Prop} {w0 w : World} {L : List (Nat × Int)}
theorem addO (h : Own R w0 w L) (i j k : Nat) {z x y : Nat} {v a b : Int} (hi : L[i]? = some (z, v)) (hj : L[j]? = some (x, a)) (hk : L[k]? = some (y, b)) (hR : ¬ R z) (sa : Sz 640000 a) (sb : Sz 640000 b) :
    Calls Tryz.prog 130 #[ptr z, ptr x, ptr y] w (OpP R w0 z (L.set i (z, a + b))) :=
  (Int_Add h.ints i j k z x y a b (at1 hi) (at1 hj) (at1 hk) hR (at2 hj) (at2 hk) (Nat.le_trans (Sz.words (k := 10000) sa) (by decide)) (Nat.le_trans (Sz.words (k := 10000) sb) (by decide))).mono fun _ _ hp => OpP.of h hi hp
theorem subO (h : Own R w0 w L) (i j k : Nat) {z x y : Nat} {v a b : Int} (hi : L[i]? = some (z, v)) (hj : L[j]? = some (x, a)) (hk : L[k]? = some (y, b)) (hR : ¬ R z) (sa : Sz 640000 a) (sb : Sz 640000 b) :
    Calls Tryz.prog 142 #[ptr z, ptr x, ptr y] w (OpP R w0 z (L.set i (z, a - b))) :=
  (Int_Sub h.ints i j k z x y a b (at1 hi) (at1 hj) (at1 hk) hR (at2 hj) (at2 hk) (Nat.le_trans (Sz.words (k := 10000) sa) (by decide)) (Nat.le_trans (Sz.words (k := 10000) sb) (by decide))).mono fun _ _ hp => OpP.of h hi hp
theorem mulO (h : Own R w0 w L) (i j k : Nat) {z x y : Nat} {v a b : Int} (hi : L[i]? = some (z, v)) (hj : L[j]? = some (x, a)) (hk : L[k]? = some (y, b)) (hR : ¬ R z) (sa : Sz 704 a) (sb : Sz 2496 b) :
    Calls Tryz.prog 124 #[ptr z, ptr x, ptr y] w (OpP R w0 z (L.set i (z, a * b))) :=
  (Int_Mul h.ints i j k z x y a b (at1 hi) (at1 hj) (at1 hk) hR (at2 hj) (at2 hk) (Sz.words (k := 11) sa) (Sz.words (k := 39) sb) h.tab).mono fun _ _ hp => OpP.of h hi hp
theorem setO (h : Own R w0 w L) (i j : Nat) {z x : Nat} {v a : Int} (hi : L[i]? = some (z, v)) (hj : L[j]? = some (x, a)) (hR : ¬ R z) (sa : Sz 640000 a) :
    Calls Tryz.prog 144 #[ptr z, ptr x] w (OpP R w0 z (L.set i (z, a))) :=
  (Int_Set h.ints i j z x a (at1 hi) (at1 hj) hR (at2 hj) (Nat.le_trans (Sz.words (k := 10000) sa) (by decide))).mono fun _ _ hp => OpP.of h hi hp
theorem setIntO (h : Own R w0 w L) (i n : Nat) {z : Nat} {v : Int} (hi : L[i]? = some (z, v)) (hR : ¬ R z) (hn : n < 9223372036854775808) :
    Calls Tryz.prog 104 #[ptr z, .int .i64 n] w (OpP R w0 z (L.set i (z, (n : Int)))) :=
  (Int_SetInt64 h.ints i z n (at1 hi) hR hn).mono fun _ _ hp => OpP.of h hi hp
theorem signO (h : Own R w0 w L) (j : Nat) {x : Nat} {a : Int} (hj : L[j]? = some (x, a)) :
    Calls Tryz.prog 121 #[ptr x] w fun e w' => e = .returned (.int .i64 a.sign) ∧ w = w' :=
  (Int_Sign h.ints j x a (at1 hj) (at2 hj)).mono fun _ _ hp => ⟨hp.1, hp.2.symm⟩
theorem isInt64O (h : Own R w0 w L) (j n : Nat) {x : Nat} (hj : L[j]? = some (x, (n : Int))) (hn : n < 9223372036854775808) :
    Calls Tryz.prog 149 #[ptr x] w fun e w' => e = .returned (.bool true) ∧ w = w' :=
  (Int_IsInt64 h.ints j x n (at1 hj) (at2 hj) hn).mono fun _ _ hp => ⟨hp.1, hp.2.symm⟩
theorem int64O (h : Own R w0 w L) (j n : Nat) {x : Nat} (hj : L[j]? = some (x, (n : Int))) (hn : n < 9223372036854775808) :
    Calls Tryz.prog 150 #[ptr x] w fun e w' => e = .returned (.int .i64 n) ∧ w = w' :=
  (Int_Int64 h.ints j x n (at1 hj) (at2 hj) hn).mono fun _ _ hp => ⟨hp.1, hp.2.symm⟩
/-- what a function gives that makes an Int -/
def NewO (R : Nat → Prop) (w0 : World) (a : Int) (L : List (Nat × Int)) (e : Ending) (w' : World) : Prop := ∃ z, e = .returned (ptr z) ∧ Own R w0 w' ((z, a) :: L) ∧ ¬ R z
theorem newIntO (h : Own R w0 w L) (n : Nat) (hn : n < 9223372036854775808) : Calls Tryz.prog 119 #[.int .i64 n] w (NewO R w0 n L) :=
  (newInt R w _ _ h.ints n hn).mono fun _ _ ⟨z, he, hi, hk, hR, _⟩ => ⟨z, he, h.step (zs := z :: L.map Prod.fst) (vs := (n : Int) :: L.map Prod.snd) hi.front hk rfl rfl, hR⟩
/-- 'new(big.Int)' -/
theorem Own.new (h : Own R w0 w L) : Own R w0 (w.alloc (.cells #[.bool false, .slice .none 0 0] 172)) ((w.heap.size, 0) :: L) ∧ ¬ R w.heap.size := by
  obtain ⟨ps, qs, hf⟩ := h.ints
  obtain ⟨h1, h2, h3⟩ := hf.extend (grow_alloc w _) (one_zero w) (Nat.le_refl _) (fun b hb => by cases hb) (by simp [blk])
  exact ⟨h.step (zs := w.heap.size :: L.map Prod.fst) (vs := (0 : Int) :: L.map Prod.snd) (Ints.front ⟨_, _, h1⟩) h2 rfl rfl, h3⟩
theorem Own.tail {p : Nat × Int} (h : Own R w0 w (p :: L)) : Own R w0 w L := ⟨h.ints.tail, h.kept, h.tab, h.low⟩
theorem pick_map {α β : Type} (f : α → β) (l : List α) (is : List Nat) : (pick l is).map f = pick (l.map f) is := by
  unfold pick
  rw [List.map_filterMap]
  congr 1
  funext i
  simp
theorem Own.pick (h : Own R w0 w L) (is : List Nat) (hnd : is.Nodup) (hlt : ∀ i ∈ is, i < L.length) : Own R w0 w (pick L is) :=
  ⟨by rw [pick_map, pick_map]; exact h.ints.pick is hnd (by simpa using hlt), h.kept, h.tab, h.low⟩
/-- two of them are one only if they have one place -/
theorem Own.inj (h : Own R w0 w L) {i j x y : Nat} {a b : Int} (hi : L[i]? = some (x, a)) (hj : L[j]? = some (y, b)) (hij : i ≠ j) : x ≠ y := by
  rintro rfl
  obtain ⟨ps, qs, hf⟩ := h.ints
  exact hij (hf.zz i j x (at1 hi) (at1 hj))
theorem Own.lt (h : Own R w0 w L) {i x : Nat} {a : Int} (hi : L[i]? = some (x, a)) : x < w.heap.size := by
  obtain ⟨ps, qs, hf⟩ := h.ints
  obtain ⟨_, _, _, _, _, _, o⟩ := hf.at (at1 hi)
  exact o.str.lt
end
end Go.Proofs.YtohhkjamddojmaaGreatDoor.Big
