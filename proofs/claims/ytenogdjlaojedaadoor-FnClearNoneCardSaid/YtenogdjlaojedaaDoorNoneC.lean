/- 'impl.ClearDecode' and the law FnClearNone: what each call does. -/
import Derived.Test.YtenogdjlaojedaaDoorNoneB
namespace Go.Proofs.YtenogdjlaojedaaDoor.None
open Go.RowKit

set_option maxHeartbeats 400000 in
theorem own_nil (w : World) : Calls Tryd.prog 28 #[.slice none 0 0] w fun e w' => e = .returned (.slice none 0 0) ∧ w = w' := by
  go_enter Tryd.func28, Tryd.ntmps28
  go_wp2
  go_ret
  exact ⟨rfl, rfl⟩

theorem cells_at' {w : World} {b o n : Nat} {zs : List Int} (h : ∀ i, i < n → w.cell? ⟨b, o + i, none⟩ = some (.int .u8 (zs.getD i 0))) (hl : zs.length = n) :
    ∀ j u, (zs.map (Value.int .u8))[j]? = some u → w.cell? ((⟨b, o, none⟩ : Addr).add j) = some u := by
  intro j u hu
  have hj : j < zs.length := by
    have := (List.getElem?_eq_some_iff.1 hu).1
    simpa using this
  have e : (⟨b, o, none⟩ : Addr).add j = ⟨b, o + j, none⟩ := by unfold Addr.add; split <;> simp_all
  rw [e, h j (by omega)]
  rw [List.getElem?_map, List.getElem?_eq_getElem hj] at hu
  simp only [Option.map_some, Option.some.injEq] at hu
  rw [← hu]
  simp [List.getD, List.getElem?_eq_getElem hj]

theorem byte_range {n : Int} (h : (Lit.int .u8 n).wf = true) : 0 ≤ n ∧ n < 256 := by
  simp [Lit.wf, IntKind.min, IntKind.max, IntKind.signed, IntKind.bits] at h
  omega

theorem frozen_new (w : World) (c : Array Value) (t : TypeId) (o : Nat) : (w.alloc (.cells c t)).frozen? ⟨w.heap.size, o, none⟩ = false := by
  have := heap_alloc_new w (.cells c t)
  unfold World.frozen?
  rw [this]
  simp

theorem cells_at {w : World} {g n : Nat} {zs : List Int} (h : ∀ i, i < n → w.cell? ⟨g, 0 + i, none⟩ = some (.int .u8 (zs.getD i 0))) (hl : zs.length = n) :
    ∀ j u, (zs.map (Value.int .u8))[j]? = some u → w.cell? ((⟨g, 0, none⟩ : Addr).add j) = some u := by
  intro j u hu
  have hj : j < zs.length := by
    have := (List.getElem?_eq_some_iff.1 hu).1
    simpa using this
  have e : (⟨g, 0, none⟩ : Addr).add j = ⟨g, 0 + j, none⟩ := by unfold Addr.add; split <;> simp_all
  rw [e, h j (by omega)]
  rw [List.getElem?_map, List.getElem?_eq_getElem hj] at hu
  simp only [Option.map_some, Option.some.injEq] at hu
  rw [← hu]
  simp [List.getD, List.getElem?_eq_getElem hj]

set_option maxRecDepth 100000 in
set_option maxHeartbeats 1000000 in
/-- ClearDecode of bytes without a hyphen: nothing is found, the bytes are the rest -/
theorem clear_some (ad : Addr) (n c : Nat) (zs : List Int) (w : World) (hl : zs.length = n) (hn : n ≤ 4096) (hn0 : 0 < n)
    (hc : ∀ j u, (zs.map (Value.int .u8))[j]? = some u → w.cell? (ad.add j) = some u) (hz : ∀ i, i < n → 0 ≤ zs.getD i 0 ∧ zs.getD i 0 < 256 ∧ zs.getD i 0 ≠ 45) :
    Calls Tryd.prog 17 #[.slice (some ad) n c] w fun e w' => ∃ g cap, e = .returned (.agg #[.bool false, .slice none 0 0, .slice none 0 0, .slice none 0 0, .string ByteArray.empty, .slice none 0 0, .int .i64 0, .slice (some ⟨g, 0, none⟩) n cap]) ∧
      (∀ i, i < n → w'.cell? ⟨g, 0 + i, none⟩ = some (.int .u8 (zs.getD i 0))) ∧ Below w.heap.size w w' := by
  go_enter Tryd.func17, Tryd.ntmps17
  go_wp2_with fail
  refine (own_some ad n c zs _ hl hn (fun j u h => ?_)).mono ?_
  · exact cell_later ((Below.refl w.heap.size w).alloc (Nat.le_refl _) _) (hc j u h)
  rintro e w1 ⟨v, rfl, hown, hb1, _⟩
  obtain ⟨g, cap, rfl, hcap, hbase, hcell⟩ := own_cells hown hn0 hl
  have N : NoHy w1 g 0 n zs := ⟨hl, hn, hcell, hz⟩
  have HO := Lib.hid hown
  have HL := Lib.hid hl
  have HCELL := Lib.hid hcell
  have HC := Lib.hid hc
  have HZ := Lib.hid hz
  clear hown hl hcell hc hz
  go_wp2_with fail
  refine (decode_no g 0 n cap zs _ N hcap).mono ?_
  rintro e w2 ⟨rfl, hb2⟩
  have HN := Lib.hid N
  clear N
  go_wp2_with fail
  refine (own_some ⟨g, 0, none⟩ n cap zs _ HL.out hn (fun j u h => ?_)).mono ?_
  · exact cell_later hb2 (cells_at HCELL.out HL.out j u h)
  rintro e w3 ⟨v3, rfl, hown3, hb3, _⟩
  obtain ⟨g3, cap3, rfl, hcap3, hbase3, hcell3⟩ := own_cells hown3 hn0 HL.out
  have hz3 := hb1.size
  have hz4 := hb2.size
  have hz5 := hb3.size
  simp only [World.size_alloc] at hz3
  have hbT := (hb1.mono (Nat.le_refl _)).trans ((hb2.mono (by simp; omega)).trans (hb3.mono (by simp; omega)))
  have hlt : w.heap.size < w3.heap.size := by omega
  have k0 : w3.cell? ⟨w.heap.size, 0, none⟩ = some (.bool false) := (hbT.cell (p := ⟨w.heap.size, 0, none⟩) (by simp)).trans (by simp)
  have f0 : w3.frozen? ⟨w.heap.size, 0, none⟩ = false := (hbT.frozen (p := ⟨w.heap.size, 0, none⟩) (by simp)).trans (frozen_new _ _ _ _)
  have k1 : w3.cell? ⟨w.heap.size, 1, none⟩ = some (.slice none 0 0) := (hbT.cell (p := ⟨w.heap.size, 1, none⟩) (by simp)).trans (by simp)
  have f1 : w3.frozen? ⟨w.heap.size, 1, none⟩ = false := (hbT.frozen (p := ⟨w.heap.size, 1, none⟩) (by simp)).trans (frozen_new _ _ _ _)
  have k2 : w3.cell? ⟨w.heap.size, 2, none⟩ = some (.slice none 0 0) := (hbT.cell (p := ⟨w.heap.size, 2, none⟩) (by simp)).trans (by simp)
  have f2 : w3.frozen? ⟨w.heap.size, 2, none⟩ = false := (hbT.frozen (p := ⟨w.heap.size, 2, none⟩) (by simp)).trans (frozen_new _ _ _ _)
  have k3 : w3.cell? ⟨w.heap.size, 3, none⟩ = some (.slice none 0 0) := (hbT.cell (p := ⟨w.heap.size, 3, none⟩) (by simp)).trans (by simp)
  have f3 : w3.frozen? ⟨w.heap.size, 3, none⟩ = false := (hbT.frozen (p := ⟨w.heap.size, 3, none⟩) (by simp)).trans (frozen_new _ _ _ _)
  have k4 : w3.cell? ⟨w.heap.size, 4, none⟩ = some (.string { data := #[] }) := (hbT.cell (p := ⟨w.heap.size, 4, none⟩) (by simp)).trans (by simp)
  have f4 : w3.frozen? ⟨w.heap.size, 4, none⟩ = false := (hbT.frozen (p := ⟨w.heap.size, 4, none⟩) (by simp)).trans (frozen_new _ _ _ _)
  have k5 : w3.cell? ⟨w.heap.size, 5, none⟩ = some (.slice none 0 0) := (hbT.cell (p := ⟨w.heap.size, 5, none⟩) (by simp)).trans (by simp)
  have f5 : w3.frozen? ⟨w.heap.size, 5, none⟩ = false := (hbT.frozen (p := ⟨w.heap.size, 5, none⟩) (by simp)).trans (frozen_new _ _ _ _)
  have k6 : w3.cell? ⟨w.heap.size, 6, none⟩ = some (.int .i64 0) := (hbT.cell (p := ⟨w.heap.size, 6, none⟩) (by simp)).trans (by simp)
  have f6 : w3.frozen? ⟨w.heap.size, 6, none⟩ = false := (hbT.frozen (p := ⟨w.heap.size, 6, none⟩) (by simp)).trans (frozen_new _ _ _ _)
  have k7 : w3.cell? ⟨w.heap.size, 7, none⟩ = some (.slice none 0 0) := (hbT.cell (p := ⟨w.heap.size, 7, none⟩) (by simp)).trans (by simp)
  have f7 : w3.frozen? ⟨w.heap.size, 7, none⟩ = false := (hbT.frozen (p := ⟨w.heap.size, 7, none⟩) (by simp)).trans (frozen_new _ _ _ _)
  have HO3 := Lib.hid hown3
  have HC3 := Lib.hid hcell3
  have HBA := Lib.hid hb1
  have HBB := Lib.hid hb2
  have HBC := Lib.hid hb3
  have HBT := Lib.hid hbT
  clear hown3 hcell3 hb1 hb2 hb3 hbT
  go_wp2_with fail
  refine bodyPost_ret (v := .agg #[.bool false, .slice none 0 0, .slice none 0 0, .slice none 0 0, .string ByteArray.empty, .slice none 0 0, .int .i64 0, .slice (some ⟨g3, 0, none⟩) n cap3]) (by simp [results, Tryd.results17, go_sem, k0, k1, k2, k3, k4, k5, k6, k7]; rfl) rfl ⟨g3, cap3, rfl, fun i hi => ?_, ?_⟩
  · have hne : w.heap.size ≠ g3 := by omega
    have := HC3.out i hi
    have e : ∀ (u : World) (o : Nat) (x : Value), (u.setCell ⟨w.heap.size, o, none⟩ x).cell? ⟨g3, 0 + i, none⟩ = u.cell? ⟨g3, 0 + i, none⟩ := fun u o x => by
      apply World.cell?_setCell_other
      intro h
      exact hne (congrArg Addr.block h)
    rw [e, e, e, e, e, e, e, e]
    exact this
  · have B0 : Below w.heap.size w w3 := ((Below.refl _ _).alloc (Nat.le_refl _) _).trans (HBT.out.mono (by simp))
    exact (((((((B0.setCell (Nat.le_refl _) _).setCell (Nat.le_refl _) _).setCell (Nat.le_refl _) _).setCell (Nat.le_refl _) _).setCell (Nat.le_refl _) _).setCell (Nat.le_refl _) _).setCell (Nat.le_refl _) _).setCell (Nat.le_refl _) _

set_option maxRecDepth 100000 in
set_option maxHeartbeats 1000000 in
/-- ClearDecode of no bytes -/
theorem clear_none (w : World) (p : Option Addr) (c : Nat) (hown : Calls Tryd.prog 28 #[.slice p 0 c] (w.alloc (.cells #[.bool false, .slice none 0 0, .slice none 0 0, .slice none 0 0, .string { data := #[] }, .slice none 0 0, .int .i64 0, .slice none 0 0] 47)) fun e w' => e = .returned (.slice none 0 0) ∧ Below (w.alloc (.cells #[.bool false, .slice none 0 0, .slice none 0 0, .slice none 0 0, .string { data := #[] }, .slice none 0 0, .int .i64 0, .slice none 0 0] 47)).heap.size (w.alloc (.cells #[.bool false, .slice none 0 0, .slice none 0 0, .slice none 0 0, .string { data := #[] }, .slice none 0 0, .int .i64 0, .slice none 0 0] 47)) w') :
    Calls Tryd.prog 17 #[.slice p 0 c] w fun e w' => e = .returned (.agg #[.bool false, .slice none 0 0, .slice none 0 0, .slice none 0 0, .string ByteArray.empty, .slice none 0 0, .int .i64 0, .slice none 0 0]) ∧ Below w.heap.size w w' := by
  have HOWN := Lib.hid hown
  clear hown
  go_enter Tryd.func17, Tryd.ntmps17
  go_wp2_with fail
  refine HOWN.out.mono ?_
  rintro e w1 ⟨rfl, hb1⟩
  have HB1 := Lib.hid hb1
  clear hb1
  go_wp2_with fail
  refine (decode_none _).mono ?_
  rintro e w2 ⟨rfl, hb2⟩
  have HB2 := Lib.hid hb2
  clear hb2
  go_wp2_with fail
  refine (own_nil _).mono ?_
  rintro e w' ⟨rfl, rfl⟩
  have hb1 := HB1.out
  have hb2 := HB2.out
  have hz3 := hb1.size
  have hz4 := hb2.size
  simp only [World.size_alloc] at hz3
  have hbT := (hb1.mono (Nat.le_refl _)).trans (hb2.mono (by simp; omega))
  have hlt : w.heap.size < w2.heap.size := by omega
  have k0 : w2.cell? ⟨w.heap.size, 0, none⟩ = some (.bool false) := (hbT.cell (p := ⟨w.heap.size, 0, none⟩) (by simp)).trans (by simp)
  have f0 : w2.frozen? ⟨w.heap.size, 0, none⟩ = false := (hbT.frozen (p := ⟨w.heap.size, 0, none⟩) (by simp)).trans (frozen_new _ _ _ _)
  have k1 : w2.cell? ⟨w.heap.size, 1, none⟩ = some (.slice none 0 0) := (hbT.cell (p := ⟨w.heap.size, 1, none⟩) (by simp)).trans (by simp)
  have f1 : w2.frozen? ⟨w.heap.size, 1, none⟩ = false := (hbT.frozen (p := ⟨w.heap.size, 1, none⟩) (by simp)).trans (frozen_new _ _ _ _)
  have k2 : w2.cell? ⟨w.heap.size, 2, none⟩ = some (.slice none 0 0) := (hbT.cell (p := ⟨w.heap.size, 2, none⟩) (by simp)).trans (by simp)
  have f2 : w2.frozen? ⟨w.heap.size, 2, none⟩ = false := (hbT.frozen (p := ⟨w.heap.size, 2, none⟩) (by simp)).trans (frozen_new _ _ _ _)
  have k3 : w2.cell? ⟨w.heap.size, 3, none⟩ = some (.slice none 0 0) := (hbT.cell (p := ⟨w.heap.size, 3, none⟩) (by simp)).trans (by simp)
  have f3 : w2.frozen? ⟨w.heap.size, 3, none⟩ = false := (hbT.frozen (p := ⟨w.heap.size, 3, none⟩) (by simp)).trans (frozen_new _ _ _ _)
  have k4 : w2.cell? ⟨w.heap.size, 4, none⟩ = some (.string { data := #[] }) := (hbT.cell (p := ⟨w.heap.size, 4, none⟩) (by simp)).trans (by simp)
  have f4 : w2.frozen? ⟨w.heap.size, 4, none⟩ = false := (hbT.frozen (p := ⟨w.heap.size, 4, none⟩) (by simp)).trans (frozen_new _ _ _ _)
  have k5 : w2.cell? ⟨w.heap.size, 5, none⟩ = some (.slice none 0 0) := (hbT.cell (p := ⟨w.heap.size, 5, none⟩) (by simp)).trans (by simp)
  have f5 : w2.frozen? ⟨w.heap.size, 5, none⟩ = false := (hbT.frozen (p := ⟨w.heap.size, 5, none⟩) (by simp)).trans (frozen_new _ _ _ _)
  have k6 : w2.cell? ⟨w.heap.size, 6, none⟩ = some (.int .i64 0) := (hbT.cell (p := ⟨w.heap.size, 6, none⟩) (by simp)).trans (by simp)
  have f6 : w2.frozen? ⟨w.heap.size, 6, none⟩ = false := (hbT.frozen (p := ⟨w.heap.size, 6, none⟩) (by simp)).trans (frozen_new _ _ _ _)
  have k7 : w2.cell? ⟨w.heap.size, 7, none⟩ = some (.slice none 0 0) := (hbT.cell (p := ⟨w.heap.size, 7, none⟩) (by simp)).trans (by simp)
  have f7 : w2.frozen? ⟨w.heap.size, 7, none⟩ = false := (hbT.frozen (p := ⟨w.heap.size, 7, none⟩) (by simp)).trans (frozen_new _ _ _ _)
  have HBT := Lib.hid hbT
  clear hbT hb1 hb2
  go_wp2_with fail
  refine bodyPost_ret (v := .agg #[.bool false, .slice none 0 0, .slice none 0 0, .slice none 0 0, .string ByteArray.empty, .slice none 0 0, .int .i64 0, .slice none 0 0]) (by simp [results, Tryd.results17, go_sem, k0, k1, k2, k3, k4, k5, k6, k7]; rfl) rfl ⟨rfl, ?_⟩
  have B0 : Below w.heap.size w w2 := ((Below.refl _ _).alloc (Nat.le_refl _) _).trans (HBT.out.mono (by simp))
  exact (((((((B0.setCell (Nat.le_refl _) _).setCell (Nat.le_refl _) _).setCell (Nat.le_refl _) _).setCell (Nat.le_refl _) _).setCell (Nat.le_refl _) _).setCell (Nat.le_refl _) _).setCell (Nat.le_refl _) _).setCell (Nat.le_refl _) _

set_option maxHeartbeats 400000 in
theorem own_zero (ad : Addr) (c : Nat) (w : World) : Calls Tryd.prog 28 #[.slice (some ad) 0 c] w fun e w' => e = .returned (.slice none 0 0) ∧ Below w.heap.size w w' := by
  refine (own_some ad 0 c [] w rfl (by omega) (fun j u h => by simp at h)).mono ?_
  rintro e w' ⟨v, rfl, _, hb, hv⟩
  exact ⟨by rw [hv.2 rfl], hb⟩

theorem clear_zero (p : Option Addr) (c : Nat) (hpc : p = none → c = 0) (w : World) :
    Calls Tryd.prog 17 #[.slice p 0 c] w fun e w' => e = .returned (.agg #[.bool false, .slice none 0 0, .slice none 0 0, .slice none 0 0, .string ByteArray.empty, .slice none 0 0, .int .i64 0, .slice none 0 0]) ∧ Below w.heap.size w w' := by
  refine clear_none w p c ?_
  cases p with
  | none =>
    obtain rfl := hpc rfl
    exact (own_nil _).mono fun e w' ⟨he, hw⟩ => ⟨he, hw ▸ Below.refl _ _⟩
  | some ad => exact own_zero ad c _

/-- the bytes of the argument: nil, or a row of numbers -/
def IsRow (w : World) (a : Option Addr) (len cap : Nat) (zs : List Int) : Prop :=
  (a = none ∧ len = 0 ∧ cap = 0 ∧ zs = []) ∨
  ∃ x, a = some x ∧ len ≤ cap ∧ cap ≤ maxLen ∧ zs.length = cap ∧ (∀ i, i < zs.length → w.cell? (x.add i) = some (.int .u8 (zs.getD i 0))) ∧ ∀ n ∈ zs, (Lit.int .u8 n).wf = true

set_option maxHeartbeats 1000000 in
theorem law_long (a0 : Option Addr) (len cap : Nat) (w : World) (h : 4096 < len) (h2 : len ≤ maxLen) :
    Calls Tryd.prog 4 #[.slice a0 len cap] w fun e w' => e = .returned (.bool true) ∧ Below w.heap.size w w' := by
  unfold maxLen at h2
  by_cases hb : 2147483647 < len
  · go_enter Tryd.func4, Tryd.ntmps4
    go_wp2_with fail
    go_ret
    exact ⟨rfl, Below.refl _ _⟩
  · go_enter Tryd.func4, Tryd.ntmps4
    go_wp2_with fail
    go_ret
    exact ⟨rfl, Below.refl _ _⟩

set_option maxRecDepth 100000 in
set_option maxHeartbeats 1000000 in
theorem law_hyphen (a0 : Option Addr) (len cap : Nat) (w : World) (s : ByteArray) (h : len ≤ 4096) (hs : s.size ≤ maxLen) (hc : (convert 36 9 (.slice a0 len cap)).run Tryd.prog w = .ok (.string s) w) (hy : ¬ ∀ k (h : k < s.size), s[k].toNat ≠ 45) :
    Calls Tryd.prog 4 #[.slice a0 len cap] w fun e w' => e = .returned (.bool true) ∧ Below w.heap.size w w' := by
  obtain ⟨m, hm, e, hl⟩ := first_of s hy
  have HE := Lib.hid e
  have HL := Lib.hid hl
  clear e hl hy
  go_enter Tryd.func4, Tryd.ntmps4
  go_wp2_with fail
  refine (has_yes s m w hs hm HE.out HL.out).mono ?_
  rintro e w' ⟨rfl, rfl⟩
  go_wp2_with fail
  go_ret
  exact ⟨rfl, Below.refl _ _⟩

set_option maxRecDepth 100000 in
set_option maxHeartbeats 1000000 in
theorem law_zero (a0 : Option Addr) (cap : Nat) (w : World) (hpc : a0 = none → cap = 0) (hc : (convert 36 9 (.slice a0 0 cap)).run Tryd.prog w = .ok (.string ByteArray.empty) w) :
    Calls Tryd.prog 4 #[.slice a0 0 cap] w fun e w' => e = .returned (.bool true) ∧ Below w.heap.size w w' := by
  go_enter Tryd.func4, Tryd.ntmps4
  go_wp2_with fail
  refine (has_no ByteArray.empty w (by decide) (fun k h => absurd h (Nat.not_lt_zero k))).mono ?_
  rintro e w' ⟨rfl, rfl⟩
  go_wp2_with fail
  refine (clear_zero a0 cap hpc w).mono ?_
  rintro e w1 ⟨rfl, hb1⟩
  have HB1 := Lib.hid hb1
  clear hb1
  go_wp2_with fail
  refine (same_none _ _ _ _ _).mono ?_
  rintro e w2 ⟨rfl, hb2⟩
  have hz2 := hb2.size
  have k2 : w2.cell? ⟨w1.heap.size, 2, none⟩ = some (.slice none 0 0) := (hb2.cell (p := ⟨w1.heap.size, 2, none⟩) (by simp)).trans (by simp)
  have k3 : w2.cell? ⟨w1.heap.size, 3, none⟩ = some (.slice none 0 0) := (hb2.cell (p := ⟨w1.heap.size, 3, none⟩) (by simp)).trans (by simp)
  have HB2 := Lib.hid hb2
  clear hb2 hz2
  go_wp2_with fail
  go_ret
  exact ⟨rfl, HB1.out.trans (((Below.refl _ _).alloc (Nat.le_refl _) _).trans (HB2.out.mono (by simp)) |>.mono HB1.out.size)⟩

set_option maxRecDepth 100000 in
set_option maxHeartbeats 1000000 in
theorem law_plain (b o n cap : Nat) (zs : List Int) (w : World) (hn0 : 0 < n) (hn : n ≤ 4096) (hl : zs.length = n)
    (hcell : ∀ i, i < n → w.cell? ⟨b, o + i, none⟩ = some (.int .u8 (zs.getD i 0))) (hz : ∀ i, i < n → 0 ≤ zs.getD i 0 ∧ zs.getD i 0 < 256 ∧ zs.getD i 0 ≠ 45) :
    Calls Tryd.prog 4 #[.slice (some ⟨b, o, none⟩) n cap] w fun e w' => e = .returned (.bool true) ∧ Below w.heap.size w w' := by
  have hc : (convert 36 9 (.slice (some ⟨b, o, none⟩) n cap)).run Tryd.prog w = .ok (.string (strOfNums zs)) w := run_convert_bytes_arg w 36 5 Tryd.underlying36 Tryd.underlying5 b o n cap zs hl hcell 9 Tryd.underlying9
  have hno : ∀ k (h : k < (strOfNums zs).size), (strOfNums zs)[k].toNat ≠ 45 := by
    intro k h he
    rw [strOfNums_size] at h
    have hb := hz k (by omega)
    have e1 : (strOfNums zs)[k]'(by rw [strOfNums_size]; exact h) = UInt8.ofNat (zs.getD k 0).toNat := by
      show (strOfNums zs).data[k] = _
      simp [strOfNums, List.getD, List.getElem?_eq_getElem h]
    rw [e1] at he
    simp only [UInt8.toNat_ofNat'] at he
    omega
  have HCELL := Lib.hid hcell
  have HZ := Lib.hid hz
  have HNO := Lib.hid hno
  have HL := Lib.hid hl
  clear hcell hz hno hl
  go_enter Tryd.func4, Tryd.ntmps4
  go_wp2_with fail
  refine (has_no (strOfNums zs) w (by rw [strOfNums_size, HL.out]; unfold maxLen; omega) HNO.out).mono ?_
  rintro e w' ⟨rfl, rfl⟩
  go_wp2_with fail
  refine (clear_some ⟨b, o, none⟩ n cap zs w HL.out hn hn0 (cells_at' HCELL.out HL.out) HZ.out).mono ?_
  rintro e w1 ⟨g, cap1, rfl, hg, hb1⟩
  have HG := Lib.hid hg
  have HB1 := Lib.hid hb1
  clear hg hb1
  go_wp2_with fail
  have hal := (Below.refl w1.heap.size w1).alloc (Nat.le_refl _) (.cells #[.bool false, .slice none 0 0, .slice none 0 0, .slice none 0 0, .string ByteArray.empty, .slice none 0 0, .int .i64 0, .slice (some ⟨g, 0, none⟩) n cap1] 47)
  refine (same g 0 n cap1 b o cap zs _ (by unfold maxLen; omega) (fun i hi => cell_later hal (HG.out i hi)) (fun i hi => cell_later hal (cell_later HB1.out (HCELL.out i hi)))).mono ?_
  rintro e w2 ⟨rfl, hb2⟩
  have hz2 := hb2.size
  have k2 : w2.cell? ⟨w1.heap.size, 2, none⟩ = some (.slice none 0 0) := (hb2.cell (p := ⟨w1.heap.size, 2, none⟩) (by simp)).trans (by simp)
  have k3 : w2.cell? ⟨w1.heap.size, 3, none⟩ = some (.slice none 0 0) := (hb2.cell (p := ⟨w1.heap.size, 3, none⟩) (by simp)).trans (by simp)
  have HB2 := Lib.hid hb2
  have HAL := Lib.hid hal
  clear hb2 hz2 hal
  go_wp2_with fail
  go_ret
  exact ⟨rfl, HB1.out.trans ((HAL.out.trans (HB2.out.mono (by simp))).mono HB1.out.size)⟩

theorem law_all (a0 : Option Addr) (len cap : Nat) (zs : List Int) (w : World) (h : IsRow w a0 len cap zs) :
    Calls Tryd.prog 4 #[.slice a0 len cap] w fun e w' => e = .returned (.bool true) ∧ Below w.heap.size w w' := by
  rcases h with ⟨rfl, rfl, rfl, rfl⟩ | ⟨x, rfl, hl, hm, hz, hcell, hwf⟩
  · exact law_zero none 0 w (fun _ => rfl) (run_convert_bytes_nil w 36 5 Tryd.underlying36 Tryd.underlying5 0 0 9 Tryd.underlying9)
  · by_cases hlong : 4096 < len
    · exact law_long _ _ _ _ hlong (by omega)
    · rcases Nat.eq_zero_or_pos len with h0 | h0
      · subst h0
        refine law_zero (some x) cap w (fun h => by cases h) ?_
        rw [run_convert_bytes_string w 36 9 5 _ 0 cap Tryd.underlying36 Tryd.underlying5 Tryd.underlying9]
        simp [Conv.bytesToString, loadCells]
        rfl
      · obtain ⟨b, o, spot⟩ := x
        have hc0 := hcell 0 (by omega)
        have hspot : spot = none := by simpa [Addr.add] using World.cell?_spot hc0
        subst hspot
        have hc : ∀ i, i < len → w.cell? ⟨b, o + i, none⟩ = some (.int .u8 ((zs.take len).getD i 0)) := by
          intro i hi
          have := hcell i (by omega)
          have e : (⟨b, o, none⟩ : Addr).add i = ⟨b, o + i, none⟩ := by unfold Addr.add; split <;> simp_all
          rw [e] at this
          rw [this]
          simp [List.getD, hi]
        have hlen : (zs.take len).length = len := by simp; omega
        by_cases hy : ∀ i, i < len → (zs.take len).getD i 0 ≠ 45
        · refine law_plain b o len cap (zs.take len) w h0 (by omega) hlen hc (fun i hi => ?_)
          have hmem : (zs.take len).getD i 0 ∈ zs := by
            rw [List.getD, List.getElem?_eq_getElem (by omega)]
            exact List.mem_of_mem_take (List.getElem_mem (by omega))
          have hb := byte_range (hwf _ hmem)
          exact ⟨hb.1, hb.2, hy i hi⟩
        · have hconv := run_convert_bytes_arg (P := Tryd.prog) w 36 5 Tryd.underlying36 Tryd.underlying5 b o len cap (zs.take len) hlen hc 9 Tryd.underlying9
          refine law_hyphen _ len cap w (strOfNums (zs.take len)) (by omega) (by rw [strOfNums_size, hlen]; omega) hconv (fun hall => hy fun i hi he => ?_)
          have h' : i < (strOfNums (zs.take len)).size := by rw [strOfNums_size, hlen]; exact hi
          refine hall i h' ?_
          have e1 : (strOfNums (zs.take len))[i] = UInt8.ofNat ((zs.take len).getD i 0).toNat := by
            show (strOfNums (zs.take len)).data[i] = _
            simp [strOfNums, List.getD, hi, List.getElem?_eq_getElem (show i < zs.length by omega)]
          rw [e1, he]
          rfl
end Go.Proofs.YtenogdjlaojedaaDoor.None
