/- What the laws of the named curves need: bytes copied, bytes without zeros ahead, the order's last byte. -/
import Derived.Test.YtohhkjamddojmaaGreatDoorQR
import Derived.Test.YtohhkjamddojmaaGreatDoorBN
namespace Go.Proofs.YtohhkjamddojmaaGreatDoor.Bit
open Go.RowKit
open Big EcLaw
/-- a block of bytes, ks the first of them -/
def KB (w : World) (g cap : Nat) (ks : List Nat) : Prop := ∃ cs : Array Value, w.heap[g]? = some (.cells cs 5 (0, 0)) ∧ ks.length ≤ cap ∧ cs.size = cap ∧ ∀ i, i < ks.length → cs[i]? = some (u8v (ks.getD i 0))
theorem KB.sl {w : World} {g cap : Nat} {ks : List Nat} (h : KB w g cap ks) (hb : ∀ i, ks.getD i 0 < 256) (hl : ks.length ≤ 700000) : Sl w g 0 ks := by
  obtain ⟨cs, h1, h2, h3, h4⟩ := h
  refine ⟨fun i hi => ?_, hb, hl, (Array.getElem?_eq_some_iff.1 h1).1⟩
  rw [Nat.zero_add]
  exact cell_in h1 (h4 i hi)
theorem KB.last {w : World} {g cap : Nat} {ms : List Nat} {l : Nat} (h : KB w g cap (ms ++ [l])) : w.cell? ⟨g, ms.length, .none⟩ = some (.int .u8 (l : Nat)) ∧ w.frozen? ⟨g, ms.length, .none⟩ = false := by
  obtain ⟨cs, h1, h2, h3, h4⟩ := h
  have := h4 ms.length (by simp)
  refine ⟨?_, block_free h1⟩
  have e := cell_in h1 this
  rw [show (ms ++ [l]).getD ms.length 0 = l by simp [List.getD]] at e
  exact e
theorem KB.set {w : World} {g cap : Nat} {ms : List Nat} {l m : Nat} (h : KB w g cap (ms ++ [l])) : KB (w.setCell ⟨g, ms.length, .none⟩ (.int .u8 (m : Nat))) g cap (ms ++ [m]) := by
  obtain ⟨cs, h1, h2, h3, h4⟩ := h
  refine ⟨cs.setIfInBounds ms.length (.int .u8 (m : Nat)), ?_, by simpa using h2, by simpa using h3, fun i hi => ?_⟩
  · simp only [World.setCell, Array.getElem?_modify, if_true]
    rw [h1]
    simp
  · rw [List.length_append, List.length_singleton] at hi h2
    rw [Array.getElem?_setIfInBounds]
    by_cases e : i = ms.length
    · subst e
      rw [if_pos rfl, if_pos (by omega)]
      simp [List.getD, u8v]
    · rw [if_neg (fun q => e q.symm), h4 i (by simp; omega)]
      simp only [List.getD]
      rw [List.getElem?_append_left (by omega), List.getElem?_append_left (by omega)]
theorem KB.kept {R : Nat → Prop} {w w' : World} {g cap : Nat} {ks : List Nat} (h : KB w g cap ks) (k : Kept R w w') (hR : R g) : KB w' g cap ks := by
  obtain ⟨cs, h1, h2⟩ := h
  exact ⟨cs, by rw [k.block g (Array.getElem?_eq_some_iff.1 h1).1 (fun e => e hR)]; exact h1, h2⟩
/-- bytes that are appended to none: a copy in a new block -/
theorem wpList_copy_bytes {w0 : World} {ops : Array Oper} {rest : List Oper} {o : Oper} {a : Act} {Q : Exit → Act → World → Prop} (hgd : o.guard = none) (s x : Operand)
    (ho : o.op = .call { callee := .builtin .append, args := #[s, x], argTypes := #[25, 25] }) (z : Nat) (hz : w0.heap.size = z) (hs : a.eval s = .slice (some ⟨z, 0, .none⟩) 0 0)
    (gN oN c n : Nat) (ns : List Nat) (hnn : ns.length = n) (hx : a.eval x = .slice (some ⟨gN, oN, .none⟩) n c) (hn : Sl w0 gN oN ns)
    (K : ∀ g cap w', KB w' g cap ns → w0.grownBy w' .none → w0.heap.size ≤ g → wpList Tryz.prog ops Q rest (a.put o.dst (.slice (some ⟨g, 0, .none⟩) n cap)) w') : wpList Tryz.prog ops Q (o :: rest) a (w0.alloc (.cells #[] 5)) := by
  subst hz hnn
  obtain ⟨i0, hi, hz0, hz1, hz2⟩ := info_parts info5
  have hlit := World.ownsRow_lit (base := w0.heap.size) (e := 5) (size := 1) w0 #[] 0 (Nat.le_refl _) (by decide) rfl
  have hl := hn.2.2.1
  refine wpList_append_own _ hgd s x 25 ho w0.heap.size 5 i0 (.int .u8 0) 1 1 Tryz.underlying25 hi hz0 hz1 hz2 rfl (by decide) _ 0 [] hs hlit ⟨gN, oN, .none⟩ ns.length c (ns.map u8v) hx (by simp) (fun j u hu => ?_) (by intro u hu; obtain ⟨k, -, rfl⟩ := List.mem_map.1 hu; rfl) (by unfold maxLen; omega) (by omega) (by show _ ≤ (Array.push _ _).size; rw [Array.size_push]; omega) ?_
  · rw [List.getElem?_map] at hu
    have hj : j < ns.length := by
      apply Nat.lt_of_not_le
      intro e
      rw [List.getElem?_eq_none e] at hu
      cases hu
    have := hn.1 j hj
    rw [List.getElem?_eq_getElem hj] at hu
    have hu' := Option.some.inj hu
    rw [← hu']
    show (w0.alloc (.cells #[] 5)).cell? ((⟨gN, oN, .none⟩ : Addr).add j) = _
    rw [show (⟨gN, oN, .none⟩ : Addr).add j = ⟨gN, oN + j, .none⟩ from by simp [Addr.add]]
    rw [(grown_alloc w0 _ none).cell this (by simp)]
    simp [u8v, List.getD, hj]
  · intro v' w1 hown hgrow hnn
    have hg : w0.grownBy w1 .none := grown_new (grown_alloc w0 _ none) hgrow (Nat.le_refl _)
    rcases hown with ⟨hlen, ⟨rfl, hks⟩ | ⟨g, cap, cur, rfl, hb, hblk, hle, hcm, hsz2, htk⟩⟩
    · exact absurd (hnn.1 rfl).1 (by intro e; cases e)
    · rw [Nat.zero_add] at htk ⊢
      refine K g cap w1 ⟨cur, hblk, by omega, by omega, fun i hi => ?_⟩ hg hb
      have e : (cur.toList.take (ns.length * 1))[i]? = (ns.map u8v)[i]? := by rw [htk]; rfl
      rw [List.getElem?_take_of_lt (by omega), List.getElem?_map, List.getElem?_eq_getElem hi] at e
      rw [← Array.getElem?_toList, e]
      simp [List.getD, hi]
theorem bev_lt : ∀ (ks : List Nat), (∀ i, ks.getD i 0 < 256) → bev ks < 256 ^ ks.length
  | [], _ => by decide
  | k :: ks, h => by
    have h0 := h 0
    have := bev_lt ks (fun i => by have := h (i + 1); simpa [List.getD] using this)
    rw [bev_cons, List.length_cons, Nat.pow_succ]
    simp [List.getD] at h0
    have : k * 256 ^ ks.length ≤ 255 * 256 ^ ks.length := Nat.mul_le_mul_right _ (by omega)
    omega
theorem bev_inj : ∀ (ks ls : List Nat), ks.length = ls.length → (∀ i, ks.getD i 0 < 256) → (∀ i, ls.getD i 0 < 256) → bev ks = bev ls → ks = ls
  | [], [], _, _, _, _ => rfl
  | k :: ks, l :: ls, hl, h1, h2, e => by
    have t1 : ∀ i, ks.getD i 0 < 256 := fun i => by have := h1 (i + 1); simpa [List.getD] using this
    have t2 : ∀ i, ls.getD i 0 < 256 := fun i => by have := h2 (i + 1); simpa [List.getD] using this
    have hl' : ks.length = ls.length := by simpa using hl
    have b1 := bev_lt ks t1
    have b2 := bev_lt ls t2
    rw [bev_cons, bev_cons, hl'] at e
    rw [hl'] at b1
    have hk : k = l := by
      have d1 : (k * 256 ^ ls.length + bev ks) / 256 ^ ls.length = k := by rw [Nat.mul_comm, Nat.mul_add_div (by exact Nat.pow_pos (by decide)), Nat.div_eq_of_lt b1, Nat.add_zero]
      have d2 : (l * 256 ^ ls.length + bev ls) / 256 ^ ls.length = l := by rw [Nat.mul_comm, Nat.mul_add_div (by exact Nat.pow_pos (by decide)), Nat.div_eq_of_lt b2, Nat.add_zero]
      rw [← d1, e, d2]
    subst hk
    rw [bev_inj ks ls hl' t1 t2 (by omega)]
/-- bytes without zeros ahead are told by their number -/
theorem bev_low {ks : List Nat} (h : 0 < ks.length → ks.getD 0 0 ≠ 0) (h0 : 0 < ks.length) : 256 ^ (ks.length - 1) ≤ bev ks := by
  match ks, h0 with
  | k :: ks, _ =>
    have := h (by simp)
    simp [List.getD] at this
    rw [bev_cons, List.length_cons, Nat.add_sub_cancel]
    have : 1 * 256 ^ ks.length ≤ k * 256 ^ ks.length := Nat.mul_le_mul_right _ (by omega)
    omega
theorem len_le {ks ls : List Nat} (h1 : ∀ i, ks.getD i 0 < 256) (h2 : 0 < ls.length → ls.getD 0 0 ≠ 0) (e : bev ks = bev ls) : ls.length ≤ ks.length := by
  apply Nat.le_of_not_lt
  intro hl
  have a := bev_lt ks h1
  have b := bev_low h2 (by omega)
  have : 256 ^ ks.length ≤ 256 ^ (ls.length - 1) := Nat.pow_le_pow_right (by decide) (by omega)
  omega
theorem canon {ks ls : List Nat} (h1 : ∀ i, ks.getD i 0 < 256) (h2 : ∀ i, ls.getD i 0 < 256) (c1 : 0 < ks.length → ks.getD 0 0 ≠ 0) (c2 : 0 < ls.length → ls.getD 0 0 ≠ 0) (e : bev ks = bev ls) : ks = ls :=
  bev_inj ks ls (Nat.le_antisymm (len_le h2 c1 e.symm) (len_le h1 c2 e)) h1 h2 e
theorem Sl.rowU {w : World} {g o : Nat} {ks : List Nat} (h : Sl w g o ks) : RowU w (some ⟨g, o, .none⟩) ks.length ks :=
  ⟨Nat.le_refl _, by have := h.2.2.1; unfold maxLen; omega, fun _ => ⟨g, o, rfl⟩, fun b o' e i hi => by cases e; exact h.1 i hi, h.2.1⟩
/-- SameBytes where both are the bytes of one number -/
theorem sameBy {w : World} {g g' n : Nat} {v v' : Value} (h : ByV w g v n) (h' : ByV w g' v' n) : Calls Tryz.prog 26 #[v, v'] w (fun e w' => e = .returned (.bool true) ∧ ∃ d, w' = w.drewN d) := by
  obtain ⟨o, ks, rfl, hs, e, c⟩ := h
  obtain ⟨o', ls, rfl, hs', e', c'⟩ := h'
  obtain rfl := canon hs.2.1 hs'.2.1 c c' (e.trans e'.symm)
  exact sameS _ _ _ _ _ w hs.rowU hs'.rowU
/-- FromBytes of a number's bytes -/
theorem fromBy {w : World} {g n : Nat} {v : Value} (h : ByV w g v n) : Calls Tryz.prog 19 #[v] w (BigP n w) := by
  obtain ⟨o, ks, rfl, hs, e, c⟩ := h
  have := fromBytesS _ _ ks w hs.rowU (by have := hs.2.2.1; omega)
  rwa [e] at this
theorem Four.last {b : Nat} {c : Nums} (h : Four b c) : 2 ≤ c.n % 256 := by
  cases h <;> decide +kernel
/-- the order's bytes -/
theorem Four.bytes {b : Nat} {c : Nums} (h : Four b c) {ns : List Nat} (hb : ∀ i, ns.getD i 0 < 256) (e : bev ns = c.n) : ∃ ms l, ns = ms ++ [l] ∧ bev ms * 256 + l = c.n ∧ 2 ≤ l ∧ l < 256 := by
  have hn := h.grp.n5
  have h0 : ns ≠ [] := by intro e0; rw [e0] at e; have : bev [] = 0 := rfl; omega
  refine ⟨ns.dropLast, ns.getLast h0, (List.dropLast_concat_getLast h0).symm, ?_, ?_, ?_⟩
  · rw [← bev_snoc, List.dropLast_concat_getLast h0, e]
  · have e2 : bev ns.dropLast * 256 + ns.getLast h0 = c.n := by rw [← bev_snoc, List.dropLast_concat_getLast h0, e]
    have hl : ns.getLast h0 < 256 := by
      have := hb (ns.length - 1)
      rwa [List.getD_eq_getElem?_getD, ← List.getLast?_eq_getElem?, List.getLast?_eq_some_getLast h0] at this
    have := h.last
    omega
  · have := hb (ns.length - 1)
    rwa [List.getD_eq_getElem?_getD, ← List.getLast?_eq_getElem?, List.getLast?_eq_some_getLast h0] at this
end Go.Proofs.YtohhkjamddojmaaGreatDoor.Bit
