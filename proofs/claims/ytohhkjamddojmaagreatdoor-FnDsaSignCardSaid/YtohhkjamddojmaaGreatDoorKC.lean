/- Bytes of a number, the highest first: bytesOf of the laws. -/
import Derived.Test.YtohhkjamddojmaaGreatDoorWU
namespace Go.Proofs.YtohhkjamddojmaaGreatDoor.Big
open Go.RowKit

def bev (ks : List Nat) : Nat := ks.foldl (fun a k => a * 256 + k) 0
theorem bev_snoc (ks : List Nat) (k : Nat) : bev (ks ++ [k]) = bev ks * 256 + k := by unfold bev; rw [List.foldl_append]; rfl
theorem bev_from (ks : List Nat) : ∀ a, ks.foldl (fun a k => a * 256 + k) a = a * 256 ^ ks.length + bev ks := by
  induction ks with
  | nil => intro a; simp [bev]
  | cons k ks ih =>
    intro a
    rw [List.foldl_cons, ih]
    unfold bev
    rw [List.foldl_cons, ih (0 * 256 + k), List.length_cons, Nat.pow_succ, Nat.zero_mul, Nat.zero_add, Nat.add_mul, Nat.mul_assoc, Nat.mul_comm 256, ← Nat.mul_assoc, Nat.add_assoc]; rfl
theorem bev_cons (k : Nat) (ks : List Nat) : bev (k :: ks) = k * 256 ^ ks.length + bev ks := by
  show List.foldl _ (0 * 256 + k) ks = _
  rw [bev_from, Nat.zero_mul, Nat.zero_add]
theorem bev_zeros (z : Nat) (ks : List Nat) : bev (List.replicate z 0 ++ ks) = bev ks := by
  induction z with
  | zero => rfl
  | succ z ih => rw [List.replicate_succ, List.cons_append, bev_cons, ih, Nat.zero_mul, Nat.zero_add]
theorem info5 : (Tryz.prog.info? 5).map (fun i => (i.zero, i.size, i.bytes)) = some (some (.int .u8 0), 1, 1) := by kernel_rfl
theorem grown_new {w w1 w2 : World} {b : Nat} (h1 : w.grownBy w1 .none) (h2 : w1.grownBy w2 (some b)) (hb : w.heap.size ≤ b) : w.grownBy w2 .none :=
  ⟨h2.os.trans h1.os, h2.tape.trans h1.tape, h2.output.trans h1.output, Nat.le_trans h1.size h2.size, fun k hk _ => (h2.block k (Nat.lt_of_lt_of_le hk h1.size) (by intro e; cases e; omega)).trans (h1.block k hk (by simp))⟩
/-- a byte as a value -/
def u8v (k : Nat) : Value := .int .u8 (k : Nat)
/-- a fresh row of bytes -/
def BytesP (w : World) (ks : List Nat) (e : Ending) (w' : World) : Prop :=
  ∃ g cap, e = .returned (.slice (some ⟨g, 0, .none⟩) ks.length cap) ∧ w'.ownsRow w.heap.size 5 1 (.slice (some ⟨g, 0, .none⟩) ks.length cap) ks.length (ks.map u8v) ∧ w.grownBy w' .none
set_option maxHeartbeats 4000000 in
set_option maxRecDepth 100000 in
theorem bytesOf (w : World) (n z : Nat) (hn : n < 9223372036854775808) (hz : z < 256) :
    Calls Tryz.prog 18 #[.int .i64 n, .int .i64 z] w (fun e w' => ∃ ks : List Nat, BytesP w ks e w' ∧ bev ks = n ∧ (∀ k ∈ ks, k < 256) ∧ ks.length ≤ z + 8) := by
  obtain ⟨i0, hi, hz0, hz1, hz2⟩ := info_parts info5
  go_enter Tryz.func18, Tryz.ntmps18
  go_wp2_with fail
  go_loopw [0, 5] (fun a v wr => ∃ (m : Nat) (ks : List Nat), a = .int .i64 m ∧ m < 9223372036854775808 ∧ wr.ownsRow w.heap.size 5 1 v ks.length (ks.map u8v) ∧ w.grownBy wr .none ∧ RowKit.Hid (n = m * 256 ^ ks.length + bev ks ∧ (∀ k ∈ ks, k < 256) ∧ ks.length ≤ 8)) (fun a _ _ => (intOf a).toNat)
  case atStart => exact ⟨n, [], rfl, hn, World.ownsRow_nil _ _ _ _, World.grownBy.refl _ _, ⟨by simp [bev], by simp, by simp⟩⟩
  case round =>
    obtain ⟨m, ks, rfl, hm, hown, hg, HR⟩ := hrel
    have HO := Lib.hid hown
    have HG := Lib.hid hg
    have hsz : w.heap.size ≤ wr.heap.size := hg.size
    clear hg
    by_cases h0 : (0 : Int) < m
    · have hlk : ks.length < 8 := by
        obtain ⟨e1, -, e3⟩ := HR.out
        rcases Nat.lt_or_ge ks.length 8 with h | h
        · exact h
        · exfalso
          have e4 : ks.length = 8 := by omega
          rw [e4] at e1
          have : 256 ^ 8 * 1 ≤ 256 ^ 8 * m := Nat.mul_le_mul_left _ (by omega)
          omega
      have HN := Lib.hid (show n = m / 256 * 256 ^ ((m % 256) :: ks).length + bev ((m % 256) :: ks) ∧ (∀ k ∈ (m % 256) :: ks, k < 256) ∧ ((m % 256) :: ks).length ≤ 8 by
        obtain ⟨e1, e2, e3⟩ := HR.out
        refine ⟨?_, ?_, by rw [List.length_cons]; omega⟩
        · rw [bev_cons, List.length_cons, Nat.pow_succ, Nat.mul_comm (256 ^ _) 256, ← Nat.mul_assoc, ← Nat.add_assoc, ← Nat.add_mul]
          rw [show m / 256 * 256 + m % 256 = m by omega]
          exact e1
        · intro k hk
          rcases List.mem_cons.1 hk with rfl | hk
          · omega
          · exact e2 k hk)
      have EC := Lib.hid (show Value.int .u8 ((m : Int) % 256) = u8v (m % 256) by unfold u8v; rw [Int.natCast_emod]; rfl)
      have hl0 : w.heap.size ≤ wr.heap.size := hsz
      have hlit := World.ownsRow_lit (base := w.heap.size) (e := 5) (size := 1) wr #[Value.int .u8 ((m : Int) % 256)] 1 hl0 (by decide) rfl
      have hga : w.grownBy (wr.alloc (.cells #[Value.int .u8 ((m : Int) % 256)] 5)) .none := grown_trans HG.out (grown_alloc _ _ _)
      have HGA := Lib.hid hga
      rcases hown with ⟨hlen, ⟨rfl, hks⟩ | ⟨g, cap, cur, rfl, hb, hblk, hle, hcm, hsz2, htk⟩⟩
      · obtain rfl : ks = [] := List.length_eq_zero_iff.1 hks
        clear hlen hks
        have HLIT := Lib.hid hlit
        clear hlit hga
        go_wp2_with fail
        go_roundw
        case rel => exact ⟨m / 256, [m % 256], by go_num, by omega, by have := HLIT.out; rw [EC.out] at this; exact this, HGA.out, HN.out⟩
        case measure => simp [intOf]; omega
      · have hne : g ≠ wr.heap.size := by
          intro e
          have := (Array.getElem?_eq_some_iff.1 hblk).1
          omega
        have hcells := HO.out.cells (g := g) rfl
        have hsrc : ∀ j u, (ks.map u8v)[j]? = some u → (wr.alloc (.cells #[Value.int .u8 ((m : Int) % 256)] 5)).cell? ((⟨g, 0, .none⟩ : Addr).add j) = some u := fun j u h => (grown_alloc wr _ none).cell (hcells j u h) (by simp)
        clear hlen hb hblk hle hcm hsz2 htk hcells
        go_wp2_with (at_builtin; refine wpList_append_own _ rfl (.tmp 12) (.tmp 13) 25 rfl w.heap.size 5 i0 (.int .u8 0) 1 1 Tryz.underlying25 hi hz0 hz1 hz2 rfl (by decide) _ 1 [Value.int .u8 ((m : Int) % 256)] rfl hlit ⟨g, 0, .none⟩ ks.length cap (ks.map u8v) rfl (by simp) hsrc (by intro u hu; obtain ⟨k, -, rfl⟩ := List.mem_map.1 hu; rfl) (by unfold maxLen; omega) (by omega) (Nat.le_trans hl0 (by show _ ≤ (Array.push _ _).size; rw [Array.size_push]; omega)) ?_; intro v' w1 hown' hgrow hnn)
        have HO' := Lib.hid (show w1.ownsRow w.heap.size 5 1 v' ((m % 256) :: ks).length (((m % 256) :: ks).map u8v) by rw [List.length_cons, Nat.add_comm, List.map_cons, ← EC.out]; exact hown')
        have HG' := Lib.hid (grown_new HGA.out hgrow hl0)
        clear hown' hgrow hnn hlit hga hsrc hne
        go_wp2_with fail
        go_roundw
        case rel => exact ⟨m / 256, (m % 256) :: ks, by go_num, by omega, HO'.out, HG'.out, HN.out⟩
        case measure => simp [intOf]; omega
    · have hm0 : m = 0 := by omega
      subst hm0
      have HF := Lib.hid (show bev (List.replicate z 0 ++ ks) = n ∧ (∀ k ∈ List.replicate z 0 ++ ks, k < 256) ∧ (List.replicate z 0 ++ ks).length ≤ z + 8 by
        obtain ⟨e1, e2, e3⟩ := HR.out
        refine ⟨by rw [bev_zeros]; omega, ?_, by rw [List.length_append, List.length_replicate]; omega⟩
        intro k hk
        rcases List.mem_append.1 hk with hk | hk
        · rw [List.eq_of_mem_replicate hk]; omega
        · exact e2 k hk)
      rcases hown with ⟨hlen, ⟨rfl, hks⟩ | ⟨g, cap, cur, rfl, hb, hblk, hle, hcm, hsz2, htk⟩⟩
      · obtain rfl : ks = [] := List.length_eq_zero_iff.1 hks
        clear hlen hks
        go_wp2_with (refine wpList_make_full _ rfl (.tmp 15) (.tmp 15) 25 rfl w.heap.size 5 i0 (.int .u8 0) 1 Tryz.underlying25 hi hz0 hz1 .i64 .i64 z z z rfl rfl rfl rfl (by rw [hz2]; omega) (by unfold maxLen; omega) hsz ?_; intro w2 hown2 hg2)
        have hO2 : w2.ownsRow w.heap.size 5 1 (.slice (some ⟨wr.heap.size, 0, .none⟩) (List.replicate z 0 ++ ([] : List Nat)).length z) (List.replicate z 0 ++ ([] : List Nat)).length ((List.replicate z 0 ++ ([] : List Nat)).map u8v) := by
          rw [List.append_nil, List.length_replicate, List.map_replicate]
          rw [show (madeCells (Value.int IntKind.u8 0).cells (z * 1)).toList = List.replicate z (u8v 0) by rw [Nat.mul_one]; exact toList_madeCells_one _ _] at hown2
          exact hown2
        have hG2 := grown_trans HG.out hg2
        have hl : (List.replicate z 0 ++ ([] : List Nat)).length = z := by simp
        go_ret
        refine ⟨_, ⟨_, _, ?_, hO2, hG2⟩, HF.out⟩
        rw [hl]
        rfl
      · have hcells := HO.out.cells (g := g) rfl
        have hgl := (Array.getElem?_eq_some_iff.1 hblk).1
        have hkl : ks.length ≤ 8 := HR.out.2.2
        clear hlen hb hblk hle hcm hsz2 htk
        go_wp2_with (first | (at_builtin; refine wpList_append_own _ rfl (.tmp 16) (.tmp 17) 25 rfl w.heap.size 5 i0 (.int .u8 0) 1 1 Tryz.underlying25 hi hz0 hz1 hz2 rfl (by decide) _ z _ rfl hown2 ⟨g, 0, .none⟩ ks.length cap (ks.map u8v) rfl (by simp) (fun j u h => hg2.cell (hcells j u h) (by simp)) (by intro u hu; obtain ⟨k, -, rfl⟩ := List.mem_map.1 hu; rfl) (by unfold maxLen; omega) (by omega) (Nat.le_trans hsz hg2.size) ?_; intro v' w3 hown3 hg3 hnn) | (refine wpList_make_full _ rfl (.tmp 15) (.tmp 15) 25 rfl w.heap.size 5 i0 (.int .u8 0) 1 Tryz.underlying25 hi hz0 hz1 .i64 .i64 z z z rfl rfl rfl rfl (by rw [hz2]; omega) (by unfold maxLen; omega) hsz ?_; intro w2 hown2 hg2))
        have hO3 : w3.ownsRow w.heap.size 5 1 v' (List.replicate z 0 ++ ks).length ((List.replicate z 0 ++ ks).map u8v) := by
          rw [List.length_append, List.length_replicate, List.map_append, List.map_replicate]
          rw [show (madeCells (Value.int IntKind.u8 0).cells (z * 1)).toList = List.replicate z (u8v 0) by rw [Nat.mul_one]; exact toList_madeCells_one _ _] at hown3
          exact hown3
        have hG3 := grown_new (grown_trans HG.out hg2) hg3 hsz
        rcases hO3 with ⟨hlen, ⟨rfl, hks⟩ | ⟨g3, cap3, cur3, rfl, hb3, hblk3, hle3, hcm3, hsz3, htk3⟩⟩
        · exact absurd (hnn.1 rfl).1 (by intro e; cases e)
        · have HO3 := Lib.hid (show w3.ownsRow w.heap.size 5 1 (.slice (some ⟨g3, 0, .none⟩) (List.replicate z 0 ++ ks).length cap3) (List.replicate z 0 ++ ks).length ((List.replicate z 0 ++ ks).map u8v) from ⟨hlen, .inr ⟨g3, cap3, cur3, rfl, hb3, hblk3, hle3, hcm3, hsz3, htk3⟩⟩)
          have HG3 := Lib.hid hG3
          clear hlen hb3 hblk3 hle3 hcm3 hsz3 htk3 hG3 hnn hg3 hown3 hown2 hg2 hcells
          go_wp2_with fail
          go_ret
          exact ⟨_, ⟨_, _, rfl, HO3.out, HG3.out⟩, HF.out⟩
end Go.Proofs.YtohhkjamddojmaaGreatDoor.Big
