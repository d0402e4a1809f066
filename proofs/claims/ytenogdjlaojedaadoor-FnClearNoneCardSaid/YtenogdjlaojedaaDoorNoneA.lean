/- The small functions that FnClearNone reaches: 'has', 'SameBytes', 'bytes.Equal', 'bytes.HasPrefix', 'own'. -/
import Derived.Test.YtenogdjlaojedaaDoorRows
import Derived.WalkKit
import Derived.WalkSpells
import Derived.WalkLawsBesides
import Derived.Laws.BytesArg
import Derived.Lib.Hide
import Derived.Deep.QuietTactic
import Derived.BigQuiet
namespace Go.Proofs.YtenogdjlaojedaaDoor.None
open Go.RowKit

set_option maxHeartbeats 400000 in
theorem has_no (s : ByteArray) (w : World) (hs : s.size ≤ maxLen) (hno : ∀ k (h : k < s.size), s[k].toNat ≠ 45) :
    Calls Tryd.prog 16 #[.string s, .int .u8 45] w fun e w' => e = .returned (.bool false) ∧ w = w' := by
  unfold maxLen at hs
  go_enter Tryd.func16, Tryd.ntmps16
  go_wp2
  go_loop [5, 8] (fun _ i => ∃ k : Nat, k ≤ s.size ∧ i = .int .i64 k) (fun _ i => s.size - (intOf i).toNat)
  case atStart => exact ⟨0, Nat.zero_le _, rfl⟩
  case round =>
    obtain ⟨k, hk, rfl⟩ := hrel
    by_cases hlt : k < s.size
    · have h1 := hno k hlt
      have h2 : ((s[k].toNat : Int) == 45) = false := by rw [beq_eq_false_iff_ne]; omega
      clear h1 hno
      go_wp2
      go_round
      case rel => exact ⟨k + 1, by omega, by go_num⟩
      case measure => simp [intOf]; omega
    · clear hno
      go_wp2
      go_ret
      exact ⟨rfl, rfl⟩

set_option maxHeartbeats 400000 in
theorem has_yes (s : ByteArray) (m : Nat) (w : World) (hs : s.size ≤ maxLen) (hm : m < s.size) (hy : s[m].toNat = 45) (hno : ∀ k (h : k < s.size), k < m → s[k].toNat ≠ 45) :
    Calls Tryd.prog 16 #[.string s, .int .u8 45] w fun e w' => e = .returned (.bool true) ∧ w = w' := by
  unfold maxLen at hs
  have HY := Lib.hid hy
  clear hy
  go_enter Tryd.func16, Tryd.ntmps16
  go_wp2
  go_loop [5, 8] (fun _ i => ∃ k : Nat, k ≤ m ∧ i = .int .i64 k) (fun _ i => s.size - (intOf i).toNat)
  case atStart => exact ⟨0, Nat.zero_le _, rfl⟩
  case round =>
    obtain ⟨k, hk, rfl⟩ := hrel
    have hlt : k < s.size := by omega
    by_cases hkm : k < m
    · have h1 := hno k hlt hkm
      have h2 : ((s[k].toNat : Int) == 45) = false := by rw [beq_eq_false_iff_ne]; omega
      clear h1 hno
      go_wp2
      go_round
      case rel => exact ⟨k + 1, by omega, by go_num⟩
      case measure => simp [intOf]; omega
    · obtain rfl : k = m := by omega
      have h2 : ((s[k].toNat : Int) == 45) = true := by rw [beq_iff_eq]; have := HY.out; omega
      clear hno
      go_wp2
      go_ret
      exact ⟨rfl, rfl⟩

theorem least (P : Nat → Prop) (n : Nat) : P n → ∃ m, P m ∧ ∀ k, k < m → ¬ P k := by
  induction n using Nat.strongRecOn with
  | ind n ih =>
    intro h
    by_cases c : ∃ k, k < n ∧ P k
    · obtain ⟨k, hk, hP⟩ := c
      exact ih k hk hP
    · exact ⟨n, h, fun k hk hP => c ⟨k, hk, hP⟩⟩

theorem first_of (s : ByteArray) (h : ¬ ∀ k (h : k < s.size), s[k].toNat ≠ 45) : ∃ m, ∃ hm : m < s.size, s[m].toNat = 45 ∧ ∀ k (h : k < s.size), k < m → s[k].toNat ≠ 45 := by
  have ⟨n, hn⟩ : ∃ n, ∃ hm : n < s.size, s[n].toNat = 45 := by
    refine Classical.byContradiction fun hc => h fun k hk he => hc ⟨k, hk, he⟩
  obtain ⟨m, ⟨hm, e⟩, hl⟩ := least (fun n => ∃ hm : n < s.size, s[n].toNat = 45) n hn
  exact ⟨m, hm, e, fun k hk hkm he => hl k hkm ⟨hk, he⟩⟩

set_option maxHeartbeats 400000 in
/-- two slices of the same bytes -/
theorem same (b1 o1 n c1 b2 o2 c2 : Nat) (zs : List Int) (w : World) (hn : n ≤ maxLen)
    (h1 : ∀ i, i < n → w.cell? ⟨b1, o1 + i, none⟩ = some (.int .u8 (zs.getD i 0))) (h2 : ∀ i, i < n → w.cell? ⟨b2, o2 + i, none⟩ = some (.int .u8 (zs.getD i 0))) :
    Calls Tryd.prog 14 #[.slice (some ⟨b1, o1, none⟩) n c1, .slice (some ⟨b2, o2, none⟩) n c2] w fun e w' => e = .returned (.bool true) ∧ Below w.heap.size w w' := by
  unfold maxLen at hn
  go_enter Tryd.func14, Tryd.ntmps14
  go_wp2
  go_loopw [5, 13] (fun _ i wr => ∃ k : Nat, k ≤ n ∧ i = .int .i64 k ∧ Below w.heap.size w wr) (fun _ i _ => n - (intOf i).toNat)
  case atStart => exact ⟨0, Nat.zero_le _, rfl, Below.refl _ _⟩
  case round =>
    obtain ⟨k, hk, rfl, hb⟩ := hrel
    by_cases hlt : k < n
    · have g1 : wr.cell? ⟨b1, o1 + k, none⟩ = some (.int .u8 (zs.getD k 0)) := cell_later hb (h1 k hlt)
      have g2 : wr.cell? ⟨b2, o2 + k, none⟩ = some (.int .u8 (zs.getD k 0)) := cell_later hb (h2 k hlt)
      clear h1 h2
      go_wp2
      go_quiet (fail)
      go_wp2
      go_roundw
      case rel => exact ⟨k + 1, by omega, by go_num, below_drewN hb _⟩
      case measure => simp [intOf]; omega
    · clear h1 h2
      go_wp2
      go_ret
      exact ⟨rfl, hb⟩

set_option maxHeartbeats 400000 in
/-- two slices without bytes -/
theorem same_none (p1 p2 : Option Addr) (c1 c2 : Nat) (w : World) :
    Calls Tryd.prog 14 #[.slice p1 0 c1, .slice p2 0 c2] w fun e w' => e = .returned (.bool true) ∧ Below w.heap.size w w' := by
  go_enter Tryd.func14, Tryd.ntmps14
  go_wp2
  go_loop [5, 13] (fun _ i => i = .int .i64 0) (fun _ i => 0)
  case atStart => rfl
  case round =>
    subst hrel
    go_wp2
    go_ret
    exact ⟨rfl, Below.refl _ _⟩

set_option maxHeartbeats 400000 in
/-- bytes.Equal -/
theorem equal (v1 v2 : Value) (s1 s2 : ByteArray) (b : Bool) (w : World) (h1 : ∀ dst, Tryd.prog.underlying dst = some .string → (convert 36 dst v1).run Tryd.prog w = .ok (.string s1) w) (h2 : ∀ dst, Tryd.prog.underlying dst = some .string → (convert 36 dst v2).run Tryd.prog w = .ok (.string s2) w) (hb : (s1.toList == s2.toList) = b) :
    Calls Tryd.prog 47 #[v1, v2] w fun e w' => e = .returned (.bool b) ∧ w = w' := by
  have g1 := h1 9 Tryd.underlying9
  have g2 := h2 9 Tryd.underlying9
  clear h1 h2
  go_enter Tryd.func47, Tryd.ntmps47
  go_wp2
  go_ret
  exact ⟨rfl, rfl⟩

/-- what is asked of the text that is looked for: its byte at place j is a hyphen -/
theorem not_it (xs : List Int) (S : ByteArray) (j : Nat) (hj : j < xs.length) (hx : 0 ≤ xs.getD j 0) (hx2 : xs.getD j 0 < 256) (hne : xs.getD j 0 ≠ 45) (hS : S.toList[j]? = some 45) : ((strOfNums xs).toList == S.toList) = false := by
  rw [beq_eq_false_iff_ne]
  intro e
  rw [← e] at hS
  have e2 : (strOfNums xs).toList = xs.map fun n => UInt8.ofNat n.toNat := by
    rw [ByteArray.toList_eq]
    exact strOfNums_data xs
  rw [e2, List.getElem?_map, List.getElem?_eq_getElem hj] at hS
  simp only [List.getD, List.getElem?_eq_getElem hj, Option.getD_some] at hx hx2 hne
  simp only [Option.map_some, Option.some.injEq] at hS
  have := congrArg UInt8.toNat hS
  simp only [UInt8.toNat_ofNat'] at this
  have e3 : (45 : UInt8).toNat = 45 := rfl
  rw [e3] at this
  omega

/-- bytes without a hyphen, where they lie -/
structure NoHy (w : World) (b o n : Nat) (zs : List Int) : Prop where
  len : zs.length = n
  max : n ≤ 4096
  cell : ∀ i, i < n → w.cell? ⟨b, o + i, none⟩ = some (.int .u8 (zs.getD i 0))
  byte : ∀ i, i < n → 0 ≤ zs.getD i 0 ∧ zs.getD i 0 < 256 ∧ zs.getD i 0 ≠ 45

theorem getD_drop_take (zs : List Int) (i k j : Nat) (hj : j < k) : ((zs.drop i).take k).getD j 0 = zs.getD (i + j) 0 := by
  simp [List.getD, hj]

theorem NoHy.conv {w : World} {b o n : Nat} {zs : List Int} (h : NoHy w b o n zs) (i k c : Nat) (hik : i + k ≤ n) :
    ∀ dst, Tryd.prog.underlying dst = some .string → (convert 36 dst (.slice (some ⟨b, o + i, none⟩) k c)).run Tryd.prog w = .ok (.string (strOfNums ((zs.drop i).take k))) w :=
  run_convert_bytes_arg w 36 5 Tryd.underlying36 Tryd.underlying5 b (o + i) k c _ (by simp [h.len]; omega) (fun j hj => by rw [getD_drop_take _ _ _ _ hj, Nat.add_assoc]; exact h.cell (i + j) (by omega))

theorem NoHy.not {w : World} {b o n : Nat} {zs : List Int} (h : NoHy w b o n zs) (i k j : Nat) (S : ByteArray) (hj : j < k) (hik : i + k ≤ n) (hS : S.toList[j]? = some 45) :
    ((strOfNums ((zs.drop i).take k)).toList == S.toList) = false := by
  have hb := h.byte (i + j) (by omega)
  rw [← getD_drop_take zs i k j hj] at hb
  exact not_it _ S j (by simp [h.len]; omega) hb.1 hb.2.1 hb.2.2 hS

set_option maxHeartbeats 400000 in
/-- bytes.HasPrefix of a text that begins with a hyphen -/
theorem prefix_no (b o n c m c2 : Nat) (p2 : Option Addr) (zs : List Int) (S : ByteArray) (w : World) (h : NoHy w b o n zs) (hnc : n ≤ c) (hm : 0 < m) (hm2 : m ≤ 4096) (hS : S.toList[0]? = some 45)
    (h2 : ∀ dst, Tryd.prog.underlying dst = some .string → (convert 36 dst (.slice p2 m c2)).run Tryd.prog w = .ok (.string S) w) :
    Calls Tryd.prog 32 #[.slice (some ⟨b, o, none⟩) n c, .slice p2 m c2] w fun e w' => e = .returned (.bool false) ∧ w = w' := by
  have hmax := h.max
  by_cases hle : m ≤ n
  · have e1 := h.conv 0 m c (by omega)
    have e2 := h.not 0 m 0 S hm (by omega) hS
    have H := Lib.hid h
    clear h
    go_enter Tryd.func32, Tryd.ntmps32
    go_wp2_with (go_at_call 47; refine (equal _ _ _ _ false _ e1 h2 e2).mono ?_; rintro e w' ⟨rfl, rfl⟩)
    go_ret
    exact ⟨rfl, rfl⟩
  · have H := Lib.hid h
    clear h
    go_enter Tryd.func32, Tryd.ntmps32
    go_wp2
    go_ret
    exact ⟨rfl, rfl⟩

set_option maxHeartbeats 400000 in
/-- zzIndexBytes of a text with a hyphen -/
theorem index_no (b o n c m c2 j : Nat) (p2 : Option Addr) (zs : List Int) (S : ByteArray) (w : World) (h : NoHy w b o n zs) (hnc : n ≤ c) (hm : j < m) (hm2 : m ≤ 4096) (hS : S.toList[j]? = some 45)
    (h2 : ∀ dst, Tryd.prog.underlying dst = some .string → (convert 36 dst (.slice p2 m c2)).run Tryd.prog w = .ok (.string S) w) :
    Calls Tryd.prog 39 #[.slice (some ⟨b, o, none⟩) n c, .slice p2 m c2] w fun e w' => e = .returned (.int .i64 (-1)) ∧ w = w' := by
  have hmax := h.max
  have H := Lib.hid h
  clear h
  go_enter Tryd.func39, Tryd.ntmps39
  go_wp2
  go_loop [5] (fun i => ∃ k : Nat, k ≤ n ∧ i = .int .i64 k) (fun i => n - (intOf i).toNat)
  case atStart => exact ⟨0, Nat.zero_le _, rfl⟩
  case round =>
    obtain ⟨k, hk, rfl⟩ := hrel
    by_cases hle : k + m ≤ n
    · have e1 := H.out.conv k m (c - k) (by omega)
      have e2 := H.out.not k m j S hm (by omega) hS
      go_wp2_with (go_at_call 47; refine (equal _ _ _ _ false _ e1 h2 e2).mono ?_; rintro e w' ⟨rfl, rfl⟩)
      go_round
      case rel => exact ⟨k + 1, by omega, by go_num⟩
      case measure => simp [intOf]; omega
    · go_wp2
      go_ret
      exact ⟨rfl, rfl⟩
end Go.Proofs.YtenogdjlaojedaaDoor.None
