/- Wrappers; a row plus one word; sums and differences of natural numbers. A row plus one word, a row less one word. A row less one word. -/
import Derived.Test.YtohhkjamddojmaaGreatDoorBigF
import Derived.Deep.RegionWith
import Derived.Deep.RegionLaw
import Derived.Deep.CutRange
namespace Go.Proofs.YtohhkjamddojmaaGreatDoor.Big
open Go.RowKit

/-! ### the number's words -/
def dg (n : Nat) : List Nat := if _h : n = 0 then [] else n % B64 :: dg (n / B64)
termination_by n
decreasing_by exact Nat.div_lt_self (by omega) (by unfold B64; omega)

theorem dg_zero : dg 0 = [] := by rw [dg]; simp
theorem dg_pos {n : Nat} (h : n ≠ 0) : dg n = n % B64 :: dg (n / B64) := by rw [dg]; simp [h]
theorem val_dg (n : Nat) : val (dg n) = n := by
  induction n using Nat.strongRecOn with
  | ind n ih =>
    by_cases h : n = 0
    · subst h; rw [dg_zero]; rfl
    · rw [dg_pos h]
      show n % B64 + B64 * val (dg (n / B64)) = n
      rw [ih _ (Nat.div_lt_self (by omega) (by unfold B64; omega))]
      exact Nat.mod_add_div n B64
theorem dg_words (n : Nat) : Words (dg n) := by
  induction n using Nat.strongRecOn with
  | ind n ih =>
    by_cases h : n = 0
    · subst h; rw [dg_zero]; exact Words.nil
    · rw [dg_pos h]
      intro x hx
      rcases List.mem_cons.1 hx with rfl | hx
      · exact Nat.mod_lt _ B64_pos
      · exact ih _ (Nat.div_lt_self (by omega) (by unfold B64; omega)) x hx
theorem dg_eq_nil {n : Nat} : dg n = [] ↔ n = 0 := by
  constructor
  · intro h; rw [← val_dg n, h]; rfl
  · rintro rfl; exact dg_zero
theorem norm_dg : ∀ xs, Words xs → norm xs = dg (val xs)
  | [], _ => by rw [val_nil, dg_zero]; rfl
  | x :: xs, h => by
    have ih := norm_dg xs (fun y hy => h y (List.mem_cons_of_mem _ hy))
    have hx : x < B64 := h x (List.mem_cons_self ..)
    show (match norm xs with | [] => if x = 0 then [] else [x] | y :: ys => x :: y :: ys) = dg (x + B64 * val xs)
    by_cases h0 : val xs = 0
    · rw [h0, dg_zero] at ih
      rw [ih, h0]
      by_cases hx0 : x = 0
      · subst hx0; simp [dg_zero]
      · have e : dg (x + B64 * 0) = [x] := by
          rw [dg_pos (by omega), Nat.mul_zero, Nat.add_zero, Nat.mod_eq_of_lt hx, Nat.div_eq_of_lt hx, dg_zero]
        rw [e]; simp [hx0]
    · have hp : 0 < B64 * val xs := Nat.mul_pos B64_pos (by omega)
      have e : dg (x + B64 * val xs) = x :: dg (val xs) := by
        rw [dg_pos (by omega), Nat.add_mul_mod_self_left, Nat.mod_eq_of_lt hx, Nat.add_mul_div_left _ _ B64_pos, Nat.div_eq_of_lt hx, Nat.zero_add]
      rw [e, ih]
      cases hd : dg (val xs) with
      | nil => exact absurd (dg_eq_nil.1 hd) h0
      | cons y ys => rfl
theorem dg_length {n k : Nat} : (dg n).length ≤ k ↔ n < B64 ^ k := by
  constructor
  · intro h
    have := val_lt _ (dg_words n)
    rw [val_dg] at this
    exact Nat.lt_of_lt_of_le this (Nat.pow_le_pow_right B64_pos h)
  · intro h
    induction k generalizing n with
    | zero => rw [Nat.pow_zero] at h; obtain rfl : n = 0 := by omega
              simp [dg_zero]
    | succ k ih =>
      by_cases h0 : n = 0
      · subst h0; simp [dg_zero]
      · rw [dg_pos h0, List.length_cons]
        have := ih (n := n / B64) (by rw [Nat.div_lt_iff_lt_mul B64_pos, ← Nat.pow_succ]; exact h)
        omega
theorem dg_one {n : Nat} (h : n < B64) : dg n = word1 n := by
  unfold word1
  by_cases h0 : n = 0
  · subst h0; simp [dg_zero]
  · rw [dg_pos h0, Nat.mod_eq_of_lt h, Nat.div_eq_of_lt h, dg_zero]; simp [h0]
theorem dg_last {n : Nat} (h : n ≠ 0) : B64 ^ ((dg n).length - 1) ≤ n := by
  have h1 : ¬ (dg n).length ≤ (dg n).length - 1 := by
    have : (dg n).length ≠ 0 := fun e => h (dg_eq_nil.1 (List.eq_nil_of_length_eq_zero e))
    omega
  rw [dg_length] at h1
  omega

/-! ### wrappers -/
theorem addVV (bz oz n cz bx ox cx bx2 oy cy : Nat) (zs xs ys : List Nat) (w : World) (hz : NatB w bz zs) (hx : NatB w bx xs) (hy : NatB w bx2 ys) (hzn : oz + n ≤ zs.length) (hxn : ox + n ≤ xs.length) (hyn : oy + n ≤ ys.length)
    (hwx : Words xs) (hwy : Words ys) (hs : bx ≠ bz ∨ oz ≤ ox) (hs2 : bx2 ≠ bz ∨ oz ≤ oy) (hn : n ≤ 1000000) :
    Calls Tryz.prog 180 #[.slice (some ⟨bz, oz, .none⟩) n cz, .slice (some ⟨bx, ox, .none⟩) n cx, .slice (some ⟨bx2, oy, .none⟩) n cy] w (AddVP bz oz n zs ((xs.drop ox).take n) ((ys.drop oy).take n) w) := by
  have H := Lib.hid (addVV_g bz oz n cz bx ox cx bx2 oy cy zs xs ys w hz hx hy hzn hxn hyn hwx hwy hs hs2 hn)
  clear hz hx hy hzn hxn hyn hwx hwy hs hs2 hn
  go_enter Tryz.func180, Tryz.ntmps180
  go_wp2_with fail
  refine H.out.mono ?_
  rintro e w1 ⟨ks, c, rfl, h⟩
  have K := Lib.hid h
  clear h
  go_wp2_with fail
  go_ret
  exact ⟨ks, c, rfl, K.out⟩
theorem subVV (bz oz n cz bx ox cx bx2 oy cy : Nat) (zs xs ys : List Nat) (w : World) (hz : NatB w bz zs) (hx : NatB w bx xs) (hy : NatB w bx2 ys) (hzn : oz + n ≤ zs.length) (hxn : ox + n ≤ xs.length) (hyn : oy + n ≤ ys.length)
    (hwx : Words xs) (hwy : Words ys) (hs : bx ≠ bz ∨ oz ≤ ox) (hs2 : bx2 ≠ bz ∨ oz ≤ oy) (hn : n ≤ 1000000) :
    Calls Tryz.prog 182 #[.slice (some ⟨bz, oz, .none⟩) n cz, .slice (some ⟨bx, ox, .none⟩) n cx, .slice (some ⟨bx2, oy, .none⟩) n cy] w (SubVP bz oz n zs ((xs.drop ox).take n) ((ys.drop oy).take n) w) := by
  have H := Lib.hid (subVV_g bz oz n cz bx ox cx bx2 oy cy zs xs ys w hz hx hy hzn hxn hyn hwx hwy hs hs2 hn)
  clear hz hx hy hzn hxn hyn hwx hwy hs hs2 hn
  go_enter Tryz.func182, Tryz.ntmps182
  go_wp2_with fail
  refine H.out.mono ?_
  rintro e w1 ⟨ks, c, rfl, h⟩
  have K := Lib.hid h
  clear h
  go_wp2_with fail
  go_ret
  exact ⟨ks, c, rfl, K.out⟩
theorem mulAddVWW (bz oz n cz bx ox cx : Nat) (zs xs : List Nat) (y r : Nat) (w : World) (hz : NatB w bz zs) (hx : NatB w bx xs) (hzn : oz + n ≤ zs.length) (hxn : ox + n ≤ xs.length)
    (hwx : Words xs) (hy : y < B64) (hr : r < B64) (hs : bx ≠ bz ∨ oz ≤ ox) (hn : n ≤ 1000000) :
    Calls Tryz.prog 228 #[.slice (some ⟨bz, oz, .none⟩) n cz, .slice (some ⟨bx, ox, .none⟩) n cx, wd y, wd r] w (MulVP bz oz n zs ((xs.drop ox).take n) y r w) := by
  have H := Lib.hid (mulAddVWW_g bz oz n cz bx ox cx zs xs y r w hz hx hzn hxn hwx hy hr hs hn)
  clear hz hx hy hzn hxn hwx hr hs hn
  go_enter Tryz.func228, Tryz.ntmps228
  go_wp2_with fail
  refine H.out.mono ?_
  rintro e w1 ⟨ks, c, rfl, h⟩
  have K := Lib.hid h
  clear h
  go_wp2_with fail
  go_ret
  exact ⟨ks, c, rfl, K.out⟩
theorem addMulVVWW (bz oz n cz bx ox cx bx2 oy cy : Nat) (zs xs ys : List Nat) (m a : Nat) (w : World) (hz : NatB w bz zs) (hx : NatB w bx xs) (hy : NatB w bx2 ys) (hzn : oz + n ≤ zs.length) (hxn : ox + n ≤ xs.length) (hyn : oy + n ≤ ys.length)
    (hwx : Words xs) (hwy : Words ys) (hm : m < B64) (ha : a < B64) (hs : bx ≠ bz ∨ oz ≤ ox) (hs2 : bx2 ≠ bz ∨ oz ≤ oy) (hn : n ≤ 1000000) :
    Calls Tryz.prog 226 #[.slice (some ⟨bz, oz, .none⟩) n cz, .slice (some ⟨bx, ox, .none⟩) n cx, .slice (some ⟨bx2, oy, .none⟩) n cy, wd m, wd a] w (AMVP bz oz n zs ((xs.drop ox).take n) ((ys.drop oy).take n) m a w) := by
  have H := Lib.hid (addMulVVWW_g bz oz n cz bx ox cx bx2 oy cy zs xs ys m a w hz hx hy hzn hxn hyn hwx hwy hm ha hs hs2 hn)
  clear hz hx hy hzn hxn hyn hwx hwy hm ha hs hs2 hn
  go_enter Tryz.func226, Tryz.ntmps226
  go_wp2_with fail
  refine H.out.mono ?_
  rintro e w1 ⟨ks, c, rfl, h⟩
  have K := Lib.hid h
  clear h
  go_wp2_with fail
  go_ret
  exact ⟨ks, c, rfl, K.out⟩
end Go.Proofs.YtohhkjamddojmaaGreatDoor.Big

namespace Go.Proofs.YtohhkjamddojmaaGreatDoor.Big
open Go.RowKit

/-- what addVW gives -/
def AddWP (bz o n : Nat) (zs X : List Nat) (y : Nat) (w : World) (e : Ending) (w' : World) : Prop :=
  ∃ ks c, e = .returned (wd c) ∧ NatB w' bz (spl zs o ks) ∧ ks.length = n ∧ Words ks ∧ val ks + B64 ^ n * c = val X + y ∧ c ≤ 1 ∧ w.grownBy w' (some bz)

theorem neq_ptr_same {P : Program} {t e : TypeId} {j : TypeInfo} (w : World) (a : Addr) (ht : P.underlying t = some (.pointer e)) (hj : P.info? e = some j) :
    (binOp .neq t (.pointer (some a)) (.pointer (some a))).run P w = .ok (.bool false) w := by
  have h : ∀ d : Nat, (Op.equalIn (d + 1) t (.pointer (some a)) (.pointer (some a))).run P w = .ok true w := fun d => by
    by_cases h0 : j.size = 0
    · simp [Op.equalIn, run_underlying ht, sizeOf, typeInfo, hj, h0]
    · simp [Op.equalIn, run_underlying ht, sizeOf, typeInfo, hj, run_sameAddr_same]
  simp only [binOp]
  simp [Op.equal, Op.maxDepth, h 9999]
theorem neq_ptr_other {P : Program} {t e : TypeId} {j : TypeInfo} {w : World} {a b : Addr} {ca cb : Array Value} {ta tb : TypeId} (ht : P.underlying t = some (.pointer e)) (hj : P.info? e = some j) (hs : j.size ≠ 0)
    (hne : a ≠ b) (ha : w.heap[a.block]? = some (.cells ca ta (0, 0))) (hb : w.heap[b.block]? = some (.cells cb tb (0, 0))) :
    (binOp .neq t (.pointer (some a)) (.pointer (some b))).run P w = .ok (.bool true) w := by
  have h : ∀ d : Nat, (Op.equalIn (d + 1) t (.pointer (some a)) (.pointer (some b))).run P w = .ok false w := fun d => by
    simp [Op.equalIn, run_underlying ht, sizeOf, typeInfo, hj, run_sameAddr_other w hne ha hb, hs]
  simp only [binOp]
  simp [Op.equal, Op.maxDepth, h 9999]

theorem spl_same {zs ks : List Nat} {o k m : Nat} (hk : ks.length = k) (h : o + k + m ≤ zs.length) : spl zs o (ks ++ (zs.drop (o + k)).take m) = spl zs o ks := by
  subst hk
  unfold spl
  have e : ((zs.drop (o + ks.length)).take m).length = m := by simp; omega
  rw [List.length_append, e, ← List.append_assoc, List.append_assoc (zs.take o ++ ks)]
  congr 1
  have e4 : zs.drop (o + (ks.length + m)) = (zs.drop (o + ks.length)).drop m := by rw [List.drop_drop, Nat.add_assoc]
  rw [e4]
  exact List.take_append_drop _ _
theorem spl_spl {zs ks ds : List Nat} {o k : Nat} (hk : ks.length = k) (h : o + k + ds.length ≤ zs.length) : spl (spl zs o ks) (o + k) ds = spl zs o (ks ++ ds) := by
  subst hk
  unfold spl
  have e : (zs.take o ++ ks).length = o + ks.length := by simp; omega
  have e2 : (zs.take o ++ ks ++ zs.drop (o + ks.length)).take (o + ks.length) = zs.take o ++ ks := by rw [← e, List.take_left]
  have e3 : (zs.take o ++ ks ++ zs.drop (o + ks.length)).drop (o + ks.length + ds.length) = zs.drop (o + (ks ++ ds).length) := by
    rw [← List.drop_drop]
    have : (zs.take o ++ ks ++ zs.drop (o + ks.length)).drop (o + ks.length) = zs.drop (o + ks.length) := by rw [← e, List.drop_left]
    rw [this, List.drop_drop, List.length_append, Nat.add_assoc]
  rw [e2, e3, List.append_assoc (zs.take o)]
theorem addw_end {ks X : List Nat} {k s y : Nat} (h : val (ks ++ [s]) = val (X.take (k + 1)) + y) (hk : ks.length = k) (hX : k < X.length) : val (ks ++ [s] ++ X.drop (k + 1)) + B64 ^ X.length * 0 = val X + y := by
  have e : val X = val (X.take (k + 1)) + B64 ^ (k + 1) * val (X.drop (k + 1)) := by
    conv => lhs; rw [← List.take_append_drop (k + 1) X]
    rw [val_append, List.length_take, Nat.min_eq_left (by omega)]
  rw [val_append, List.length_append, hk, List.length_singleton]
  omega
theorem addw_step {ks X : List Nat} {k s x c c' y : Nat} (h : val ks + B64 ^ k * c = val (X.take k) + y) (hk : ks.length = k) (hX : k < X.length) (hx : X.getD k 0 = x) (h2 : s + c' * B64 = x + c) : val (ks ++ [s]) + B64 ^ (k + 1) * c' = val (X.take (k + 1)) + y := by
  rw [take_snoc _ _ hX, val_snoc, val_snoc, hk, hx, List.length_take, Nat.min_eq_left (by omega), Nat.pow_succ]
  have e : B64 ^ k * (s + c' * B64) = B64 ^ k * (x + c) := by rw [h2]
  rw [Nat.mul_add, Nat.mul_add] at e
  have e2 : B64 ^ k * (c' * B64) = B64 ^ k * B64 * c' := by rw [Nat.mul_comm c', Nat.mul_assoc]
  omega
theorem drop_take_getD {xs : List Nat} {o n k : Nat} (h : k < n) : ((xs.drop o).take n).getD k 0 = xs.getD (o + k) 0 := by
  simp only [List.getD, List.getElem?_take, List.getElem?_drop]
  rw [if_pos h]

structure AWInv (bz o : Nat) (zs X : List Nat) (y k : Nat) (ks : List Nat) (w wr : World) : Prop where
  row : NatB wr bz (spl zs o ks)
  len : ks.length = k
  words : Words ks
  eq : val ks + B64 ^ k * 1 = val (X.take k) + y
  grown : w.grownBy wr (some bz)

theorem AWInv.stop {bz o n : Nat} {zs : List Nat} {y k : Nat} {ks : List Nat} {w wr' : World} {s : Nat} (hz : Words zs) (hzn : o + n ≤ zs.length) (hk : k < n)
    (hrow : NatB wr' bz (spl zs o (ks ++ [s]))) (hlen : ks.length = k) (hw : Words ks) (hs : s < B64) (hg : w.grownBy wr' (some bz)) (heq : val (ks ++ [s]) = val (((zs.drop o).take n).take (k + 1)) + y) :
    AddWP bz o n zs ((zs.drop o).take n) y w (.returned (wd 0)) wr' := by
  have hl : ((zs.drop o).take n).length = n := by simp; omega
  have hl2 : (ks ++ [s]).length = k + 1 := by simp [hlen]
  have e : ((zs.drop o).take n).drop (k + 1) = (zs.drop (o + (k + 1))).take (n - (k + 1)) := by rw [List.drop_take, List.drop_drop]
  have he := addw_end heq hlen (by omega)
  rw [hl] at he
  refine ⟨ks ++ [s] ++ ((zs.drop o).take n).drop (k + 1), 0, rfl, ?_, by simp [hlen]; omega, (hw.append (Words.one hs)).append (((hz.drop _).take _).drop _), he, by omega, hg⟩
  rw [e, spl_same hl2 (by omega)]
  exact hrow

set_option maxHeartbeats 1000000 in
set_option maxRecDepth 100000 in
theorem addVW_same (bz o n cz cx : Nat) (zs : List Nat) (y : Nat) (w : World) (hz : NatB w bz zs) (hzn : o + n ≤ zs.length)
    (hwx : Words zs) (hy : y < B64) (h1 : 1 ≤ n) (hn : n ≤ 1000000) :
    Calls Tryz.prog 181 #[.slice (some ⟨bz, o, .none⟩) n cz, .slice (some ⟨bz, o, .none⟩) n cx, wd y] w (AddWP bz o n zs ((zs.drop o).take n) y w) := by
  obtain ⟨j, hj, _⟩ := info_parts info199
  have he : ∀ w : World, (binOp .neq 233 (.pointer (some ⟨bz, o, .none⟩)) (.pointer (some ⟨bz, o, .none⟩))).run Tryz.prog w = .ok (.bool false) w := fun w => neq_ptr_same w _ under233 hj
  have hc := hz.cell o (by omega)
  have hf := hz.free o
  have HZ := Lib.hid hz
  have HWX := Lib.hid hwx
  have HY := Lib.hid hy
  clear hz hwx hy
  generalize hx0 : zs.getD o 0 = x0 at *
  have HX0 := Lib.hid hx0
  have HXW := Lib.hid (show x0 < B64 by rw [← hx0]; exact HWX.out.getD _)
  have HF := Lib.hid (add_facts HXW.out HY.out (by omega : 0 ≤ 1))
  have HRow := Lib.hid (fun v => by have := HZ.out.set o v; rwa [show zs.set o v = spl zs o ([] ++ [v]) by rw [← spl_set (by simp; omega)]; rw [spl_nil]; rfl] at this : ∀ v, NatB (w.setCell ⟨bz, o, .none⟩ (wd v)) bz (spl zs o ([] ++ [v])))
  have HEq : val ([] : List Nat) + B64 ^ 0 * y = val (((zs.drop o).take n).take 0) + y := by simp [val]
  have HStep := Lib.hid (addw_step (s := addS x0 y 0) (c' := addC x0 y 0) HEq rfl (by simp; omega) (by rw [drop_take_getD (by omega)]; exact hx0) HF.out.1)
  clear hx0 HEq
  have hsl : ∀ v, (spl zs o ([] ++ [v])).length = zs.length := fun v => spl_length (by simp; omega)
  have HSL := Lib.hid hsl
  clear hsl
  go_enter Tryz.func181, Tryz.ntmps181
  go_wp2_with fail
  refine (bAddF x0 y 0 HXW.out HY.out (by omega) _).mono ?_
  rintro e w1 ⟨rfl, hw⟩
  obtain rfl : w = w1 := hw.symm
  by_cases hcc : addC x0 y 0 = 0
  · have HS0 := Lib.hid (show val ([] ++ [addS x0 y 0]) = val (((zs.drop o).take n).take (0 + 1)) + y by have := HStep.out; rw [hcc] at this; simpa using this)
    rw [hcc] at *
    go_wp2_with fail
    go_quiet (fail)
    go_wp2_with fail
    go_ret
    exact AWInv.stop (k := 0) HWX.out (by omega) (by omega) (NatB.drewN (HRow.out _) _) rfl Words.nil HF.out.2.1 (grown_trans (grown_set _ _ _ _) (grown_drewN _ _ _)) HS0.out
  · have hc1 : addC x0 y 0 = 1 := by have := HF.out.2.2; omega
    have HS1 := Lib.hid (by have := HStep.out; rwa [hc1] at this : val ([] ++ [addS x0 y 0]) + B64 ^ (0 + 1) * 1 = val (((zs.drop o).take n).take (0 + 1)) + y)
    rw [hc1] at *
    clear hcc hc1
    go_wp2_with fail
    go_loopw [9] (fun i wr => ∃ k : Nat, k ≤ n ∧ 1 ≤ k ∧ i = .int .i64 k ∧ ∃ ks, AWInv bz o zs ((zs.drop o).take n) y k ks w wr)
      (fun i _ => n - (intOf i).toNat)
    case atStart => exact ⟨1, by omega, by omega, rfl, _, HRow.out _, rfl, Words.nil.append (Words.one HF.out.2.1), HS1.out, grown_set _ _ _ _⟩
    case round =>
      obtain ⟨k, hk, hk1, rfl, ks, S⟩ := hrel
      by_cases hlt : k < n
      · have hxc := S.row.cell (o + k) (by rw [spl_length (by have := S.len; omega)]; omega)
        rw [spl_getD (by have := S.len; omega) (by omega)] at hxc
        have hzf := S.row.free (o + k)
        have hw := HWX.out.getD (o + k)
        have hxg := drop_take_getD (xs := zs) (o := o) hlt
        have hlt2 : k < ((zs.drop o).take n).length := by simp; omega
        generalize zs.getD (o + k) 0 = x at *
        have HW := Lib.hid hw
        have HXG := Lib.hid hxg
        have HLT2 := Lib.hid hlt2
        by_cases hx : x = 18446744073709551615
        · have hst := addw_step (s := 0) (c' := 1) S.eq S.len hlt2 hxg (by unfold B64; omega)
          have hx1 : ((x : Int) == 18446744073709551615) = true := by rw [beq_iff_eq]; omega
          have HST := Lib.hid hst
          clear hw hxg hst hlt2 hx
          go_wp2_with fail
          go_roundw
          case rel => exact ⟨k + 1, by omega, by omega, by go_num, ks ++ [0], write_row S.row S.len (by omega), by simp [S.len], S.words.append (Words.one B64_pos), HST.out, grown_trans S.grown (grown_set _ _ _ _)⟩
          case measure => simp [intOf]; omega
        · have hst := addw_step (s := x + 1) (c' := 0) S.eq S.len hlt2 hxg (by omega)
          have hx1 : ((x : Int) == 18446744073709551615) = false := by rw [beq_eq_false_iff_ne]; omega
          have hx2 : IntKind.u64.wrap ((x : Int) + 1) = ((x + 1 : Nat) : Int) := by unfold B64 at hw; rw [IntWalk.u64_in _ (by omega)]; omega
          have hb : x + 1 < B64 := by unfold B64 at hw ⊢; omega
          have HS0 := Lib.hid (show val (ks ++ [x + 1]) = val (((zs.drop o).take n).take (k + 1)) + y by rwa [Nat.mul_zero, Nat.add_zero] at hst)
          have HB := Lib.hid hb
          clear hw hxg hst hlt2 hx hb
          go_wp2_with fail
          go_quiet (fail)
          go_wp2_with fail
          go_ret
          refine AWInv.stop (k := k) (s := x + 1) HWX.out (by omega) (by omega) (NatB.drewN (write_row S.row S.len (by omega)) _) S.len S.words HB.out (grown_trans S.grown (grown_trans (grown_set _ _ _ _) (grown_drewN _ _ _))) HS0.out
      · go_wp2_with fail
        go_ret
        obtain rfl : k = n := by omega
        have hl : ((zs.drop o).take k).take k = (zs.drop o).take k := by rw [List.take_take, Nat.min_self]
        exact ⟨ks, 1, rfl, S.row, S.len, S.words, by have := S.eq; rwa [hl] at this, by omega, S.grown⟩

/-! ### 'copy' inside a region that draws -/
theorem step_copy_run {P : Program} {ops : Array Oper} {o : Oper} {a : Act} {w : World} {K : Act → World → Prop} {Q : Exit → Act → World → Prop} {E : Prop} (hgd : o.guard = .none) (d s : Operand) (dT sT : TypeId)
    (ho : o.op = .call { callee := .builtin .copy, args := #[d, s], argTypes := #[dT, sT] }) (vd vs v : Value) (w1 : World) (hrun : ∀ ty, (Builtin.copy_ #[dT, sT] ty #[vd, vs]).run P w = .ok v w1) (hd : a.eval d = vd) (hs : a.eval s = vs)
    (h : K (a.put o.dst v) w1) :
    if Region.wanted o (yielded ops a.tmps) = true then Oper.wp P o a w K Q else E := by
  have hw : Region.wanted o (yielded ops a.tmps) = true := by simp [Region.wanted, hgd]
  rw [if_pos hw]
  have hrun := hrun o.type
  unfold Oper.wp
  simp [execOp, ho, resolve, invoke, builtin, hd, hs, hrun, Result.andThen]
  exact h
theorem under169 : Tryz.prog.underlying 169 = some (.slice 199) := by kernel_rfl
/-- 'copy' of n words from place ox of a row to place oz of another, n maybe none -/
theorem copy_part (w : World) (p q : Option Addr) (bz oz cz bx ox cx n : Nat) (zs xs : List Nat) (hz : NatB w bz zs) (hx : NatB w bx xs) (hzn : oz + n ≤ zs.length) (hxn : ox + n ≤ xs.length)
    (hp : 0 < n → p = some ⟨bz, oz, .none⟩) (hq : 0 < n → q = some ⟨bx, ox, .none⟩) (T : TypeId) (hT : Tryz.prog.underlying T = some (.slice 199)) :
    ∃ w1, (∀ ty, (Builtin.copy_ #[T, T] ty #[.slice p n cz, .slice q n cx]).run Tryz.prog w = .ok (.int .i64 n) w1) ∧ NatB w1 bz (spl zs oz ((xs.drop ox).take n)) ∧ w.grownBy w1 (some bz) := by
  rcases Nat.eq_zero_or_pos n with rfl | h0
  · exact ⟨w, fun ty => run_copy_none (P := Tryz.prog) w T T ty 199 p q 0 cz 0 cx hT (by kernel_rfl) rfl, by simpa [spl_nil] using hz, grown_refl _ _⟩
  · rw [hp h0, hq h0]
    refine copy_words w bz oz n cz bx ox n cx n zs ((xs.drop ox).take n) hz (fun i hi => ?_) (by simp) (by simp; omega) (by omega) T hT
    rw [hx.cell (ox + i) (by omega), drop_take_getD hi]

theorem AWInv.stop2 {bz o n : Nat} {zs xs : List Nat} {y k : Nat} {ks : List Nat} {w wr' : World} {s : Nat} (hx : Words xs) (hzn : o + n ≤ zs.length) (hxn : o + n ≤ xs.length) (hk : k < n)
    (hrow : NatB wr' bz (spl (spl zs o (ks ++ [s])) (o + (k + 1)) ((xs.drop (o + (k + 1))).take (n - (k + 1))))) (hlen : ks.length = k) (hw : Words ks) (hs : s < B64) (hg : w.grownBy wr' (some bz)) (heq : val (ks ++ [s]) = val (((xs.drop o).take n).take (k + 1)) + y) :
    AddWP bz o n zs ((xs.drop o).take n) y w (.returned (wd 0)) wr' := by
  have hl : ((xs.drop o).take n).length = n := by simp; omega
  have hl2 : (ks ++ [s]).length = k + 1 := by simp [hlen]
  have e : ((xs.drop o).take n).drop (k + 1) = (xs.drop (o + (k + 1))).take (n - (k + 1)) := by rw [List.drop_take, List.drop_drop]
  have he := addw_end heq hlen (by omega)
  rw [hl] at he
  refine ⟨ks ++ [s] ++ ((xs.drop o).take n).drop (k + 1), 0, rfl, ?_, by simp [hlen]; omega, (hw.append (Words.one hs)).append (((hx.drop _).take _).drop _), he, by omega, hg⟩
  rw [e, ← spl_spl hl2 (by simp; omega)]
  exact hrow

set_option maxHeartbeats 1000000 in
set_option maxRecDepth 100000 in
theorem addVW_other (bz bx o n cz cx : Nat) (zs xs : List Nat) (y : Nat) (w : World) (hz : NatB w bz zs) (hx : NatB w bx xs) (hne : bz ≠ bx) (hzn : o + n ≤ zs.length) (hxn : o + n ≤ xs.length)
    (hwx : Words xs) (hy : y < B64) (h1 : 1 ≤ n) (hn : n ≤ 1000000) (hcz : n ≤ cz) (hcx : n ≤ cx) :
    Calls Tryz.prog 181 #[.slice (some ⟨bz, o, .none⟩) n cz, .slice (some ⟨bx, o, .none⟩) n cx, wd y] w (AddWP bz o n zs ((xs.drop o).take n) y w) := by
  obtain ⟨j, hj, _, hj2, _⟩ := info_parts info199
  have he : ∀ w' : World, w.grownBy w' (some bz) → (∃ zs', NatB w' bz zs') → (binOp .neq 233 (.pointer (some ⟨bz, o, .none⟩)) (.pointer (some ⟨bx, o, .none⟩))).run Tryz.prog w' = .ok (.bool true) w' := by
    rintro w' hg ⟨zs', hz'⟩
    exact neq_ptr_other (w := w') under233 hj (by rw [hj2]; decide) (by intro e; simp only [Addr.mk.injEq] at e; exact hne e.1) hz' (hx.kept hg (by simp [Ne.symm hne]))
  have hc := hx.cell o (by omega)
  have hcz0 := hz.cell o (by omega)
  have hf := hz.free o
  have HE := Lib.hid he
  have HZ := Lib.hid hz
  have HX := Lib.hid hx
  have HWX := Lib.hid hwx
  have HY := Lib.hid hy
  have HNE := Lib.hid hne
  clear hz hx hwx hy he
  generalize hx0 : xs.getD o 0 = x0 at *
  generalize zs.getD o 0 = z0 at *
  have HX0 := Lib.hid hx0
  have HXW := Lib.hid (show x0 < B64 by rw [← hx0]; exact HWX.out.getD _)
  have HF := Lib.hid (add_facts HXW.out HY.out (by omega : 0 ≤ 1))
  have HRow := Lib.hid (fun v => by have := HZ.out.set o v; rwa [show zs.set o v = spl zs o ([] ++ [v]) by rw [← spl_set (by simp; omega)]; rw [spl_nil]; rfl] at this : ∀ v, NatB (w.setCell ⟨bz, o, .none⟩ (wd v)) bz (spl zs o ([] ++ [v])))
  have HEq : val ([] : List Nat) + B64 ^ 0 * y = val (((xs.drop o).take n).take 0) + y := by simp [val]
  have HStep := Lib.hid (addw_step (s := addS x0 y 0) (c' := addC x0 y 0) HEq rfl (by simp; omega) (by rw [drop_take_getD (by omega)]; exact hx0) HF.out.1)
  clear hx0 HEq hne
  go_enter Tryz.func181, Tryz.ntmps181
  go_wp2_with fail
  refine (bAddF x0 y 0 HXW.out HY.out (by omega) _).mono ?_
  rintro e w1 ⟨rfl, hw⟩
  obtain rfl : w = w1 := hw.symm
  by_cases hcc : addC x0 y 0 = 0
  · have HS0 := Lib.hid (show val ([] ++ [addS x0 y 0]) = val (((xs.drop o).take n).take (0 + 1)) + y by have := HStep.out; rw [hcc] at this; simpa using this)
    rw [hcc] at *
    have he1 : ∀ k, (binOp .neq 233 (.pointer (some ⟨bz, o, .none⟩)) (.pointer (some ⟨bx, o, .none⟩))).run Tryz.prog ((w.setCell ⟨bz, o, .none⟩ (wd (addS x0 y 0))).drewN k) = .ok (.bool true) ((w.setCell ⟨bz, o, .none⟩ (wd (addS x0 y 0))).drewN k) :=
      fun k => HE.out _ (grown_trans (grown_set _ _ _ _) (grown_drewN _ _ _)) ⟨_, NatB.drewN (HRow.out _) _⟩
    go_wp2_with fail
    go_quiet (fail)
    clear he1
    have hn1 : (1 : Int) ≤ (n : Int) := by omega
    obtain ⟨w2, hcp, hN2, hG2⟩ := copy_part ((w.setCell ⟨bz, o, .none⟩ (wd (addS x0 y 0))).drewN (nq + 1)) (if cz = 1 then some ⟨bz, o, .none⟩ else some ⟨bz, o + 1, .none⟩) (if cx = 1 then some ⟨bx, o, .none⟩ else some ⟨bx, o + 1, .none⟩)
      bz (o + 1) (cz - 1) bx (o + 1) (cx - 1) (n - 1) (spl zs o ([] ++ [addS x0 y 0])) xs (NatB.drewN (HRow.out _) _) ((HX.out.kept (grown_set _ _ _ _) (by simpa using Ne.symm HNE.out)).drewN _) (by rw [spl_length (by simp; omega)]; omega) (by omega) (fun h => by rw [if_neg (by omega)]) (fun h => by rw [if_neg (by omega)]) 169 under169
    have HN2 := Lib.hid hN2
    have HG2 := Lib.hid (grown_trans (grown_trans (grown_set _ _ _ _) (grown_drewN _ _ _)) hG2)
    clear hN2 hG2
    go_wp2_with fail
    go_region_law (refine step_copy_run rfl (.tmp 40) (.tmp 42) 169 169 rfl _ _ _ _ hcp (by simp [Act.eval, Act.put]) (by simp [Act.eval, Act.put]) ?_)
    all_goals
      go_wp2_with fail
      all_goals
        go_ret
        exact AWInv.stop2 (k := 0) HWX.out hzn hxn (by omega) HN2.out rfl Words.nil HF.out.2.1 HG2.out HS0.out
  · have hc1 : addC x0 y 0 = 1 := by have := HF.out.2.2; omega
    have HS1 := Lib.hid (by have := HStep.out; rwa [hc1] at this : val ([] ++ [addS x0 y 0]) + B64 ^ (0 + 1) * 1 = val (((xs.drop o).take n).take (0 + 1)) + y)
    rw [hc1] at *
    clear hcc hc1
    go_wp2_with fail
    go_loopw [9] (fun i wr => ∃ k : Nat, k ≤ n ∧ 1 ≤ k ∧ i = .int .i64 k ∧ ∃ ks, AWInv bz o zs ((xs.drop o).take n) y k ks w wr)
      (fun i _ => n - (intOf i).toNat)
    case atStart => exact ⟨1, by omega, by omega, rfl, _, HRow.out _, rfl, Words.nil.append (Words.one HF.out.2.1), HS1.out, grown_set _ _ _ _⟩
    case round =>
      obtain ⟨k, hk, hk1, rfl, ks, S⟩ := hrel
      by_cases hlt : k < n
      · have hxc := (HX.out.kept S.grown (by simpa using Ne.symm HNE.out)).cell (o + k) (by omega)
        have hzc := S.row.cell (o + k) (by rw [spl_length (by have := S.len; omega)]; omega)
        have hzf := S.row.free (o + k)
        have hw := HWX.out.getD (o + k)
        have hxg := drop_take_getD (xs := xs) (o := o) hlt
        have hlt2 : k < ((xs.drop o).take n).length := by simp; omega
        generalize xs.getD (o + k) 0 = x at *
        generalize (spl zs o ks).getD (o + k) 0 = zold at *
        have HW := Lib.hid hw
        have HXG := Lib.hid hxg
        have HLT2 := Lib.hid hlt2
        by_cases hx : x = 18446744073709551615
        · have hst := addw_step (s := 0) (c' := 1) S.eq S.len hlt2 hxg (by unfold B64; omega)
          have hx1 : ((x : Int) == 18446744073709551615) = true := by rw [beq_iff_eq]; omega
          have HST := Lib.hid hst
          clear hw hxg hst hlt2 hx
          go_wp2_with fail
          go_roundw
          case rel => exact ⟨k + 1, by omega, by omega, by go_num, ks ++ [0], write_row S.row S.len (by omega), by simp [S.len], S.words.append (Words.one B64_pos), HST.out, grown_trans S.grown (grown_set _ _ _ _)⟩
          case measure => simp [intOf]; omega
        · have hst := addw_step (s := x + 1) (c' := 0) S.eq S.len hlt2 hxg (by omega)
          have hx1 : ((x : Int) == 18446744073709551615) = false := by rw [beq_eq_false_iff_ne]; omega
          have hx2 : IntKind.u64.wrap ((x : Int) + 1) = ((x + 1 : Nat) : Int) := by unfold B64 at hw; rw [IntWalk.u64_in _ (by omega)]; omega
          have hb : x + 1 < B64 := by unfold B64 at hw ⊢; omega
          have HS0 := Lib.hid (show val (ks ++ [x + 1]) = val (((xs.drop o).take n).take (k + 1)) + y by rwa [Nat.mul_zero, Nat.add_zero] at hst)
          have HB := Lib.hid hb
          have hrow := write_row (v := x + 1) S.row S.len (by omega)
          have HRW := Lib.hid hrow
          have he1 : ∀ d, (binOp .neq 233 (.pointer (some ⟨bz, o, .none⟩)) (.pointer (some ⟨bx, o, .none⟩))).run Tryz.prog ((wr.setCell ⟨bz, o + k, .none⟩ (.int .u64 ((x : Int) + 1))).drewN d) = .ok (.bool true) ((wr.setCell ⟨bz, o + k, .none⟩ (.int .u64 ((x : Int) + 1))).drewN d) :=
            fun d => HE.out _ (grown_trans S.grown (grown_trans (grown_set _ _ _ _) (grown_drewN _ _ _))) ⟨_, NatB.drewN hrow _⟩
          have hn0 : (0 : Int) < (n : Int) := by omega
          clear hw hxg hst hlt2 hx hb hrow
          go_wp2_with fail
          go_quiet (fail)
          clear he1
          have hnk : (k : Int) + 1 ≤ (n : Int) := by omega
          have hnk0 : 0 ≤ (k : Int) + 1 := by omega
          have hkw : IntKind.i64.wrap ((k : Int) + 1) = (k : Int) + 1 := IntWalk.i64_in _ (by omega)
          have hkt : ((k : Int) + 1).toNat = k + 1 := by omega
          obtain ⟨w2, hcp, hN2, hG2⟩ := copy_part ((wr.setCell ⟨bz, o + k, .none⟩ (.int .u64 ((x : Int) + 1))).drewN (nq + 1)) (if cz = k + 1 then some ⟨bz, o, .none⟩ else some ⟨bz, o + (k + 1), .none⟩) (if cx = k + 1 then some ⟨bx, o, .none⟩ else some ⟨bx, o + (k + 1), .none⟩)
            bz (o + (k + 1)) (cz - (k + 1)) bx (o + (k + 1)) (cx - (k + 1)) (n - (k + 1)) (spl zs o (ks ++ [x + 1])) xs (NatB.drewN HRW.out _) (((HX.out.kept S.grown (by simpa using Ne.symm HNE.out)).kept (grown_set _ _ _ _) (by simpa using Ne.symm HNE.out)).drewN _) (by rw [spl_length (by have := S.len; simp; omega)]; omega) (by omega) (fun h => by rw [if_neg (by omega)]) (fun h => by rw [if_neg (by omega)]) 169 under169
          have HN2 := Lib.hid hN2
          have HG2 := Lib.hid (grown_trans S.grown (grown_trans (grown_trans (grown_set _ _ _ _) (grown_drewN _ _ _)) hG2))
          clear hN2 hG2
          go_wp2_with fail
          go_region_law (refine step_copy_run rfl (.tmp 69) (.tmp 73) 169 169 rfl _ _ _ _ hcp (by simp [Act.eval, Act.put]) (by simp [Act.eval, Act.put]) ?_)
          all_goals
            go_wp2_with fail
            all_goals
              go_ret
              exact AWInv.stop2 (k := k) HWX.out hzn hxn (by omega) HN2.out S.len S.words HB.out HG2.out HS0.out
      · go_wp2_with fail
        go_ret
        obtain rfl : k = n := by omega
        have hl : ((xs.drop o).take k).take k = (xs.drop o).take k := by rw [List.take_take, Nat.min_self]
        exact ⟨ks, 1, rfl, S.row, S.len, S.words, by have := S.eq; rwa [hl] at this, by omega, S.grown⟩
end Go.Proofs.YtohhkjamddojmaaGreatDoor.Big

namespace Go.Proofs.YtohhkjamddojmaaGreatDoor.Big
open Go.RowKit

/-- what subVW gives -/
def SubWP (bz o n : Nat) (zs X : List Nat) (y : Nat) (w : World) (e : Ending) (w' : World) : Prop :=
  ∃ ks c, e = .returned (wd c) ∧ NatB w' bz (spl zs o ks) ∧ ks.length = n ∧ Words ks ∧ val ks + y = val X + B64 ^ n * c ∧ c ≤ 1 ∧ w.grownBy w' (some bz)

theorem subw_end {ks X : List Nat} {k s y : Nat} (h : val (ks ++ [s]) + y = val (X.take (k + 1))) (hk : ks.length = k) (hX : k < X.length) : val (ks ++ [s] ++ X.drop (k + 1)) + y = val X + B64 ^ X.length * 0 := by
  have e : val X = val (X.take (k + 1)) + B64 ^ (k + 1) * val (X.drop (k + 1)) := by
    conv => lhs; rw [← List.take_append_drop (k + 1) X]
    rw [val_append, List.length_take, Nat.min_eq_left (by omega)]
  rw [val_append, List.length_append, hk, List.length_singleton]
  omega
theorem subw_step {ks X : List Nat} {k s x c c' y : Nat} (h : val ks + y = val (X.take k) + B64 ^ k * c) (hk : ks.length = k) (hX : k < X.length) (hx : X.getD k 0 = x) (h2 : s + c = x + c' * B64) : val (ks ++ [s]) + y = val (X.take (k + 1)) + B64 ^ (k + 1) * c' := by
  rw [take_snoc _ _ hX, val_snoc, val_snoc, hk, hx, List.length_take, Nat.min_eq_left (by omega), Nat.pow_succ]
  have e : B64 ^ k * (s + c) = B64 ^ k * (x + c' * B64) := by rw [h2]
  rw [Nat.mul_add, Nat.mul_add] at e
  have e2 : B64 ^ k * (c' * B64) = B64 ^ k * B64 * c' := by rw [Nat.mul_comm c', Nat.mul_assoc]
  omega
theorem hmax : 18446744073709551615 < B64 := by unfold B64; omega

structure SWInv (bz o : Nat) (zs X : List Nat) (y k : Nat) (ks : List Nat) (w wr : World) : Prop where
  row : NatB wr bz (spl zs o ks)
  len : ks.length = k
  words : Words ks
  eq : val ks + y = val (X.take k) + B64 ^ k * 1
  grown : w.grownBy wr (some bz)

theorem SWInv.stop {bz o n : Nat} {zs : List Nat} {y k : Nat} {ks : List Nat} {w wr' : World} {s : Nat} (hz : Words zs) (hzn : o + n ≤ zs.length) (hk : k < n)
    (hrow : NatB wr' bz (spl zs o (ks ++ [s]))) (hlen : ks.length = k) (hw : Words ks) (hs : s < B64) (hg : w.grownBy wr' (some bz)) (heq : val (ks ++ [s]) + y = val (((zs.drop o).take n).take (k + 1))) :
    SubWP bz o n zs ((zs.drop o).take n) y w (.returned (wd 0)) wr' := by
  have hl : ((zs.drop o).take n).length = n := by simp; omega
  have hl2 : (ks ++ [s]).length = k + 1 := by simp [hlen]
  have e : ((zs.drop o).take n).drop (k + 1) = (zs.drop (o + (k + 1))).take (n - (k + 1)) := by rw [List.drop_take, List.drop_drop]
  have he := subw_end heq hlen (by omega)
  rw [hl] at he
  refine ⟨ks ++ [s] ++ ((zs.drop o).take n).drop (k + 1), 0, rfl, ?_, by simp [hlen]; omega, (hw.append (Words.one hs)).append (((hz.drop _).take _).drop _), he, by omega, hg⟩
  rw [e, spl_same hl2 (by omega)]
  exact hrow

set_option maxHeartbeats 1000000 in
set_option maxRecDepth 100000 in
theorem subVW_same (bz o n cz cx : Nat) (zs : List Nat) (y : Nat) (w : World) (hz : NatB w bz zs) (hzn : o + n ≤ zs.length)
    (hwx : Words zs) (hy : y < B64) (h1 : 1 ≤ n) (hn : n ≤ 1000000) :
    Calls Tryz.prog 183 #[.slice (some ⟨bz, o, .none⟩) n cz, .slice (some ⟨bz, o, .none⟩) n cx, wd y] w (SubWP bz o n zs ((zs.drop o).take n) y w) := by
  obtain ⟨j, hj, _⟩ := info_parts info199
  have he : ∀ w : World, (binOp .neq 233 (.pointer (some ⟨bz, o, .none⟩)) (.pointer (some ⟨bz, o, .none⟩))).run Tryz.prog w = .ok (.bool false) w := fun w => neq_ptr_same w _ under233 hj
  have hc := hz.cell o (by omega)
  have hf := hz.free o
  have HZ := Lib.hid hz
  have HWX := Lib.hid hwx
  have HY := Lib.hid hy
  clear hz hwx hy
  generalize hx0 : zs.getD o 0 = x0 at *
  have HX0 := Lib.hid hx0
  have HXW := Lib.hid (show x0 < B64 by rw [← hx0]; exact HWX.out.getD _)
  have HF := Lib.hid (sub_facts HXW.out HY.out (by omega : 0 ≤ 1))
  have HRow := Lib.hid (fun v => by have := HZ.out.set o v; rwa [show zs.set o v = spl zs o ([] ++ [v]) by rw [← spl_set (by simp; omega)]; rw [spl_nil]; rfl] at this : ∀ v, NatB (w.setCell ⟨bz, o, .none⟩ (wd v)) bz (spl zs o ([] ++ [v])))
  have HEq : val ([] : List Nat) + y = val (((zs.drop o).take n).take 0) + B64 ^ 0 * y := by simp [val]
  have HStep := Lib.hid (subw_step (s := subS x0 y 0) (c' := subC x0 y 0) HEq rfl (by simp; omega) (by rw [drop_take_getD (by omega)]; exact hx0) HF.out.1)
  clear hx0 HEq
  have hsl : ∀ v, (spl zs o ([] ++ [v])).length = zs.length := fun v => spl_length (by simp; omega)
  have HSL := Lib.hid hsl
  clear hsl
  go_enter Tryz.func183, Tryz.ntmps183
  go_wp2_with fail
  refine (bSubF x0 y 0 HXW.out HY.out (by omega) _).mono ?_
  rintro e w1 ⟨rfl, hw⟩
  obtain rfl : w = w1 := hw.symm
  by_cases hcc : subC x0 y 0 = 0
  · have HS0 := Lib.hid (show val ([] ++ [subS x0 y 0]) + y = val (((zs.drop o).take n).take (0 + 1)) by have := HStep.out; rw [hcc] at this; simpa using this)
    rw [hcc] at *
    go_wp2_with fail
    go_quiet (fail)
    go_wp2_with fail
    go_ret
    exact SWInv.stop (k := 0) HWX.out (by omega) (by omega) (NatB.drewN (HRow.out _) _) rfl Words.nil HF.out.2.1 (grown_trans (grown_set _ _ _ _) (grown_drewN _ _ _)) HS0.out
  · have hc1 : subC x0 y 0 = 1 := by have := HF.out.2.2; omega
    have HS1 := Lib.hid (by have := HStep.out; rwa [hc1] at this : val ([] ++ [subS x0 y 0]) + y = val (((zs.drop o).take n).take (0 + 1)) + B64 ^ (0 + 1) * 1)
    rw [hc1] at *
    clear hcc hc1
    go_wp2_with fail
    go_loopw [9] (fun i wr => ∃ k : Nat, k ≤ n ∧ 1 ≤ k ∧ i = .int .i64 k ∧ ∃ ks, SWInv bz o zs ((zs.drop o).take n) y k ks w wr)
      (fun i _ => n - (intOf i).toNat)
    case atStart => exact ⟨1, by omega, by omega, rfl, _, HRow.out _, rfl, Words.nil.append (Words.one HF.out.2.1), HS1.out, grown_set _ _ _ _⟩
    case round =>
      obtain ⟨k, hk, hk1, rfl, ks, S⟩ := hrel
      by_cases hlt : k < n
      · have hxc := S.row.cell (o + k) (by rw [spl_length (by have := S.len; omega)]; omega)
        rw [spl_getD (by have := S.len; omega) (by omega)] at hxc
        have hzf := S.row.free (o + k)
        have hw := HWX.out.getD (o + k)
        have hxg := drop_take_getD (xs := zs) (o := o) hlt
        have hlt2 : k < ((zs.drop o).take n).length := by simp; omega
        generalize zs.getD (o + k) 0 = x at *
        have HW := Lib.hid hw
        have HXG := Lib.hid hxg
        have HLT2 := Lib.hid hlt2
        by_cases hx : x = 0
        · have hst := subw_step (s := 18446744073709551615) (c' := 1) S.eq S.len hlt2 hxg (by unfold B64; omega)
          have hx1 : ((x : Int) == 0) = true := by rw [beq_iff_eq]; omega
          have HST := Lib.hid hst
          clear hw hxg hst hlt2 hx
          go_wp2_with fail
          go_roundw
          case rel => exact ⟨k + 1, by omega, by omega, by go_num, ks ++ [18446744073709551615], write_row S.row S.len (by omega), by simp [S.len], S.words.append (Words.one hmax), HST.out, grown_trans S.grown (grown_set _ _ _ _)⟩
          case measure => simp [intOf]; omega
        · obtain ⟨v, hv⟩ : ∃ v, v = x - 1 := ⟨_, rfl⟩
          have hst := subw_step (s := v) (c' := 0) S.eq S.len hlt2 hxg (by omega)
          have hx1 : ((x : Int) == 0) = false := by rw [beq_eq_false_iff_ne]; omega
          have hx2 : IntKind.u64.wrap ((x : Int) - 1) = (v : Int) := by unfold B64 at hw; rw [IntWalk.u64_in _ (by omega)]; omega
          have hb : v < B64 := by unfold B64 at hw ⊢; omega
          have HS0 := Lib.hid (show val (ks ++ [v]) + y = val (((zs.drop o).take n).take (k + 1)) by rwa [Nat.mul_zero, Nat.add_zero] at hst)
          have HB := Lib.hid hb
          clear hw hxg hst hlt2 hx hb hv
          go_wp2_with fail
          go_quiet (fail)
          go_wp2_with fail
          go_ret
          refine SWInv.stop (k := k) (s := v) HWX.out (by omega) (by omega) (NatB.drewN (write_row S.row S.len (by omega)) _) S.len S.words HB.out (grown_trans S.grown (grown_trans (grown_set _ _ _ _) (grown_drewN _ _ _))) HS0.out
      · go_wp2_with fail
        go_ret
        obtain rfl : k = n := by omega
        have hl : ((zs.drop o).take k).take k = (zs.drop o).take k := by rw [List.take_take, Nat.min_self]
        exact ⟨ks, 1, rfl, S.row, S.len, S.words, by have := S.eq; rwa [hl] at this, by omega, S.grown⟩

theorem SWInv.stop2 {bz o n : Nat} {zs xs : List Nat} {y k : Nat} {ks : List Nat} {w wr' : World} {s : Nat} (hx : Words xs) (hzn : o + n ≤ zs.length) (hxn : o + n ≤ xs.length) (hk : k < n)
    (hrow : NatB wr' bz (spl (spl zs o (ks ++ [s])) (o + (k + 1)) ((xs.drop (o + (k + 1))).take (n - (k + 1))))) (hlen : ks.length = k) (hw : Words ks) (hs : s < B64) (hg : w.grownBy wr' (some bz)) (heq : val (ks ++ [s]) + y = val (((xs.drop o).take n).take (k + 1))) :
    SubWP bz o n zs ((xs.drop o).take n) y w (.returned (wd 0)) wr' := by
  have hl : ((xs.drop o).take n).length = n := by simp; omega
  have hl2 : (ks ++ [s]).length = k + 1 := by simp [hlen]
  have e : ((xs.drop o).take n).drop (k + 1) = (xs.drop (o + (k + 1))).take (n - (k + 1)) := by rw [List.drop_take, List.drop_drop]
  have he := subw_end heq hlen (by omega)
  rw [hl] at he
  refine ⟨ks ++ [s] ++ ((xs.drop o).take n).drop (k + 1), 0, rfl, ?_, by simp [hlen]; omega, (hw.append (Words.one hs)).append (((hx.drop _).take _).drop _), he, by omega, hg⟩
  rw [e, ← spl_spl hl2 (by simp; omega)]
  exact hrow

set_option maxHeartbeats 1000000 in
set_option maxRecDepth 100000 in
theorem subVW_other (bz bx o n cz cx : Nat) (zs xs : List Nat) (y : Nat) (w : World) (hz : NatB w bz zs) (hx : NatB w bx xs) (hne : bz ≠ bx) (hzn : o + n ≤ zs.length) (hxn : o + n ≤ xs.length)
    (hwx : Words xs) (hy : y < B64) (h1 : 1 ≤ n) (hn : n ≤ 1000000) (hcz : n ≤ cz) (hcx : n ≤ cx) :
    Calls Tryz.prog 183 #[.slice (some ⟨bz, o, .none⟩) n cz, .slice (some ⟨bx, o, .none⟩) n cx, wd y] w (SubWP bz o n zs ((xs.drop o).take n) y w) := by
  obtain ⟨j, hj, _, hj2, _⟩ := info_parts info199
  have he : ∀ w' : World, w.grownBy w' (some bz) → (∃ zs', NatB w' bz zs') → (binOp .neq 233 (.pointer (some ⟨bz, o, .none⟩)) (.pointer (some ⟨bx, o, .none⟩))).run Tryz.prog w' = .ok (.bool true) w' := by
    rintro w' hg ⟨zs', hz'⟩
    exact neq_ptr_other (w := w') under233 hj (by rw [hj2]; decide) (by intro e; simp only [Addr.mk.injEq] at e; exact hne e.1) hz' (hx.kept hg (by simp [Ne.symm hne]))
  have hc := hx.cell o (by omega)
  have hcz0 := hz.cell o (by omega)
  have hf := hz.free o
  have HE := Lib.hid he
  have HZ := Lib.hid hz
  have HX := Lib.hid hx
  have HWX := Lib.hid hwx
  have HY := Lib.hid hy
  have HNE := Lib.hid hne
  clear hz hx hwx hy he
  generalize hx0 : xs.getD o 0 = x0 at *
  generalize zs.getD o 0 = z0 at *
  have HX0 := Lib.hid hx0
  have HXW := Lib.hid (show x0 < B64 by rw [← hx0]; exact HWX.out.getD _)
  have HF := Lib.hid (sub_facts HXW.out HY.out (by omega : 0 ≤ 1))
  have HRow := Lib.hid (fun v => by have := HZ.out.set o v; rwa [show zs.set o v = spl zs o ([] ++ [v]) by rw [← spl_set (by simp; omega)]; rw [spl_nil]; rfl] at this : ∀ v, NatB (w.setCell ⟨bz, o, .none⟩ (wd v)) bz (spl zs o ([] ++ [v])))
  have HEq : val ([] : List Nat) + y = val (((xs.drop o).take n).take 0) + B64 ^ 0 * y := by simp [val]
  have HStep := Lib.hid (subw_step (s := subS x0 y 0) (c' := subC x0 y 0) HEq rfl (by simp; omega) (by rw [drop_take_getD (by omega)]; exact hx0) HF.out.1)
  clear hx0 HEq hne
  go_enter Tryz.func183, Tryz.ntmps183
  go_wp2_with fail
  refine (bSubF x0 y 0 HXW.out HY.out (by omega) _).mono ?_
  rintro e w1 ⟨rfl, hw⟩
  obtain rfl : w = w1 := hw.symm
  by_cases hcc : subC x0 y 0 = 0
  · have HS0 := Lib.hid (show val ([] ++ [subS x0 y 0]) + y = val (((xs.drop o).take n).take (0 + 1)) by have := HStep.out; rw [hcc] at this; simpa using this)
    rw [hcc] at *
    have he1 : ∀ k, (binOp .neq 233 (.pointer (some ⟨bz, o, .none⟩)) (.pointer (some ⟨bx, o, .none⟩))).run Tryz.prog ((w.setCell ⟨bz, o, .none⟩ (wd (subS x0 y 0))).drewN k) = .ok (.bool true) ((w.setCell ⟨bz, o, .none⟩ (wd (subS x0 y 0))).drewN k) :=
      fun k => HE.out _ (grown_trans (grown_set _ _ _ _) (grown_drewN _ _ _)) ⟨_, NatB.drewN (HRow.out _) _⟩
    go_wp2_with fail
    go_quiet (fail)
    clear he1
    have hn1 : (1 : Int) ≤ (n : Int) := by omega
    obtain ⟨w2, hcp, hN2, hG2⟩ := copy_part ((w.setCell ⟨bz, o, .none⟩ (wd (subS x0 y 0))).drewN (nq + 1)) (if cz = 1 then some ⟨bz, o, .none⟩ else some ⟨bz, o + 1, .none⟩) (if cx = 1 then some ⟨bx, o, .none⟩ else some ⟨bx, o + 1, .none⟩)
      bz (o + 1) (cz - 1) bx (o + 1) (cx - 1) (n - 1) (spl zs o ([] ++ [subS x0 y 0])) xs (NatB.drewN (HRow.out _) _) ((HX.out.kept (grown_set _ _ _ _) (by simpa using Ne.symm HNE.out)).drewN _) (by rw [spl_length (by simp; omega)]; omega) (by omega) (fun h => by rw [if_neg (by omega)]) (fun h => by rw [if_neg (by omega)]) 169 under169
    have HN2 := Lib.hid hN2
    have HG2 := Lib.hid (grown_trans (grown_trans (grown_set _ _ _ _) (grown_drewN _ _ _)) hG2)
    clear hN2 hG2
    go_wp2_with fail
    go_region_law (refine step_copy_run rfl (.tmp 40) (.tmp 42) 169 169 rfl _ _ _ _ hcp (by simp [Act.eval, Act.put]) (by simp [Act.eval, Act.put]) ?_)
    all_goals
      go_wp2_with fail
      all_goals
        go_ret
        exact SWInv.stop2 (k := 0) HWX.out hzn hxn (by omega) HN2.out rfl Words.nil HF.out.2.1 HG2.out HS0.out
  · have hc1 : subC x0 y 0 = 1 := by have := HF.out.2.2; omega
    have HS1 := Lib.hid (by have := HStep.out; rwa [hc1] at this : val ([] ++ [subS x0 y 0]) + y = val (((xs.drop o).take n).take (0 + 1)) + B64 ^ (0 + 1) * 1)
    rw [hc1] at *
    clear hcc hc1
    go_wp2_with fail
    go_loopw [9] (fun i wr => ∃ k : Nat, k ≤ n ∧ 1 ≤ k ∧ i = .int .i64 k ∧ ∃ ks, SWInv bz o zs ((xs.drop o).take n) y k ks w wr)
      (fun i _ => n - (intOf i).toNat)
    case atStart => exact ⟨1, by omega, by omega, rfl, _, HRow.out _, rfl, Words.nil.append (Words.one HF.out.2.1), HS1.out, grown_set _ _ _ _⟩
    case round =>
      obtain ⟨k, hk, hk1, rfl, ks, S⟩ := hrel
      by_cases hlt : k < n
      · have hxc := (HX.out.kept S.grown (by simpa using Ne.symm HNE.out)).cell (o + k) (by omega)
        have hzc := S.row.cell (o + k) (by rw [spl_length (by have := S.len; omega)]; omega)
        have hzf := S.row.free (o + k)
        have hw := HWX.out.getD (o + k)
        have hxg := drop_take_getD (xs := xs) (o := o) hlt
        have hlt2 : k < ((xs.drop o).take n).length := by simp; omega
        generalize xs.getD (o + k) 0 = x at *
        generalize (spl zs o ks).getD (o + k) 0 = zold at *
        have HW := Lib.hid hw
        have HXG := Lib.hid hxg
        have HLT2 := Lib.hid hlt2
        by_cases hx : x = 0
        · have hst := subw_step (s := 18446744073709551615) (c' := 1) S.eq S.len hlt2 hxg (by unfold B64; omega)
          have hx1 : ((x : Int) == 0) = true := by rw [beq_iff_eq]; omega
          have HST := Lib.hid hst
          clear hw hxg hst hlt2 hx
          go_wp2_with fail
          go_roundw
          case rel => exact ⟨k + 1, by omega, by omega, by go_num, ks ++ [18446744073709551615], write_row S.row S.len (by omega), by simp [S.len], S.words.append (Words.one hmax), HST.out, grown_trans S.grown (grown_set _ _ _ _)⟩
          case measure => simp [intOf]; omega
        · obtain ⟨v, hv⟩ : ∃ v, v = x - 1 := ⟨_, rfl⟩
          have hst := subw_step (s := v) (c' := 0) S.eq S.len hlt2 hxg (by omega)
          have hx1 : ((x : Int) == 0) = false := by rw [beq_eq_false_iff_ne]; omega
          have hx2 : IntKind.u64.wrap ((x : Int) - 1) = (v : Int) := by unfold B64 at hw; rw [IntWalk.u64_in _ (by omega)]; omega
          have hb : v < B64 := by unfold B64 at hw ⊢; omega
          have HS0 := Lib.hid (show val (ks ++ [v]) + y = val (((xs.drop o).take n).take (k + 1)) by rwa [Nat.mul_zero, Nat.add_zero] at hst)
          have HB := Lib.hid hb
          have hrow := write_row (v := v) S.row S.len (by omega)
          have HRW := Lib.hid hrow
          have he1 : ∀ d, (binOp .neq 233 (.pointer (some ⟨bz, o, .none⟩)) (.pointer (some ⟨bx, o, .none⟩))).run Tryz.prog ((wr.setCell ⟨bz, o + k, .none⟩ (.int .u64 (v : Int))).drewN d) = .ok (.bool true) ((wr.setCell ⟨bz, o + k, .none⟩ (.int .u64 (v : Int))).drewN d) :=
            fun d => HE.out _ (grown_trans S.grown (grown_trans (grown_set _ _ _ _) (grown_drewN _ _ _))) ⟨_, NatB.drewN hrow _⟩
          have hn0 : (0 : Int) < (n : Int) := by omega
          clear hw hxg hst hlt2 hx hb hv hrow
          go_wp2_with fail
          go_quiet (fail)
          clear he1
          have hnk : (k : Int) + 1 ≤ (n : Int) := by omega
          have hnk0 : 0 ≤ (k : Int) + 1 := by omega
          have hkw : IntKind.i64.wrap ((k : Int) + 1) = (k : Int) + 1 := IntWalk.i64_in _ (by omega)
          have hkt : ((k : Int) + 1).toNat = k + 1 := by omega
          obtain ⟨w2, hcp, hN2, hG2⟩ := copy_part ((wr.setCell ⟨bz, o + k, .none⟩ (.int .u64 (v : Int))).drewN (nq + 1)) (if cz = k + 1 then some ⟨bz, o, .none⟩ else some ⟨bz, o + (k + 1), .none⟩) (if cx = k + 1 then some ⟨bx, o, .none⟩ else some ⟨bx, o + (k + 1), .none⟩)
            bz (o + (k + 1)) (cz - (k + 1)) bx (o + (k + 1)) (cx - (k + 1)) (n - (k + 1)) (spl zs o (ks ++ [v])) xs (NatB.drewN HRW.out _) (((HX.out.kept S.grown (by simpa using Ne.symm HNE.out)).kept (grown_set _ _ _ _) (by simpa using Ne.symm HNE.out)).drewN _) (by rw [spl_length (by have := S.len; simp; omega)]; omega) (by omega) (fun h => by rw [if_neg (by omega)]) (fun h => by rw [if_neg (by omega)]) 169 under169
          have HN2 := Lib.hid hN2
          have HG2 := Lib.hid (grown_trans S.grown (grown_trans (grown_trans (grown_set _ _ _ _) (grown_drewN _ _ _)) hG2))
          clear hN2 hG2
          go_wp2_with fail
          go_region_law (refine step_copy_run rfl (.tmp 69) (.tmp 73) 169 169 rfl _ _ _ _ hcp (by simp [Act.eval, Act.put]) (by simp [Act.eval, Act.put]) ?_)
          all_goals
            go_wp2_with fail
            all_goals
              go_ret
              exact SWInv.stop2 (k := k) HWX.out hzn hxn (by omega) HN2.out S.len S.words HB.out HG2.out HS0.out
      · go_wp2_with fail
        go_ret
        obtain rfl : k = n := by omega
        have hl : ((xs.drop o).take k).take k = (xs.drop o).take k := by rw [List.take_take, Nat.min_self]
        exact ⟨ks, 1, rfl, S.row, S.len, S.words, by have := S.eq; rwa [hl] at this, by omega, S.grown⟩
end Go.Proofs.YtohhkjamddojmaaGreatDoor.Big
