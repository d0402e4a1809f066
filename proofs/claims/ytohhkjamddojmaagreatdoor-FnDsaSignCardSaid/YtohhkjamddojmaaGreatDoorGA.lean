/- Lehmer's algorithm, at numbers of one word. The inverse modulo a number of one word. Four memories of words that are written in turn. The bits of an exponent, from the highest one on: plain laws. -/
import Derived.Test.YtohhkjamddojmaaGreatDoorRA
import Derived.Test.YtohhkjamddojmaaGreatDoorGcdLaw
namespace Go.Proofs.YtohhkjamddojmaaGreatDoor.Big
open Go.RowKit
attribute [local go_sem] ptr

/-- Euclid's step on words: no word runs over -/
theorem euclid_word {g n a b va vb : Nat} {e : Bool} (h : GcdLaw.G (g : Int) n a b (if e then -(va : Int) else va) (if e then (vb : Int) else -vb)) (hb : b ≠ 0) (hn : n < B64) :
    IntKind.u64.wrap ((va : Int) + IntKind.u64.wrap (IntKind.u64.wrap ((a : Int) / (b : Int)) * (vb : Int))) = ((va + a / b * vb : Nat) : Int) ∧
      GcdLaw.G (g : Int) n b ((a % b : Nat) : Int) (if !e then -(vb : Int) else vb) (if !e then ((va + a / b * vb : Nat) : Int) else -((va + a / b * vb : Nat) : Int)) := by
  have hs := h.euclid (by omega)
  have e1 : (a : Int) / (b : Int) = ((a / b : Nat) : Int) := rfl
  have e2 : (a : Int) % (b : Int) = ((a % b : Nat) : Int) := rfl
  rw [e1, e2] at hs
  obtain ⟨P, hP⟩ : ∃ P, P = a / b * vb := ⟨_, rfl⟩
  have hPI : ((a / b : Nat) : Int) * (vb : Int) = (P : Int) := by rw [hP, Int.natCast_mul]
  rw [← hP, e1]
  have hvb : vb = 0 ∨ a / b ≤ P := by
    rcases Nat.eq_zero_or_pos vb with h0 | h0
    · exact .inl h0
    · refine .inr ?_
      have : a / b * 1 ≤ a / b * vb := Nat.mul_le_mul_left _ h0
      omega
  generalize a / b = q at *
  generalize a % b = r at *
  have eU : (if e then -(va : Int) else (va : Int)) - (q : Int) * (if e then (vb : Int) else -(vb : Int)) = (if !e then ((va + P : Nat) : Int) else -((va + P : Nat) : Int)) := by
    cases e
    · simp only [Bool.false_eq_true, if_false, Bool.not_false, if_true, Int.mul_neg, hPI]; omega
    · simp only [if_true, Bool.not_true, Bool.false_eq_true, if_false, hPI]; omega
  have eV : (if e then (vb : Int) else -(vb : Int)) = (if !e then -(vb : Int) else (vb : Int)) := by cases e <;> rfl
  rw [eU, eV] at hs
  refine ⟨?_, hs⟩
  have hbd := hs.bd
  have hV : ((if !e then ((va + P : Nat) : Int) else -((va + P : Nat) : Int)).natAbs : Int) = ((va + P : Nat) : Int) := by
    cases e
    · simp only [Bool.not_false, if_true]; omega
    · simp only [Bool.not_true, Bool.false_eq_true, if_false]; omega
  rw [hV] at hbd
  have k1 : ((va + P : Nat) : Int) * 1 ≤ ((va + P : Nat) : Int) * (b : Int) := Int.mul_le_mul_of_nonneg_left (by omega) (by omega)
  have k2 : 0 ≤ ((if !e then -(vb : Int) else (vb : Int)).natAbs : Int) * (r : Int) := Int.mul_nonneg (by omega) (by omega)
  have hle : ((va + P : Nat) : Int) ≤ n := by omega
  unfold B64 at hn
  have h2 : IntKind.u64.wrap (IntKind.u64.wrap (q : Int) * (vb : Int)) = (P : Int) := by
    rcases hvb with h0 | h0
    · subst h0
      have : P = 0 := by rw [hP]; simp
      subst this
      simp only [Int.natCast_zero, Int.mul_zero]
      exact IntWalk.u64_in _ (by omega)
    · have h1 : IntKind.u64.wrap (q : Int) = (q : Int) := IntWalk.u64_in _ (by omega)
      rw [h1, hPI]
      exact IntWalk.u64_in _ (by omega)
  rw [h2]
  have h4 : (va : Int) + (P : Int) = ((va + P : Nat) : Int) := by omega
  rw [h4]
  exact IntWalk.u64_in _ (by omega)
theorem sz_word {v : Int} (h : v.natAbs < 18446744073709551616) : Sz 640000 v := (show Sz 64 v from h).le (by decide)
theorem wrap_u64_range (t : Int) : 0 ≤ IntKind.u64.wrap t ∧ IntKind.u64.wrap t < 18446744073709551616 := by
  unfold IntKind.wrap
  simp [IntKind.bits, IntKind.signed]
  omega

section
variable {R : Nat → Prop} {w0 w : World} {L : List (Nat × Int)}
set_option maxHeartbeats 4000000 in
set_option maxRecDepth 100000 in
theorem lehmer_word (h : Own R w0 w L) (i m j k : Nat) {zd zx zg zn : Nat} {v u : Int} (g n : Nat) (hi : L[i]? = some (zd, v)) (hm : L[m]? = some (zx, u)) (hj : L[j]? = some (zg, (g : Int))) (hk : L[k]? = some (zn, (n : Int)))
    (him : i ≠ m) (hR : ¬ R zd) (hR2 : ¬ R zx) (hg : 0 < g) (hgn : g < n) (hn : n < B64) (hc : Int.gcd g n = 1) :
    Calls Tryz.prog 173 #[ptr zd, ptr zx, .pointer .none, ptr zg, ptr zn] w (fun e w' => ∃ U : Int, e = .returned (ptr zd) ∧ Own R w0 w' ((L.set m (zx, U)).set i (zd, 1)) ∧ (n : Int) ∣ U * g - 1 ∧ (U.natAbs : Int) < n) := by
  have HS := Lib.hid h
  have HHI := Lib.hid hi
  have HHM := Lib.hid hm
  have HHJ := Lib.hid hj
  have HHK := Lib.hid hk
  have HIM := Lib.hid him
  have HHR := Lib.hid hR
  have HHR2 := Lib.hid hR2
  have HG0 := Lib.hid hg
  have HGN := Lib.hid hgn
  have HN := Lib.hid hn
  have HC := Lib.hid hc
  clear h hi hm hj hk him hR hR2 hg hgn hn hc
  unfold ptr at *
  go_enter Tryz.func173, Tryz.ntmps173
  go_wp2_with fail
  -- A := |a|, B := |b|
  have sg : Sz 640000 (g : Int) := by
    have h1 : Sz 64 (g : Int) := by unfold Sz; have := HN.out; have := HGN.out; unfold B64 at *; omega
    exact h1.le (by decide)
  have sn : Sz 640000 (n : Int) := by
    have h1 : Sz 64 (n : Int) := by unfold Sz; have := HN.out; unfold B64 at *; omega
    exact h1.le (by decide)
  have SG := Lib.hid sg
  have SN := Lib.hid sn
  clear sg sn
  obtain ⟨hA, hAR⟩ := HS.out.new
  refine (absO hA 0 (j + 1) rfl HHJ.out hAR SG.out).mono ?_
  rintro e w1 ⟨rfl, h1⟩
  have H1 := Lib.hid (show Own R w0 w1 ((w.heap.size, (g : Int)) :: L) from h1)
  have RA := Lib.hid hAR
  clear hA hAR h1
  generalize w.heap.size = pA at *
  go_wp2_with fail
  obtain ⟨hB, hBR⟩ := H1.out.new
  refine (absO hB 0 (k + 2) rfl HHK.out hBR SN.out).mono ?_
  rintro e w2 ⟨rfl, h2⟩
  have H2 := Lib.hid (show Own R w0 w2 ((w1.heap.size, (n : Int)) :: (pA, (g : Int)) :: L) from h2)
  have RB := Lib.hid hBR
  clear hB hBR h2
  generalize w1.heap.size = pB at *
  go_wp2_with fail
  obtain ⟨hU, hUR⟩ := H2.out.new
  refine (setIntO hU 0 1 rfl hUR (by decide)).mono ?_
  rintro e w3 ⟨rfl, h3⟩
  have RU := Lib.hid hUR
  obtain ⟨h4, hVR⟩ := (show Own R w0 w3 ((w2.heap.size, (1 : Int)) :: (pB, (n : Int)) :: (pA, (g : Int)) :: L) from h3).new
  have RV := Lib.hid hVR
  obtain ⟨h5, _⟩ := h4.new
  obtain ⟨h6, _⟩ := h5.new
  have H6 := Lib.hid h6.tail.tail
  clear hU hUR h3 h4 h5 h6 hVR
  obtain ⟨p, q, c, d, ha1, hb1, hcmp⟩ := H6.out.cmpq (j := 3) (k := 2) rfl rfl SG.out
  have hs : sgn (g : Int).natAbs (n : Int).natAbs = -1 := sgn_lt (by simpa using HGN.out)
  rw [hs] at hcmp
  have HCMP := Lib.hid hcmp
  clear hcmp hs
  generalize w2.heap.size = pU at *
  go_wp2_with fail
  generalize ((w3.alloc (.cells #[.bool false, .slice .none 0 0] 172)).alloc (.cells #[.bool false, .slice .none 0 0] 172)).alloc (.cells #[.bool false, .slice .none 0 0] 172) = W at *
  generalize w3.heap.size = pV at *
  go_quiet ((go_at_call 131; exact HCMP.out _))
  go_wp2_with fail
  have H7 := Lib.hid (H6.out.drew nq)
  clear ha1 hb1
  have n0 : n ≠ 0 := by have := HGN.out; omega
  have gB : g < B64 := Nat.lt_trans HGN.out HN.out
  obtain ⟨ba, ca, hg1, hca, hg0, hgf, hgw⟩ := H6.out.word (i := 3) (n := g) rfl (by have := HG0.out; omega) gB
  obtain ⟨bb, cb, hn1, hcb, hn0, hnf, hnw⟩ := H6.out.word (i := 2) (n := n) rfl n0 HN.out
  have HCB := Lib.hid hcb
  have hcb1 : (1 : Int) ≤ (cb : Int) := by omega
  have hca1 : (1 : Int) ≤ (ca : Int) := by omega
  clear hnw hgw n0 hgf hnf
  refine wp_loop_rounds 1 ?_
  rw [rounds_succ]
  go_wp2_with fail
  go_quiet (fail)
  go_wp2_with fail
  have GP := Lib.hid hcb
  -- Euclid's algorithm on the two words
  go_loopw [23, 24, 25, 26, 27, 28, 29] (fun s1 s2 s3 s4 s5 s6 s7 wr => ∃ (a b va vb : Nat) (x y : Int) (e : Bool) (d : Nat), s1 = .int .u64 a ∧ s2 = .int .u64 b ∧ s3 = .int .u64 x ∧ s4 = .int .u64 y ∧ s5 = .int .u64 va ∧ s6 = .int .u64 vb ∧ s7 = .bool e ∧ wr = W.drewN d ∧
      RowKit.Hid (GcdLaw.G (g : Int) n a b (if e then -(va : Int) else va) (if e then (vb : Int) else -vb) ∧ 0 ≤ x ∧ x < 18446744073709551616 ∧ 0 ≤ y ∧ y < 18446744073709551616)) (fun _ s2 _ _ _ _ _ _ => (intOf s2).toNat)
  case atStart => exact ⟨n, g, 0, 1, 1, 0, true, _, rfl, rfl, rfl, rfl, rfl, rfl, rfl, World.drewN_drewN _ _ _, ⟨by simpa using GcdLaw.G.startSwap (by have := HG0.out; omega) (by have := HG0.out; have := HGN.out; omega) (by have := HGN.out; omega), by omega, by omega, by omega, by omega⟩⟩
  case round =>
    obtain ⟨a, b, va, vb, x, y, e, d, rfl, rfl, rfl, rfl, rfl, rfl, rfl, rfl, HGD⟩ := hrel
    by_cases hb0 : b = 0
    · subst hb0
      go_wp2_with fail
      obtain ⟨hG, hx0, hx1, hy0, hy1⟩ := HGD.out
      obtain ⟨U, hU⟩ : ∃ U, U = (if e then -(va : Int) else (va : Int)) := ⟨_, rfl⟩
      rw [← hU] at hG
      have ha1 : (a : Int) = 1 := by
        have := hG.fin_gcd
        rw [HC.out] at this
        exact this
      have hn2 : (1 : Int) < (n : Int) := by have := HG0.out; have := HGN.out; omega
      obtain ⟨hdvd, hlt⟩ := hG.fin hn2 ha1
      obtain rfl : a = 1 := by omega
      have hva : va ≠ 0 := by
        rintro rfl
        have hU0 : U = 0 := by rw [hU]; cases e <;> rfl
        rw [hU0] at hdvd
        obtain ⟨t, ht⟩ := hdvd
        have h1 : (n : Int) ∣ 1 := ⟨-t, by rw [Int.mul_neg, ← ht]; omega⟩
        have := Int.le_of_dvd (by omega) h1
        omega
      have hUr : toR U = (e, va) := by
        rw [hU]
        cases e
        · simp [toR]
        · simp only [if_true, toR]
          rw [Prod.mk.injEq]
          exact ⟨by simp; omega, by omega⟩
      have hUs : Sz 640000 U := by
        have h1 : Sz 64 U := by unfold Sz; have := HN.out; unfold B64 at this; omega
        exact h1.le (by decide)
      have hvaB : va < B64 := by
        have := HN.out
        have h2 : (U.natAbs : Int) = va := by rw [hU]; cases e <;> simp
        omega
      have HDV := Lib.hid (And.intro hdvd hlt)
      have HUR := Lib.hid hUr
      have HUS := Lib.hid hUs
      have HUV := Lib.hid (show ofR (!e, 0) + ofR (e, va) = U by rw [hU]; unfold ofR; cases e <;> simp)
      have sva : Sz 640000 (va : Int) := by
        have h1 : Sz 64 (va : Int) := by unfold Sz; unfold B64 at hvaB; omega
        exact h1.le (by decide)
      have SVA := Lib.hid sva
      have HVB := Lib.hid hvaB
      clear hdvd hlt hUr hUs hva hU ha1 hn2 hG hy0 hy1 sva hvaB HGD hg1 hn1 hg0 hn0
      -- Ua := Ua ua, Ub := Ub va, Ua := Ua + Ub
      have hO := (H6.out.drew d).raw
      have s0 : Sz 640000 ((toR 0).2 : Int) := sz_word (by simp [toR])
      have s1 : Sz 640000 ((toR 1).2 : Int) := sz_word (by simp [toR])
      have C := rawMulWO hO 0 0 (!e) x.toNat rfl rfl RV.out s0 (by unfold B64; omega)
      have ex : wd x.toNat = .int .u64 x := congrArg (Value.int .u64) (by omega)
      have e4 : ((toR 0).1 != !e, (toR 0).2 * x.toNat) = (!e, 0) := by simp [toR]
      rw [ex, e4] at C
      have HCC := Lib.hid C
      clear C ex e4 hx0 hx1 s0 hO
      refine HCC.out.mono ?_
      rintro en w4 ⟨rfl, h4⟩
      have C2 := rawMulWO h4 1 1 e va rfl rfl RU.out s1 HVB.out
      have e5 : ((toR 1).1 != e, (toR 1).2 * va) = (e, va) := by simp [toR]
      rw [e5] at C2
      have HC2 := Lib.hid C2
      clear C2 e5 s1 h4 HCC
      go_wp2_with fail
      refine HC2.out.mono ?_
      rintro en w5 ⟨rfl, h5⟩
      have sz0 : Sz 640000 (((!e, 0) : Bool × Nat).2 : Int) := sz_word (by simp)
      have C3 := rawAddO h5 0 0 1 rfl rfl rfl RV.out sz0 SVA.out
      rw [HUV.out] at C3
      have HC3 := Lib.hid C3
      clear C3 h5 HC2 sz0
      go_wp2_with fail
      refine HC3.out.mono ?_
      rintro en w6 ⟨rfl, h6⟩
      have h7 : Own R w0 w6 ((pV, U) :: (pU, U) :: (pB, (n : Int)) :: (pA, (g : Int)) :: L) := by
        refine OwnR.int ?_
        have : List.map rawP ((pV, U) :: (pU, U) :: (pB, (n : Int)) :: (pA, (g : Int)) :: L) = (pV, toR U) :: (pU, (e, va)) :: (pB, toR n) :: (pA, toR g) :: L.map rawP := by rw [← HUR.out]; rfl
        rw [this]
        exact h6
      have n0 : n ≠ 0 := by have := HGN.out; omega
      obtain ⟨bn, cn, k1, k2, k3, k4, k5⟩ := h7.word (i := 2) (n := n) rfl n0 HN.out
      have H8 := Lib.hid (k5 RB.out 1 (by decide) (by decide))
      have k2' : (1 : Int) ≤ (cn : Int) := by omega
      clear k5 h6 HC3 n0 hcb hcb1 hca hca1
      clear h7 k2 gB H7
      go_upto_region 41 with fail
      go_cut [] from 207 (fun wx => Own R w0 wx ((pV, U) :: (pU, U) :: (pB, (1 : Int)) :: (pA, (g : Int)) :: L))
      case first =>
        go_wp2_with fail
        go_meet
        case rel => exact H8.out
      case rest =>
        have HX := Lib.hid hcut
        obtain ⟨z1, z2, -⟩ := hcut.cells (i := j + 4) HHJ.out
        clear hcut k1 k2' k3 k4 z2
        have zd0 : decide ((g : Int) < 0) = false := by simp
        rw [zd0] at z1
        go_wp2_with fail
        refine (setO HX.out (m + 4) 0 HHM.out rfl HHR2.out HUS.out).mono ?_
        rintro en w8 ⟨rfl, h8⟩
        have H9 := Lib.hid (show Own R w0 w8 ((pV, U) :: (pU, U) :: (pB, (1 : Int)) :: (pA, (g : Int)) :: L.set m (zx, U)) from h8)
        clear h8 z1 zd0
        go_wp2_with fail
        have hi' : (L.set m (zx, U))[i]? = some (zd, v) := by rw [List.getElem?_set_ne (Ne.symm HIM.out)]; exact HHI.out
        refine (setO H9.out (i + 4) 2 hi' rfl HHR.out (sz_word (by decide))).mono ?_
        rintro en w9 ⟨rfl, h9⟩
        have HF := Lib.hid (show Own R w0 w9 ((pV, U) :: (pU, U) :: (pB, (1 : Int)) :: (pA, (g : Int)) :: (L.set m (zx, U)).set i (zd, 1)) from h9)
        clear h9 hi'
        go_wp2_with fail
        go_ret
        exact ⟨U, rfl, HF.out.tail.tail.tail.tail, HDV.out⟩
    · have hb2 : ((b : Int) == 0) = false := by rw [beq_eq_false_iff_ne]; omega
      have hb3 : ((b : Int) != 0) = true := by rw [bne_iff_ne]; omega
      have hb1 : (1 : Int) ≤ (b : Int) := by omega
      have ha0 : (0 : Int) ≤ (a : Int) := by omega
      go_wp2_with fail
      go_quiet (fail)
      go_wp2_with fail
      go_roundw
      case rel =>
        obtain ⟨hG, hx0, hx1, hy0, hy1⟩ := HGD.out
        obtain ⟨he, hG'⟩ := euclid_word hG hb0 HN.out
        obtain ⟨hw0, hw1⟩ := wrap_u64_range (x + IntKind.u64.wrap (IntKind.u64.wrap ((a : Int) / (b : Int)) * y))
        exact ⟨b, a % b, vb, va + a / b * vb, y, _, !e, _, rfl, rfl, rfl, rfl, rfl, congrArg (Value.int .u64) he, rfl, rfl, ⟨hG', hy0, hy1, hw0, hw1⟩⟩
      case measure =>
        have : a % b < b := Nat.mod_lt _ (by omega)
        have e2 : (a : Int) % (b : Int) = ((a % b : Nat) : Int) := rfl
        rw [e2]
        simp [intOf]
        omega
end
end Go.Proofs.YtohhkjamddojmaaGreatDoor.Big

namespace Go.Proofs.YtohhkjamddojmaaGreatDoor.Big
open Go.RowKit
attribute [local go_sem] ptr

section
variable {R : Nat → Prop} {w0 w : World} {L : List (Nat × Int)}
theorem Own.new2 (h : Own R w0 w L) : Own R w0 ((w.alloc (.cells #[.bool false, .slice .none 0 0] 172)).alloc (.cells #[.bool false, .slice .none 0 0] 172)) ((w.heap.size + 1, 0) :: (w.heap.size, 0) :: L) ∧ ¬ R (w.heap.size + 1) ∧ ¬ R w.heap.size := by
  obtain ⟨h1, r1⟩ := h.new
  obtain ⟨h2, r2⟩ := h1.new
  have e : (w.alloc (.cells #[.bool false, .slice .none 0 0] 172)).heap.size = w.heap.size + 1 := Array.size_push _
  rw [e] at h2 r2
  exact ⟨h2, r2, r1⟩
/-- two Ints compared -/
theorem cmpO (h : Own R w0 w L) (j k : Nat) {x y : Nat} {a b : Int} (hj : L[j]? = some (x, a)) (hk : L[k]? = some (y, b)) (sa : Sz 640000 a) :
    Calls Tryz.prog 91 #[ptr x, ptr y] w (CmpP (cmpI a b) w) :=
  Int_Cmp h.ints j k x y a b (at1 hj) (at1 hk) (at2 hj) (at2 hk) (Nat.le_trans (Sz.words (k := 10000) sa) (by decide))

set_option maxHeartbeats 2000000 in
set_option maxRecDepth 100000 in
theorem gcd_word (h : Own R w0 w L) (i m j k : Nat) {zd zx zg zn : Nat} {v u : Int} (g n : Nat) (hi : L[i]? = some (zd, v)) (hm : L[m]? = some (zx, u)) (hj : L[j]? = some (zg, (g : Int))) (hk : L[k]? = some (zn, (n : Int)))
    (him : i ≠ m) (hR : ¬ R zd) (hR2 : ¬ R zx) (hg : 0 < g) (hgn : g < n) (hn : n < B64) (hc : Int.gcd g n = 1) :
    Calls Tryz.prog 152 #[ptr zd, ptr zx, .pointer .none, ptr zg, ptr zn] w (fun e w' => ∃ U : Int, e = .returned (ptr zd) ∧ Own R w0 w' ((L.set m (zx, U)).set i (zd, 1)) ∧ (n : Int) ∣ U * g - 1 ∧ (U.natAbs : Int) < n) := by
  obtain ⟨bg, cg, k1, -⟩ := h.word hj (by omega) (Nat.lt_trans hgn hn)
  obtain ⟨bn, cn, k2, -⟩ := h.word hk (by omega) hn
  have HC := Lib.hid (lehmer_word h i m j k g n hi hm hj hk him hR hR2 hg hgn hn hc)
  clear h hi hm hj hk him hR hR2 hg hgn hn hc
  unfold ptr at *
  go_enter Tryz.func152, Tryz.ntmps152
  go_wp2_with fail
  refine HC.out.mono ?_
  rintro e w1 ⟨U, rfl, h1⟩
  have H1 := Lib.hid h1
  clear h1 k1 k2
  go_wp2_with fail
  go_ret
  exact ⟨U, rfl, H1.out⟩

set_option maxHeartbeats 4000000 in
set_option maxRecDepth 100000 in
theorem modInverse_word (h : Own R w0 w L) (i j k : Nat) {z zg zn : Nat} {v : Int} (g n : Nat) (hi : L[i]? = some (z, v)) (hj : L[j]? = some (zg, (g : Int))) (hk : L[k]? = some (zn, (n : Int)))
    (hR : ¬ R z) (hg : 0 < g) (hgn : g < n) (hn : n < B64) (hc : Int.gcd g n = 1) :
    Calls Tryz.prog 122 #[ptr z, ptr zg, ptr zn] w (fun e w' => ∃ t : Nat, e = .returned (ptr z) ∧ Own R w0 w' (L.set i (z, (t : Int))) ∧ t < n ∧ (n : Int) ∣ t * g - 1) := by
  obtain ⟨n0, -, -⟩ := h.cells hk
  obtain ⟨g0, -, -⟩ := h.cells hj
  have zn0 : decide ((n : Int) < 0) = false := by simp
  have zg0 : decide ((g : Int) < 0) = false := by simp
  rw [zn0] at n0
  rw [zg0] at g0
  obtain ⟨h2, r2, r1⟩ := h.new2
  have HG := Lib.hid (gcd_word h2 1 0 (j + 2) (k + 2) g n rfl rfl hj hk (by decide) r1 r2 hg hgn hn hc)
  have HHI := Lib.hid hi
  have HHK := Lib.hid hk
  have HHR := Lib.hid hR
  have HN := Lib.hid hn
  clear h hi hj hk hR hg hgn hn hc h2 r2 r1 zn0 zg0
  unfold ptr at *
  go_enter Tryz.func122, Tryz.ntmps122
  go_wp2_with fail
  refine HG.out.mono ?_
  rintro e w1 ⟨U, rfl, h1, hU⟩
  have H1 := Lib.hid (show Own R w0 w1 ((w.heap.size + 1, U) :: (w.heap.size, (1 : Int)) :: L) from h1)
  have HU := Lib.hid hU
  clear h1 hU n0 g0 HG
  generalize w.heap.size = pd at *
  go_wp2_with fail
  refine (intOneO H1.out).mono ?_
  rintro e w2 ⟨po, rfl, h2, -⟩
  have hc := cmpO h2 2 0 (x := pd) (y := po) rfl rfl (sz_word (by decide))
  have e1 : cmpI 1 1 = 0 := rfl
  rw [e1] at hc
  have HC := Lib.hid hc
  have H2 := Lib.hid h2
  obtain ⟨x0, -, -⟩ := h2.cells (i := 1) (z := pd + 1) rfl
  clear hc e1 h2
  go_wp2_with fail
  refine HC.out.mono ?_
  rintro e w3 ⟨rfl, nq, rfl⟩
  have H3 := Lib.hid (H2.out.drew nq)
  have hsz : Sz 630000 U := by
    have := HU.out.2
    have hn := HN.out
    have h1 : Sz 64 U := by unfold Sz; unfold B64 at hn; omega
    exact h1.le (by decide)
  have hszn : Sz 630000 (n : Int) := by
    have hn := HN.out
    have h1 : Sz 64 (n : Int) := by unfold Sz; unfold B64 at hn; omega
    exact h1.le (by decide)
  have SU := Lib.hid (hsz.le (by decide : 630000 ≤ 640000))
  have SN := Lib.hid (hszn.le (by decide : 630000 ≤ 640000))
  obtain ⟨t, ht, hd, t0, t1⟩ := GcdLaw.inv_range HU.out
  have HD := Lib.hid hd
  have HT0 := Lib.hid t0
  have HT1 := Lib.hid t1
  clear hsz hszn hd t0 t1
  by_cases hneg : U < 0
  · have hd : decide (U < 0) = true := by simp [hneg]
    rw [hd] at x0
    rw [if_pos hneg] at ht
    have HT := Lib.hid ht
    clear hneg hd ht
    go_wp2_with fail
    refine (addO H3.out (i + 3) 1 (k + 3) HHI.out rfl HHK.out HHR.out SU.out SN.out).mono ?_
    rintro e w4 ⟨rfl, h4⟩
    have h5 : Own R w0 w4 (L.set i (z, U + n)) := Own.tail (Own.tail (Own.tail h4))
    rw [← HT.out] at h5
    have H5 := Lib.hid h5
    clear h4 h5
    go_wp2_with fail
    go_ret
    have := HT0.out
    have := HT1.out
    have e : t = (t.toNat : Int) := by omega
    exact ⟨t.toNat, rfl, by rw [← e]; exact H5.out, by omega, by rw [← e]; exact HD.out⟩
  · have hd : decide (U < 0) = false := by simp [hneg]
    rw [hd] at x0
    rw [if_neg hneg] at ht
    have HT := Lib.hid ht
    clear hneg hd ht
    go_wp2_with fail
    refine (setO H3.out (i + 3) 1 HHI.out rfl HHR.out SU.out).mono ?_
    rintro e w4 ⟨rfl, h4⟩
    have h5 : Own R w0 w4 (L.set i (z, U)) := Own.tail (Own.tail (Own.tail h4))
    rw [← HT.out] at h5
    have H5 := Lib.hid h5
    clear h4 h5
    go_wp2_with fail
    go_ret
    have := HT0.out
    have := HT1.out
    have e : t = (t.toNat : Int) := by omega
    exact ⟨t.toNat, rfl, by rw [← e]; exact H5.out, by omega, by rw [← e]; exact HD.out⟩
end
end Go.Proofs.YtohhkjamddojmaaGreatDoor.Big

namespace Go.Proofs.YtohhkjamddojmaaGreatDoor.Big
open Go.RowKit

theorem NumP.from_none {n : List Nat} {w : World} {e : Ending} {w' : World} (h : NumP .none n w e w') (p : Option Addr) : NumP p n w e w' := by
  obtain ⟨p', cs', he, hn, hg, hf⟩ := h
  exact ⟨p', cs', he, hn, grown_none hg _, hf.from_none p⟩
theorem al_false {p q : Option Addr} {cs ds : List Nat} {w : World} (hp : Buf w p cs) (hq : Buf w q ds) (h0 : 0 < ds.length) (h : al p q cs = false) : Apart p q := by
  intro b hb hqb
  rcases hp.1 with ⟨rfl, _⟩ | ⟨c, rfl, hN⟩
  · cases hb
  · rcases hq.1 with ⟨rfl, _⟩ | ⟨c2, rfl, hN2⟩
    · cases hqb
    · cases hb
      cases hqb
      have hpq := hp.same hq
      subst hpq
      unfold al at h
      simp at h
      rw [h] at h0
      simp at h0
theorem Num.word {w : World} {b n : Nat} {ds : List Nat} (h : Num w (some ⟨b, 0, .none⟩) (dg n) ds) (h0 : n ≠ 0) (hn : n < B64) : w.cell? ⟨b, 0, .none⟩ = some (wd n) := by
  have hl : dg n = [n] := by rw [dg_one hn]; simp [word1, h0]
  obtain ⟨b', e, -, hc⟩ := h.cell (by rw [hl]; exact Nat.zero_lt_one)
  cases e
  have := hc 0 (by rw [hl]; exact Nat.zero_lt_one)
  rw [hl] at this
  exact this
theorem cell_new (w : World) (v : Value) (T : TypeId) : (w.alloc (.cells #[v] T)).cell? ⟨w.heap.size, 0, .none⟩ = some v := by
  have : (w.alloc (.cells #[v] T)).heap[w.heap.size]? = some (.cells #[v] T) := heap_alloc_new _ _
  unfold World.cell?
  rw [this]
  rfl
theorem fresh_apart {W : World} {p p1 q : Option Addr} (hf : Fresh W p p1) (ha : Apart p q) (hq : ∀ b, blk q = some b → b < W.heap.size) : Apart p1 q := by
  intro b hb hqb
  rcases hf with rfl | hf
  · exact ha b hb hqb
  · have := hf b hb; have := hq b hqb; omega
theorem Grow.by {w w' : World} {row : Option Nat} (h : Grow w w' (fun k => row = some k)) : w.grownBy w' row :=
  ⟨h.os, h.tape, h.output, h.size, fun k hk hr => h.block k hk (fun e => hr e.symm)⟩
theorem Num.apart {w w' : World} {a q : Option Addr} {X ds : List Nat} (h : Num w q X ds) (hg : w.grownBy w' (blk a)) (ha : Apart a q) : Num w' q X ds := h.kept hg (fun b hb e => ha b e hb)

/-- what a later step turns is free, or is newer than the first world -/
theorem Grow.trans_new {a b c : World} {S T : Nat → Prop} (h : Grow a b S) (k : Grow b c T) (hT : ∀ x, x < a.heap.size → T x → S x) : Grow a c S :=
  ⟨k.os.trans h.os, k.tape.trans h.tape, k.output.trans h.output, Nat.le_trans h.size k.size, fun i hi hr => (k.block i (Nat.lt_of_lt_of_le hi h.size) (fun e => hr (hT i hi e))).trans (h.block i hi hr)⟩
structure Pool4 (W wr : World) (p0 a b c d : Option Addr) (ca cb cc cd : List Nat) : Prop where
  ba : Buf wr a ca
  bb : Buf wr b cb
  bc : Buf wr c cc
  bd : Buf wr d cd
  fa : Fresh W p0 a
  fb : Fresh W p0 b
  fc : Fresh W p0 c
  fd : Fresh W p0 d
  ab : Apart a b
  ac : Apart a c
  ad : Apart a d
  bc' : Apart b c
  bd' : Apart b d
  cd' : Apart c d
  g : W.grownBy wr (blk p0)
section
variable {W wr w' : World} {p0 a b c d a' b' : Option Addr} {ca cb cc cd ca' cb' : List Nat}
theorem Pool4.swap (h : Pool4 W wr p0 a b c d ca cb cc cd) : Pool4 W wr p0 b a c d cb ca cc cd :=
  ⟨h.bb, h.ba, h.bc, h.bd, h.fb, h.fa, h.fc, h.fd, h.ab.symm, h.bc', h.bd', h.ac, h.ad, h.cd', h.g⟩
/-- (a, b, c, d) becomes (b, c, d, a) -/
theorem Pool4.turn (h : Pool4 W wr p0 a b c d ca cb cc cd) : Pool4 W wr p0 b c d a cb cc cd ca :=
  ⟨h.bb, h.bc, h.bd, h.ba, h.fb, h.fc, h.fd, h.fa, h.bc', h.bd', h.ab.symm, h.cd', h.ac.symm, h.ad.symm, h.g⟩
theorem Pool4.write (h : Pool4 W wr p0 a b c d ca cb cc cd) (hn : Buf w' a' ca') (hg : wr.grownBy w' (blk a)) (hf : Fresh wr a a') : Pool4 W w' p0 a' b c d ca' cb cc cd := by
  have hs := h.g.size
  have k : ∀ {q : Option Addr} {cq : List Nat}, Buf wr q cq → Apart a q → Buf w' q cq := fun hq ha => hq.kept hg (fun x hx e => ha x e hx)
  exact ⟨hn, k h.bb h.ab, k h.bc h.ac, k h.bd h.ad, h.fa.trans hs hf, h.fb, h.fc, h.fd, fresh_apart hf h.ab h.bb.lt, fresh_apart hf h.ac h.bc.lt, fresh_apart hf h.ad h.bd.lt, h.bc', h.bd', h.cd', grown_or h.g hg h.fa⟩
theorem Pool4.write2 (h : Pool4 W wr p0 a b c d ca cb cc cd) (hn : Buf w' a' ca') (hn2 : Buf w' b' cb') (hg : Grow wr w' (fun k => blk a = some k ∨ blk b = some k)) (hf : Fresh wr a a') (hf2 : Fresh wr b b') (hab : Apart a' b') : Pool4 W w' p0 a' b' c d ca' cb' cc cd := by
  have hs := h.g.size
  have k : ∀ {q : Option Addr} {cq : List Nat}, Buf wr q cq → Apart a q → Apart b q → Buf w' q cq := fun hq ha hb => hq.grow hg (fun x hx e => e.elim (fun e => ha x e hx) (fun e => hb x e hx))
  refine ⟨hn, hn2, k h.bc h.ac h.bc', k h.bd h.ad h.bd', h.fa.trans hs hf, h.fb.trans hs hf2, h.fc, h.fd, hab, fresh_apart hf h.ac h.bc.lt, fresh_apart hf h.ad h.bd.lt, fresh_apart hf2 h.bc' h.bc.lt, fresh_apart hf2 h.bd' h.bd.lt, h.cd', ?_⟩
  have hG : Grow W w' (fun x => blk p0 = some x) := (Grow.of h.g).trans_new hg ?_
  · exact hG.by
  · rintro x hx (e | e)
    · rcases h.fa with rfl | hf
      · exact e
      · have := hf x e; omega
    · rcases h.fb with rfl | hf
      · exact e
      · have := hf x e; omega
end
end Go.Proofs.YtohhkjamddojmaaGreatDoor.Big

namespace Go.Proofs.YtohhkjamddojmaaGreatDoor.Big
open Go.RowKit

theorem and_top (x : Nat) (h : x < B64) : bits .and .u64 (x : Int) 9223372036854775808 = if x < 9223372036854775808 then 0 else 9223372036854775808 := by
  have := u64_and_nat x 9223372036854775808 h (by decide)
  rw [show ((9223372036854775808 : Nat) : Int) = 9223372036854775808 from rfl] at this
  rw [this]
  have e : (9223372036854775808 : Nat) = 2 ^ 63 := rfl
  have h2 : x &&& 9223372036854775808 = if x < 9223372036854775808 then 0 else 9223372036854775808 := by
    rw [e]
    apply Nat.eq_of_testBit_eq
    intro i
    rw [Nat.testBit_and, Nat.testBit_two_pow]
    by_cases hi : i = 63
    · subst hi
      by_cases hx : x < 2 ^ 63
      · rw [if_pos hx, Nat.testBit_lt_two_pow hx]; simp
      · rw [if_neg hx, Nat.testBit_two_pow_self]
        have : x.testBit 63 = true := by
          rw [Nat.testBit_eq_decide_div_mod_eq]
          have h1 : x / 2 ^ 63 < 2 := by rw [Nat.div_lt_iff_lt_mul (by decide)]; unfold B64 at h; omega
          have h2 : 1 ≤ x / 2 ^ 63 := by rw [Nat.le_div_iff_mul_le (by decide)]; omega
          simp; omega
        simp [this]
    · have : decide (63 = i) = false := by simp; omega
      rw [this, Bool.and_false]
      by_cases hx : x < 2 ^ 63
      · rw [if_pos hx]; simp
      · rw [if_neg hx, Nat.testBit_two_pow]; simp; omega
  rw [h2]
  split <;> rfl

/-- the state of the loop over an exponent's bits: k bits are left, they are r; E has been done -/
structure Bitwise (a e m K j k E r v c : Nat) : Prop where
  jk : j + k = K
  k63 : k ≤ 63
  hv : v = r * 2 ^ (64 - k)
  hr : r < 2 ^ k
  he : e = E * 2 ^ k + r
  hc : (c = a ∧ E = 1) ∨ c = a ^ E % m
  cB : c < B64

theorem Bitwise.vB {a e m K j k E r v c : Nat} (h : Bitwise a e m K j k E r v c) : v < B64 := by
  rw [h.hv]
  have : r * 2 ^ (64 - k) < 2 ^ k * 2 ^ (64 - k) := Nat.mul_lt_mul_of_pos_right h.hr (Nat.pow_pos (by decide))
  rw [← Nat.pow_add, show k + (64 - k) = 64 by have := h.k63; omega] at this
  exact this
theorem pow_step {a E m c : Nat} (hc : (c = a ∧ E = 1) ∨ c = a ^ E % m) : c * c % m = a ^ (2 * E) % m ∧ c * c * a % m = a ^ (2 * E + 1) % m := by
  have h2 : a ^ (2 * E) = a ^ E * a ^ E := by rw [Nat.two_mul, Nat.pow_add]
  have hs : c * c % m = a ^ (2 * E) % m := by
    rw [h2]
    rcases hc with ⟨rfl, rfl⟩ | rfl
    · simp
    · rw [← Nat.mul_mod]
  refine ⟨hs, ?_⟩
  rw [Nat.pow_succ, Nat.mul_mod, hs, ← Nat.mul_mod]
/-- the next bit -/
theorem Bitwise.step {a e m K j k E r v c : Nat} (h : Bitwise a e m K j (k + 1) E r v c) (hm : 0 < m) (hmB : m < B64) :
    (r < 2 ^ k ∧ bits .and .u64 (v : Int) 9223372036854775808 = 0 ∧ ∃ v', IntKind.u64.wrap ((v : Int) * 2) = ((v' : Nat) : Int) ∧ Bitwise a e m K (j + 1) k (2 * E) r v' (c * c % m)) ∨
    (2 ^ k ≤ r ∧ bits .and .u64 (v : Int) 9223372036854775808 = 9223372036854775808 ∧ ∃ v', IntKind.u64.wrap ((v : Int) * 2) = ((v' : Nat) : Int) ∧ Bitwise a e m K (j + 1) k (2 * E + 1) (r - 2 ^ k) v' (c * c * a % m)) := by
  have hvB := h.vB
  obtain ⟨jk, k63, hv, hr, he, hc, cB⟩ := h
  obtain ⟨p1, p2⟩ := pow_step (m := m) hc
  have hA := and_top v hvB
  have e1 : (2 : Nat) ^ (64 - (k + 1)) * 2 = 2 ^ (64 - k) := by rw [← Nat.pow_succ]; congr 1; omega
  have e2 : (2 : Nat) ^ k * 2 ^ (64 - (k + 1)) = 9223372036854775808 := by rw [← Nat.pow_add, show k + (64 - (k + 1)) = 63 by omega]
  have e3 : E * 2 ^ (k + 1) = 2 * E * 2 ^ k := by rw [Nat.pow_succ]; grind
  have hmod : ∀ x, x % m < B64 := fun x => Nat.lt_trans (Nat.mod_lt _ hm) hmB
  have hw : IntKind.u64.wrap ((v : Int) * 2) = ((v * 2 % B64 : Nat) : Int) := by
    rw [show (v : Int) * 2 = ((v * 2 : Nat) : Int) by omega]
    unfold IntKind.wrap B64
    simp [IntKind.bits, IntKind.signed]
  rcases Nat.lt_or_ge r (2 ^ k) with hlt | hge
  · left
    have hlt2 : v < 9223372036854775808 := by
      rw [hv, ← e2]; exact Nat.mul_lt_mul_of_pos_right hlt (Nat.pow_pos (by decide))
    rw [if_pos hlt2] at hA
    refine ⟨hlt, hA, v * 2 % B64, hw, by omega, by omega, ?_, hlt, by rw [he, e3], .inr p1, hmod _⟩
    rw [Nat.mod_eq_of_lt (by unfold B64; omega), hv, Nat.mul_assoc, e1]
  · right
    have hge2 : 9223372036854775808 ≤ v := by
      rw [hv, ← e2]; exact Nat.mul_le_mul_right _ hge
    rw [if_neg (by omega)] at hA
    have hp : 2 ^ (k + 1) = 2 * 2 ^ k := by rw [Nat.pow_succ]; omega
    refine ⟨hge, hA, v * 2 % B64, hw, by omega, by omega, ?_, by omega, ?_, .inr p2, hmod _⟩
    · have h1 : v * 2 = (r - 2 ^ k) * 2 ^ (64 - k) + B64 := by
        rw [hv, Nat.mul_assoc, e1, Nat.sub_mul]
        have h2 : 2 ^ k * 2 ^ (64 - k) = B64 := by rw [← Nat.pow_add, show k + (64 - k) = 64 by omega]; rfl
        have h3 : 2 ^ k * 2 ^ (64 - k) ≤ r * 2 ^ (64 - k) := Nat.mul_le_mul_right _ hge
        omega
      rw [h1, Nat.add_mod_right, Nat.mod_eq_of_lt]
      have : (r - 2 ^ k) * 2 ^ (64 - k) < 2 ^ k * 2 ^ (64 - k) := Nat.mul_lt_mul_of_pos_right (by omega) (Nat.pow_pos (by decide))
      rw [← Nat.pow_add, show k + (64 - k) = 64 by omega] at this
      exact this
    · rw [he, e3, Nat.add_mul]; omega
theorem Bitwise.start {a e m : Nat} (ha : a < B64) (he : e < B64) (he2 : 2 ≤ e) : ∃ K r v : Nat, 1 ≤ K ∧ (64 - ((lz e : Int) + 1) = (K : Int)) ∧ IntKind.u64.wrap ((e : Int) * 2 ^ (lz e + 1)) = ((v : Nat) : Int) ∧ Bitwise a e m K 0 K 1 r v a := by
  obtain ⟨-, h63, h1, h2⟩ := lz_facts he (by omega : e ≠ 0)
  unfold nrm at *
  generalize lz e = s at *
  have hs : s ≤ 62 := by
    rcases Nat.lt_or_ge s 63 with h | h
    · omega
    · exfalso
      have : s = 63 := by omega
      subst this
      unfold B64 at *
      have : e * 2 ^ 63 ≥ 2 * 2 ^ 63 := Nat.mul_le_mul_right _ he2
      omega
  have e1 : (2 : Nat) ^ (63 - s) * 2 ^ s = 2 ^ 63 := by rw [← Nat.pow_add]; congr 1; omega
  have hp : 0 < 2 ^ s := Nat.pow_pos (by decide)
  have l1 : 2 ^ (63 - s) ≤ e := by
    rcases Nat.lt_or_ge e (2 ^ (63 - s)) with h | h
    · exfalso
      have := Nat.mul_lt_mul_of_pos_right h hp
      rw [e1] at this
      unfold B64 at *
      omega
    · exact h
  have l2 : e < 2 * 2 ^ (63 - s) := by
    rcases Nat.lt_or_ge e (2 * 2 ^ (63 - s)) with h | h
    · exact h
    · exfalso
      have := Nat.mul_le_mul_right (2 ^ s) h
      rw [Nat.mul_assoc, e1] at this
      unfold B64 at *
      omega
  have h64 : 64 - (63 - s) = s + 1 := by omega
  have e4 : (e : Int) * 2 ^ (s + 1) = ((e * 2 ^ (s + 1) : Nat) : Int) := by simp
  have e5 : 2 ^ (63 - s) * 2 ^ (s + 1) = B64 := by rw [← Nat.pow_add, show 63 - s + (s + 1) = 64 by omega]; rfl
  have e6 : e * 2 ^ (s + 1) = (e - 2 ^ (63 - s)) * 2 ^ (s + 1) + B64 := by
    rw [Nat.sub_mul, e5]
    have : 2 ^ (63 - s) * 2 ^ (s + 1) ≤ e * 2 ^ (s + 1) := Nat.mul_le_mul_right _ l1
    omega
  have e7 : (e - 2 ^ (63 - s)) * 2 ^ (s + 1) < B64 := by
    rw [← e5]; exact Nat.mul_lt_mul_of_pos_right (by omega) (Nat.pow_pos (by decide))
  refine ⟨63 - s, e - 2 ^ (63 - s), (e - 2 ^ (63 - s)) * 2 ^ (s + 1), by omega, by omega, ?_, by omega, by omega, by rw [h64], by omega, by omega, .inl ⟨rfl, rfl⟩, ha⟩
  rw [e4, e6]
  generalize (e - 2 ^ (63 - s)) * 2 ^ (s + 1) = x at *
  unfold IntKind.wrap
  unfold B64 at *
  simp [IntKind.bits, IntKind.signed]
  omega
/-- the end -/
theorem Bitwise.fin {a e m K j E r v c : Nat} (h : Bitwise a e m K j 0 E r v c) (he2 : 2 ≤ e) : c = a ^ e % m := by
  obtain ⟨jk, k63, hv, hr, he, hc, cB⟩ := h
  have : r = 0 := by simpa using hr
  have hE : E = e := by rw [he, this]; simp
  subst hE
  rcases hc with ⟨_, rfl⟩ | hc
  · omega
  · exact hc

section
variable {W wr w' : World} {p0 a b c d a' b' : Option Addr} {ca cb cc cd ca' cb' : List Nat}
theorem Pool4.s23 (h : Pool4 W wr p0 a b c d ca cb cc cd) : Pool4 W wr p0 a c b d ca cc cb cd :=
  ⟨h.ba, h.bc, h.bb, h.bd, h.fa, h.fc, h.fb, h.fd, h.ac, h.ab, h.ad, h.bc'.symm, h.cd', h.bd', h.g⟩
theorem Pool4.s24 (h : Pool4 W wr p0 a b c d ca cb cc cd) : Pool4 W wr p0 a d c b ca cd cc cb :=
  ⟨h.ba, h.bd, h.bc, h.bb, h.fa, h.fd, h.fc, h.fb, h.ad, h.ac, h.ab, h.cd'.symm, h.bd'.symm, h.bc'.symm, h.g⟩
end
end Go.Proofs.YtohhkjamddojmaaGreatDoor.Big
