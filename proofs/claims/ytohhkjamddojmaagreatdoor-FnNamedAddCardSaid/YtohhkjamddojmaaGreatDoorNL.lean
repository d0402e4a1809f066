/- Lehmer's simulation on the leading words. Lehmer's update of two numbers. A step of Euclid's algorithm on Ints: euclidUpdate. What Lehmer's update comes to. -/
import Derived.Test.YtohhkjamddojmaaGreatDoorNI
import Derived.Test.YtohhkjamddojmaaGreatDoorRA
import Derived.Test.YtohhkjamddojmaaGreatDoorNN
import Derived.Test.YtohhkjamddojmaaGreatDoorIJ
set_option maxHeartbeats 16000000
namespace Go.Proofs.YtohhkjamddojmaaGreatDoor.Big
open Go.RowKit
attribute [local go_sem] ptr
theorem lead_word {X : List Nat} {n h : Nat} (hl : X.length = n + 2) (hw : Words X) (hh : h ≤ 63) : val X / (B64 ^ n * 2 ^ (64 - h)) = X.getD (n + 1) 0 * 2 ^ h + X.getD n 0 / 2 ^ (64 - h) := by
 have hr := val_lt (X.take n) (hw.take _)
 rw [List.length_take, Nat.min_eq_left (by omega)] at hr
 have e1 : val X / B64 ^ n = X.getD (n + 1) 0 * B64 + X.getD n 0 := by
  rw [val_top2 hl, Nat.mul_comm, Nat.mul_add_div (Nat.pow_pos zxx), Nat.div_eq_of_lt hr, Nat.add_zero]
 rw [← Nat.div_div_eq_div_mul, e1]
 have hp : 0 < 2 ^ (64 - h) := Nat.pow_pos (by decide)
 have hB : X.getD (n + 1) 0 * B64 = 2 ^ (64 - h) * (X.getD (n + 1) 0 * 2 ^ h) := by rw [← sh_pow hh]; ac_rfl
 rw [hB, Nat.mul_add_div hp]
theorem lead_word1 {X : List Nat} {n h : Nat} (hl : X.length = n + 1) (hw : Words X) : val X / (B64 ^ n * 2 ^ (64 - h)) = X.getD n 0 / 2 ^ (64 - h) := by
 have hr := val_lt (X.take n) (hw.take _)
 rw [List.length_take, Nat.min_eq_left (by omega)] at hr
 have e1 : val X / B64 ^ n = X.getD n 0 := by
  have e : X = X.take (n + 1) := by rw [List.take_of_length_le (by omega)]
  have e2 : val X = val (X.take n) + B64 ^ n * X.getD n 0 := by
   conv => lhs; rw [e]
   rw [zxk _ _ (by omega), zyq, List.length_take, Nat.min_eq_left (by omega)]
  rw [e2, Nat.add_comm, Nat.mul_add_div (Nat.pow_pos zxx), Nat.div_eq_of_lt hr, Nat.add_zero]
 rw [← Nat.div_div_eq_div_mul, e1]
def SimP (A B : Nat) (w : World) (e : Ending) (w' : World) : Prop :=
 ∃ (u0 u1 v0 v1 : Nat) (even : Bool), e = .returned (.tuple #[wd u0, wd u1, wd v0, wd v1, .bool even]) ∧ (∃ d, w' = w.drewN d) ∧ u0 < B64 ∧ u1 < B64 ∧ v0 < B64 ∧ v1 < B64 ∧ (v0 = 0 ∨ ∃ A' B', GcdLaw.Leh A B u0 u1 v0 v1 A' B' even)
structure SimI (A B : Nat) (c d : Nat) (u0 u1 u2 v0 v1 v2 a1 a2 : Nat) (even : Bool) : Prop where
 sim : GcdLaw.Sim c d a1 a2 u1 u2 v1 v2 even
 leh : v0 = 0 ∨ ∃ A' B', GcdLaw.Leh A B u0 u1 v0 v1 A' B' even
 a1B : a1 < B64
 u0B : u0 < B64
 u1B : u1 < B64
 u2B : u2 < B64
 v0B : v0 < B64
 v1B : v1 < B64
 v2B : v2 < B64
theorem SimI.next {A B c d u0 u1 u2 v0 v1 v2 a1 a2 S : Nat} {even : Bool} (h : SimI A B c d u0 u1 u2 v0 v1 v2 a1 a2 even) (hc : c = A / S) (hd : d = B / S) (hS : 0 < S) (hcB : c < B64) (h1 : v2 ≤ a2) (h2 : v1 + v2 ≤ a1 - a2) :
 SimI A B c d u1 u2 (u1 + a1 / a2 * u2) v1 v2 (v1 + a1 / a2 * v2) a2 (a1 % a2) (!even) ∧ a1 % a2 < a2 ∧ 0 < a2 ∧ a2 ≤ a1 ∧ v1 + v2 < B64 ∧ a1 / a2 * u2 < B64 ∧ a1 / a2 * v2 < B64 := by
 have hs := h.sim
 have k1 : (v2 : Int) ≤ (a2 : Int) := by omega
 have hv21 := hs.v21
 have hyx := hs.yx
 have hb := hs.bounds k1
 have hn := hs.next k1
 have e1 : ((a1 : Int) / (a2 : Int)) * (v2 : Int) = ((a1 / a2 * v2 : Nat) : Int) := by push_cast; rfl
 have e2 : ((a1 : Int) / (a2 : Int)) * (u2 : Int) = ((a1 / a2 * u2 : Nat) : Int) := by push_cast; rfl
 have e3 : (a1 : Int) % (a2 : Int) = ((a1 % a2 : Nat) : Int) := rfl
 rw [e1, e2] at hb hn
 rw [e3] at hn
 obtain ⟨b1, b2, b3⟩ := hb
 have ha2 : 0 < a2 := by omega
 have hm := Nat.mod_lt a1 ha2
 have hyxN : a2 ≤ a1 := by omega
 have f1 : ((u1 : Int) + ((a1 / a2 * u2 : Nat) : Int)) = ((u1 + a1 / a2 * u2 : Nat) : Int) := by push_cast; rfl
 have f2 : ((v1 : Int) + ((a1 / a2 * v2 : Nat) : Int)) = ((v1 + a1 / a2 * v2 : Nat) : Int) := by push_cast; rfl
 rw [f1, f2] at hn b3
 rw [f2] at b2
 generalize a1 / a2 * u2 = pu at *
 generalize a1 / a2 * v2 = pv at *
 refine ⟨⟨hn, ?_, by have := h.a1B; omega, h.u1B, h.u2B, by omega, h.v1B, h.v2B, by omega⟩, hm, ha2, hyxN, by omega, by omega, by omega⟩
 rcases Nat.eq_zero_or_pos v1 with h0 | h0
 · exact .inl h0
 · right
   have hA : (A : Int) = (c : Int) * (S : Int) + ((A % S : Nat) : Int) := by
    have := Nat.div_add_mod A S
    rw [← hc, Nat.mul_comm] at this
    omega
   have hB : (B : Int) = (d : Int) * (S : Int) + ((B % S : Nat) : Int) := by
    have := Nat.div_add_mod B S
    rw [← hd, Nat.mul_comm] at this
    omega
   exact ⟨_, _, hs.leh hA hB (by omega) (by have := Nat.mod_lt A hS; omega) (by omega) (by have := Nat.mod_lt B hS; omega) k1 (by omega) (by omega)⟩
theorem u64_mul {a b : Nat} (h : a * b < B64) : IntKind.u64.wrap ((a : Int) * (b : Int)) = ((a * b : Nat) : Int) := by
 rw [show (a : Int) * (b : Int) = ((a * b : Nat) : Int) by push_cast; rfl, zxy, Nat.mod_eq_of_lt h]
theorem wrap_small {a : Nat} (h : a < B64) : IntKind.u64.wrap (a : Int) = (a : Int) := by rw [zxy, Nat.mod_eq_of_lt h]
theorem SimI.start {A B c d S : Nat} (hc : c = A / S) (hd : d = B / S) (hle : B ≤ A) (hcB : c < B64) : SimI A B c d 0 1 0 0 0 1 c d false :=
 ⟨GcdLaw.Sim.start (by omega) (by have : d ≤ c := by rw [hc, hd]; exact Nat.div_le_div_right hle
                                  omega), .inl rfl, hcB, by decide, by decide, by decide, by decide, by decide, by decide⟩
set_option maxRecDepth 100000 in
theorem lehmerSim (x y bx bY n0 m cx cy A B : Nat) (w : World) (hle : B ≤ A) (hn : (dg A).length = n0 + 2) (hm : (dg B).length = m) (hm2 : 2 ≤ m) (hX : n0 ≤ 80000)
 (c1 : w.cell? ⟨x, 1, .none⟩ = some (.slice (some ⟨bx, 0, .none⟩) (n0 + 2 : Nat) cx)) (c2 : w.cell? ⟨y, 1, .none⟩ = some (.slice (some ⟨bY, 0, .none⟩) m cy))
 (wX : ∀ i, i < n0 + 2 → w.cell? ⟨bx, i, .none⟩ = some (wd ((dg A).getD i 0))) (wY : ∀ i, i < m → w.cell? ⟨bY, i, .none⟩ = some (wd ((dg B).getD i 0))) :
 Calls Tryz.prog 192 #[ptr x, ptr y] w (SimP A B w) := by
 obtain ⟨n, hnn⟩ : ∃ n, n = n0 + 2 := ⟨_, rfl⟩
 obtain ⟨n1, hn1⟩ : ∃ n1, n1 = n0 + 1 := ⟨_, rfl⟩
 obtain ⟨p1, hp1⟩ : ∃ p, p = (dg A).getD n1 0 := ⟨_, rfl⟩
 obtain ⟨p0, hp0⟩ : ∃ p, p = (dg A).getD n0 0 := ⟨_, rfl⟩
 have p1B : p1 < B64 := by rw [hp1]; exact (dg_words A).getD _
 have p0B : p0 < B64 := by rw [hp0]; exact (dg_words A).getD _
 have hA0 : A ≠ 0 := by rintro rfl; rw [zyw] at hn; simp at hn
 have p10 : p1 ≠ 0 := by
  intro h0
  have e1 := dg_last hA0
  rw [hn] at e1
  have e2 := val_lt _ ((dg_words A).take (n0 + 1))
  rw [List.length_take, Nat.min_eq_left (by omega)] at e2
  have e3 : val (dg A) = val ((dg A).take (n0 + 1)) + B64 ^ (n0 + 1) * p1 := by
   have e : dg A = (dg A).take (n0 + 1 + 1) := by rw [List.take_of_length_le (by omega)]
   conv => lhs; rw [e]
   rw [zxk _ _ (by omega), zyq, List.length_take, Nat.min_eq_left (by omega), hp1, hn1]
  rw [val_dg, h0, Nat.mul_zero] at e3
  have : n0 + 2 - 1 = n0 + 1 := by omega
  rw [this] at e1
  omega
 obtain ⟨h, hh⟩ : ∃ h, h = lz p1 := ⟨_, rfl⟩
 obtain ⟨t, ht⟩ : ∃ t, t = 64 - h := ⟨_, rfl⟩
 obtain ⟨-, h63, nB, -⟩ := lz_facts p1B p10
 unfold nrm at nB
 rw [← hh] at h63 nB
 obtain ⟨S, hS⟩ : ∃ S, S = B64 ^ n0 * 2 ^ (64 - h) := ⟨_, rfl⟩
 obtain ⟨c, hc⟩ : ∃ c, c = A / S := ⟨_, rfl⟩
 obtain ⟨d, hd⟩ : ∃ d, d = B / S := ⟨_, rfl⟩
 have hSp : 0 < S := by rw [hS]; exact Nat.mul_pos (Nat.pow_pos zxx) (Nat.pow_pos (by decide))
 have hcv : c = p1 * 2 ^ h + p0 / 2 ^ (64 - h) := by
  have e := lead_word hn (dg_words A) h63
  rw [val_dg, ← hS, ← hn1, ← hp1, ← hp0] at e
  rw [hc]; exact e
 obtain ⟨s1, s2⟩ := shl_word (s := h) (a := p1) (b := p0) h63 p0B
 rw [Nat.mod_eq_of_lt nB] at s1 s2
 have s3 := sh_room (s := h) (c := p0 / 2 ^ (64 - h)) p1 h63 (sh_carry h63 p0B)
 rw [Nat.mod_eq_of_lt nB] at s3
 rw [← hcv] at s3
 rw [← hcv, ← ht] at s2
 obtain ⟨pa, hpa⟩ : ∃ pa, pa = p1 * 2 ^ h := ⟨_, rfl⟩
 rw [← hpa] at s1 s2
 have HC := Lz (And.intro hc (And.intro hd (And.intro hSp s3)))
 have HS0 := Lz (SimI.start hc hd hle s3)
 have HNL := Lz (nlz p1 p1B p10)
 rw [← hh] at HNL
 have e64 : IntKind.u64.wrap (64 - (h : Int)) = (t : Int) := by rw [show 64 - (h : Int) = (t : Int) by omega, zxy, Nat.mod_eq_of_lt (by unfold B64; omega)]
 have e64' : 64 - (h : Int) = (t : Int) := by omega
 have x1 := wX n1 (by omega)
 have x0 := wX n0 (by omega)
 rw [← hp1] at x1
 rw [← hp0] at x0
 rw [← hnn] at c1
 have W1 := Lz (show wrap64 ((n : Int) - 1) = n1 from wrapN (by omega) (by omega))
 have W2 := Lz (show wrap64 ((n : Int) - 2) = n0 from wrapN (by omega) (by omega))
 have W3 := Lz (show IntKind.i64.wrap ((n : Int) - 1) = n1 from wrapI (by omega) (by omega))
 have W4 := Lz (show IntKind.i64.wrap ((n : Int) - 2) = n0 from wrapI (by omega) (by omega))
 have i1 : (n1 : Int) < n := by omega
 have i0 : (n0 : Int) < n := by omega
 have hml : m ≤ n := by
  rcases Nat.lt_or_ge n m with hl | hl
  · have := dg_lt (a := A) (b := B) (by omega); omega
  · exact hl
 have HP := Lz (And.intro hS (And.intro h63 (And.intro hn (And.intro hm (And.intro hm2 (And.intro hnn (And.intro hn1 (And.intro ht (And.intro wY (And.intro hX (And.intro hml (And.intro hle (And.intro hp1 (And.intro nB hh))))))))))))))
 have hd' := hd
 rw [hS] at hd'
 have HD := Lz hd'
 unfold ptr
 clear hcv hc hd hd' hSp s3 hh hS h63 nB hn hm2 hle hn1 ht hp1 hp0 p1B p0B hA0 p10 wX wY hpa hX
 by_cases hnm : n = m
 · obtain ⟨b1, hb1⟩ : ∃ b, b = (dg B).getD n1 0 := ⟨_, rfl⟩
   obtain ⟨b0, hb0⟩ : ∃ b, b = (dg B).getD n0 0 := ⟨_, rfl⟩
   have b0B : b0 < B64 := by rw [hb0]; exact (dg_words B).getD _
   have hdv : d = b1 * 2 ^ h + b0 / 2 ^ (64 - h) := by
    have e := lead_word (X := dg B) (n := n0) (h := h) (by rw [hm]; omega) (dg_words B) HP.out.2.1
    rw [val_dg, ← HP.out.2.2.2.2.2.2.1, ← hb1, ← hb0] at e
    rw [HD.out]; exact e
   have hdB : d < B64 := Nat.lt_of_le_of_lt (by rw [HC.out.2.1, HC.out.1]; exact Nat.div_le_div_right HP.out.2.2.2.2.2.2.2.2.2.2.2.1) HC.out.2.2.2
   have hb1B : b1 * 2 ^ h < B64 := Nat.lt_of_le_of_lt (by rw [hdv]; exact Nat.le_add_right _ _) hdB
   obtain ⟨y1, y2⟩ := shl_word (s := h) (a := b1) (b := b0) HP.out.2.1 b0B
   rw [Nat.mod_eq_of_lt hb1B] at y1 y2
   rw [← hdv, ← HP.out.2.2.2.2.2.2.2.1] at y2
   obtain ⟨pb, hpb⟩ : ∃ pb, pb = b1 * 2 ^ h := ⟨_, rfl⟩
   rw [← hpb] at y1 y2
   have z1 := HP.out.2.2.2.2.2.2.2.2.1 n1 (by omega)
   have z0 := HP.out.2.2.2.2.2.2.2.2.1 n0 (by omega)
   rw [← hb1] at z1
   rw [← hb0] at z0
   have j1 : ((n : Int) == (m : Int)) = true := by rw [hnm]; exact beq_self_eq_true _
   have j3 : (n1 : Int) < m := by omega
   have j4 : (n0 : Int) < m := by omega
   have w1 := W1.out
   have w2 := W2.out
   have w3 := W3.out
   have w4 := W4.out
   clear hnm hm hnn hml hb1 hb0 b0B hdv hdB hpb hb1B
   unfold wd at *
   go_enter Tryz.func192, Tryz.ntmps192
   go_wp2_with fail
   refine (HNL.out _).mono ?_
   rintro e w ⟨rfl, rfl⟩
   go_wp2_with fail
   go_quiet (fail)
   go_wp2_with fail
   go_quiet (fail)
   go_wp2_with fail
   clear w1 w2 w3 w4 s1 s2 e64 e64' y1 y2
   go_loopw [4, 5, 6, 7, 8, 9, 10, 11, 12] (fun s4 s5 s6 s7 s8 s9 s10 s11 s12 wr => ∃ (u0 u1 u2 v0 v1 v2 a1 a2 k : Nat) (even : Bool), s4 = .int .u64 (u0 : Nat) ∧ s5 = .int .u64 (u1 : Nat) ∧ s6 = .int .u64 (v0 : Nat) ∧ s7 = .int .u64 (v1 : Nat) ∧ s8 = .bool even ∧ s9 = .int .u64 (a1 : Nat) ∧ s10 = .int .u64 (a2 : Nat) ∧ s11 = .int .u64 (u2 : Nat) ∧ s12 = .int .u64 (v2 : Nat) ∧ wr = w.drewN k ∧ RowKit.Hid (SimI A B c d u0 u1 u2 v0 v1 v2 a1 a2 even)) (fun _ _ _ _ _ _ s10 _ _ _ => (intOf s10).toNat)
   case atStart => exact ⟨0, 1, 0, 0, 0, 1, c, d, _, false, rfl, rfl, rfl, rfl, rfl, rfl, rfl, rfl, rfl, by first | exact World.drewN_drewN _ _ _ | rfl, HS0.out⟩
   case round =>
    obtain ⟨u0, u1, u2, v0, v1, v2, a1, a2, k, even, rfl, rfl, rfl, rfl, rfl, rfl, rfl, rfl, rfl, rfl, HI⟩ := hrel
    by_cases t1 : v2 ≤ a2
    · have i1 : (v2 : Int) ≤ a2 := by omega
      have hyx := HI.out.sim.yx
      have hyxN : a2 ≤ a1 := by omega
      have hvB : v1 + v2 < B64 := by have := (HI.out.sim.bounds (by omega)).1; have := HC.out.2.2.2; omega
      have E1 := Lz (u64_minus hyxN HI.out.a1B)
      have E2 := Lz (u64_plus hvB)
      obtain ⟨da, hda⟩ : ∃ x, x = a1 - a2 := ⟨_, rfl⟩
      obtain ⟨sv, hsv⟩ : ∃ x, x = v1 + v2 := ⟨_, rfl⟩
      rw [← hda] at E1
      rw [← hsv] at E2
      by_cases t2 : sv ≤ da
      · have i2 : (sv : Int) ≤ da := by omega
        obtain ⟨hN, hm, ha2, -, -, hpu, hpv⟩ := HI.out.next HC.out.1 HC.out.2.1 HC.out.2.2.1 HC.out.2.2.2 t1 (by omega)
        obtain ⟨q, hq⟩ : ∃ q, q = a1 / a2 := ⟨_, rfl⟩
        obtain ⟨r, hr⟩ : ∃ r, r = a1 % a2 := ⟨_, rfl⟩
        rw [← hq, ← hr] at hN
        rw [← hq] at hpu hpv
        rw [← hr] at hm
        have Q1 := Lz (show (a1 : Int) / (a2 : Int) = (q : Int) by rw [hq]; push_cast; rfl)
        have Q2 := Lz (show (a1 : Int) % (a2 : Int) = (r : Int) by rw [hr]; rfl)
        have E3 := Lz (u64_mul hpu)
        have E4 := Lz (u64_mul hpv)
        have E5 := Lz (u64_plus hN.u2B)
        have E6 := Lz (u64_plus hN.v2B)
        obtain ⟨pu, hpu'⟩ : ∃ x, x = q * u2 := ⟨_, rfl⟩
        obtain ⟨pv, hpv'⟩ : ∃ x, x = q * v2 := ⟨_, rfl⟩
        rw [← hpu'] at E3 E5 hN
        rw [← hpv'] at E4 E6 hN
        obtain ⟨nu, hnu⟩ : ∃ x, x = u1 + pu := ⟨_, rfl⟩
        obtain ⟨nv, hnv⟩ : ∃ x, x = v1 + pv := ⟨_, rfl⟩
        rw [← hnu] at E5 hN
        rw [← hnv] at E6 hN
        have HN := Lz (And.intro hN hm)
        have z1 : ((a2 : Int) == 0) = false := by rw [beq_eq_false_iff_ne]; omega
        have z2 : ¬ (a2 : Int) = 0 := by omega
        have z3 : (1 : Int) ≤ a2 := by omega
        have qB : q < B64 := by rw [hq]; exact Nat.lt_of_le_of_lt (Nat.div_le_self _ _) HI.out.a1B
        have E7 := Lz (wrap_small qB)
        have e1 := E1.out
        have e2 := E2.out
        have e3 := E3.out
        have e4 := E4.out
        have e5 := E5.out
        have e6 := E6.out
        have e7 := E7.out
        have q1 := Q1.out
        have q2 := Q2.out
        clear hN hm ha2 hpu hpv hq hr hpu' hpv' hnu hnv qB t1 t2 hyx hyxN hvB hda hsv
        go_wp2_with fail
        go_quiet (fail)
        go_wp2_with fail
        go_roundw
        case rel => exact ⟨u1, u2, nu, v1, v2, nv, a2, r, _, !even, by go_num, by go_num, by go_num, by go_num, by first | rfl | simp, by go_num, by go_num, by go_num, by go_num, by first | rfl | exact World.drewN_drewN _ _ _, HN.out.1⟩
        case measure => have := HN.out.2; have h2 := Q2.out; clear e1 e2 e3 e4 e5 e6 e7 q1 q2; simp only [intOf]; rw [h2]; omega
      · have i2 : ¬ (sv : Int) ≤ da := by omega
        have HF := Lz (And.intro HI.out.u0B (And.intro HI.out.u1B (And.intro HI.out.v0B (And.intro HI.out.v1B HI.out.leh))))
        have e1 := E1.out
        have e2 := E2.out
        clear t1 t2 hyx hyxN hvB hda hsv HI
        go_wp2_with fail
        have HE : SimP A B w (.returned (.tuple #[wd u0, wd u1, wd v0, wd v1, .bool even])) (w.drewN k) := ⟨u0, u1, v0, v1, even, rfl, ⟨_, rfl⟩, HF.out⟩
        simp [bodyPost, results, Tryz.results192, go_sem]
        exact HE
    · have i1 : ¬ (v2 : Int) ≤ a2 := by omega
      have HF := Lz (And.intro HI.out.u0B (And.intro HI.out.u1B (And.intro HI.out.v0B (And.intro HI.out.v1B HI.out.leh))))
      clear t1 HI
      go_wp2_with fail
      have HE : SimP A B w (.returned (.tuple #[wd u0, wd u1, wd v0, wd v1, .bool even])) (w.drewN k) := ⟨u0, u1, v0, v1, even, rfl, ⟨_, rfl⟩, HF.out⟩
      simp [bodyPost, results, Tryz.results192, go_sem]
      exact HE
 · by_cases hnm1 : n = m + 1
   · obtain ⟨b0, hb0⟩ : ∃ b, b = (dg B).getD n0 0 := ⟨_, rfl⟩
     have hdv : d = b0 / 2 ^ (64 - h) := by
      have e := lead_word1 (X := dg B) (n := n0) (h := h) (by rw [hm]; omega) (dg_words B)
      rw [val_dg, ← hb0] at e
      rw [HD.out]; exact e
     have z0 := HP.out.2.2.2.2.2.2.2.2.1 n0 (by omega)
     rw [← hb0] at z0
     have y2 : (b0 : Int) / 2 ^ t = (d : Int) := by rw [hdv, HP.out.2.2.2.2.2.2.2.1]; push_cast; rfl
     obtain ⟨mp, hmp⟩ : ∃ mp, mp = m + 1 := ⟨_, rfl⟩
     have W5 := Lz (show wrap64 ((m : Int) + 1) = mp from wrapN (by omega) (by have := HP.out.2.2.2.2.2.2.2.2.2.1; have := HP.out.2.2.2.2.2.1; omega))
     have j1 : ((n : Int) == (m : Int)) = false := by rw [beq_eq_false_iff_ne]; omega
     have j2 : ((n : Int) == (mp : Int)) = true := by rw [hmp, hnm1]; exact beq_self_eq_true _
     have j4 : (n0 : Int) < m := by omega
     have w1 := W1.out
     have w2 := W2.out
     have w3 := W3.out
     have w4 := W4.out
     have w5 := W5.out
     clear hnm hnm1 hmp hm hnn hml hb0 hdv
     unfold wd at *
     go_enter Tryz.func192, Tryz.ntmps192
     go_wp2_with fail
     refine (HNL.out _).mono ?_
     rintro e w ⟨rfl, rfl⟩
     go_wp2_with fail
     go_quiet (fail)
     go_wp2_with fail
     clear w1 w2 w3 w4 w5 s1 s2 e64 e64' y2
     go_loopw [4, 5, 6, 7, 8, 9, 10, 11, 12] (fun s4 s5 s6 s7 s8 s9 s10 s11 s12 wr => ∃ (u0 u1 u2 v0 v1 v2 a1 a2 k : Nat) (even : Bool), s4 = .int .u64 (u0 : Nat) ∧ s5 = .int .u64 (u1 : Nat) ∧ s6 = .int .u64 (v0 : Nat) ∧ s7 = .int .u64 (v1 : Nat) ∧ s8 = .bool even ∧ s9 = .int .u64 (a1 : Nat) ∧ s10 = .int .u64 (a2 : Nat) ∧ s11 = .int .u64 (u2 : Nat) ∧ s12 = .int .u64 (v2 : Nat) ∧ wr = w.drewN k ∧ RowKit.Hid (SimI A B c d u0 u1 u2 v0 v1 v2 a1 a2 even)) (fun _ _ _ _ _ _ s10 _ _ _ => (intOf s10).toNat)
     case atStart => exact ⟨0, 1, 0, 0, 0, 1, c, d, _, false, rfl, rfl, rfl, rfl, rfl, rfl, rfl, rfl, rfl, by first | exact World.drewN_drewN _ _ _ | rfl, HS0.out⟩
     case round =>
      obtain ⟨u0, u1, u2, v0, v1, v2, a1, a2, k, even, rfl, rfl, rfl, rfl, rfl, rfl, rfl, rfl, rfl, rfl, HI⟩ := hrel
      by_cases t1 : v2 ≤ a2
      · have i1 : (v2 : Int) ≤ a2 := by omega
        have hyx := HI.out.sim.yx
        have hyxN : a2 ≤ a1 := by omega
        have hvB : v1 + v2 < B64 := by have := (HI.out.sim.bounds (by omega)).1; have := HC.out.2.2.2; omega
        have E1 := Lz (u64_minus hyxN HI.out.a1B)
        have E2 := Lz (u64_plus hvB)
        obtain ⟨da, hda⟩ : ∃ x, x = a1 - a2 := ⟨_, rfl⟩
        obtain ⟨sv, hsv⟩ : ∃ x, x = v1 + v2 := ⟨_, rfl⟩
        rw [← hda] at E1
        rw [← hsv] at E2
        by_cases t2 : sv ≤ da
        · have i2 : (sv : Int) ≤ da := by omega
          obtain ⟨hN, hm, ha2, -, -, hpu, hpv⟩ := HI.out.next HC.out.1 HC.out.2.1 HC.out.2.2.1 HC.out.2.2.2 t1 (by omega)
          obtain ⟨q, hq⟩ : ∃ q, q = a1 / a2 := ⟨_, rfl⟩
          obtain ⟨r, hr⟩ : ∃ r, r = a1 % a2 := ⟨_, rfl⟩
          rw [← hq, ← hr] at hN
          rw [← hq] at hpu hpv
          rw [← hr] at hm
          have Q1 := Lz (show (a1 : Int) / (a2 : Int) = (q : Int) by rw [hq]; push_cast; rfl)
          have Q2 := Lz (show (a1 : Int) % (a2 : Int) = (r : Int) by rw [hr]; rfl)
          have E3 := Lz (u64_mul hpu)
          have E4 := Lz (u64_mul hpv)
          have E5 := Lz (u64_plus hN.u2B)
          have E6 := Lz (u64_plus hN.v2B)
          obtain ⟨pu, hpu'⟩ : ∃ x, x = q * u2 := ⟨_, rfl⟩
          obtain ⟨pv, hpv'⟩ : ∃ x, x = q * v2 := ⟨_, rfl⟩
          rw [← hpu'] at E3 E5 hN
          rw [← hpv'] at E4 E6 hN
          obtain ⟨nu, hnu⟩ : ∃ x, x = u1 + pu := ⟨_, rfl⟩
          obtain ⟨nv, hnv⟩ : ∃ x, x = v1 + pv := ⟨_, rfl⟩
          rw [← hnu] at E5 hN
          rw [← hnv] at E6 hN
          have HN := Lz (And.intro hN hm)
          have z1 : ((a2 : Int) == 0) = false := by rw [beq_eq_false_iff_ne]; omega
          have z2 : ¬ (a2 : Int) = 0 := by omega
          have z3 : (1 : Int) ≤ a2 := by omega
          have qB : q < B64 := by rw [hq]; exact Nat.lt_of_le_of_lt (Nat.div_le_self _ _) HI.out.a1B
          have E7 := Lz (wrap_small qB)
          have e1 := E1.out
          have e2 := E2.out
          have e3 := E3.out
          have e4 := E4.out
          have e5 := E5.out
          have e6 := E6.out
          have e7 := E7.out
          have q1 := Q1.out
          have q2 := Q2.out
          clear hN hm ha2 hpu hpv hq hr hpu' hpv' hnu hnv qB t1 t2 hyx hyxN hvB hda hsv
          go_wp2_with fail
          go_quiet (fail)
          go_wp2_with fail
          go_roundw
          case rel => exact ⟨u1, u2, nu, v1, v2, nv, a2, r, _, !even, by go_num, by go_num, by go_num, by go_num, by first | rfl | simp, by go_num, by go_num, by go_num, by go_num, by first | rfl | exact World.drewN_drewN _ _ _, HN.out.1⟩
          case measure => have := HN.out.2; have h2 := Q2.out; clear e1 e2 e3 e4 e5 e6 e7 q1 q2; simp only [intOf]; rw [h2]; omega
        · have i2 : ¬ (sv : Int) ≤ da := by omega
          have HF := Lz (And.intro HI.out.u0B (And.intro HI.out.u1B (And.intro HI.out.v0B (And.intro HI.out.v1B HI.out.leh))))
          have e1 := E1.out
          have e2 := E2.out
          clear t1 t2 hyx hyxN hvB hda hsv HI
          go_wp2_with fail
          have HE : SimP A B w (.returned (.tuple #[wd u0, wd u1, wd v0, wd v1, .bool even])) (w.drewN k) := ⟨u0, u1, v0, v1, even, rfl, ⟨_, rfl⟩, HF.out⟩
          simp [bodyPost, results, Tryz.results192, go_sem]
          exact HE
      · have i1 : ¬ (v2 : Int) ≤ a2 := by omega
        have HF := Lz (And.intro HI.out.u0B (And.intro HI.out.u1B (And.intro HI.out.v0B (And.intro HI.out.v1B HI.out.leh))))
        clear t1 HI
        go_wp2_with fail
        have HE : SimP A B w (.returned (.tuple #[wd u0, wd u1, wd v0, wd v1, .bool even])) (w.drewN k) := ⟨u0, u1, v0, v1, even, rfl, ⟨_, rfl⟩, HF.out⟩
        simp [bodyPost, results, Tryz.results192, go_sem]
        exact HE
   · have W5 := Lz (show wrap64 ((m : Int) + 1) = ((m + 1 : Nat) : Int) from wrapN (by omega) (by have := HP.out.2.2.2.2.2.2.2.2.2.1; have := HP.out.2.2.2.2.2.1; omega))
     have d0 : d = 0 := by
      rw [HD.out]
      have : B < B64 ^ n0 := dg_length.1 (by rw [hm]; have := HP.out.2.2.2.2.2.1; omega)
      exact Nat.div_eq_of_lt (Nat.lt_of_lt_of_le this (Nat.le_mul_of_pos_right _ (Nat.pow_pos (by decide))))
     subst d0
     obtain ⟨mp, hmp⟩ : ∃ mp, mp = m + 1 := ⟨_, rfl⟩
     rw [← hmp] at W5
     have j1 : ((n : Int) == (m : Int)) = false := by rw [beq_eq_false_iff_ne]; omega
     have j2 : ((n : Int) == (mp : Int)) = false := by rw [beq_eq_false_iff_ne]; omega
     have w1 := W1.out
     have w2 := W2.out
     have w3 := W3.out
     have w4 := W4.out
     have w5 := W5.out
     clear hnm hnm1 hmp hm hnn hml
     unfold wd at *
     go_enter Tryz.func192, Tryz.ntmps192
     go_wp2_with fail
     refine (HNL.out _).mono ?_
     rintro e w ⟨rfl, rfl⟩
     go_wp2_with fail
     go_quiet (fail)
     go_wp2_with fail
     clear w1 w2 w3 w4 w5 s1 s2 e64 e64'
     go_loopw [4, 5, 6, 7, 8, 9, 10, 11, 12] (fun s4 s5 s6 s7 s8 s9 s10 s11 s12 wr => ∃ (u0 u1 u2 v0 v1 v2 a1 a2 k : Nat) (even : Bool), s4 = .int .u64 (u0 : Nat) ∧ s5 = .int .u64 (u1 : Nat) ∧ s6 = .int .u64 (v0 : Nat) ∧ s7 = .int .u64 (v1 : Nat) ∧ s8 = .bool even ∧ s9 = .int .u64 (a1 : Nat) ∧ s10 = .int .u64 (a2 : Nat) ∧ s11 = .int .u64 (u2 : Nat) ∧ s12 = .int .u64 (v2 : Nat) ∧ wr = w.drewN k ∧ RowKit.Hid (SimI A B c 0 u0 u1 u2 v0 v1 v2 a1 a2 even)) (fun _ _ _ _ _ _ s10 _ _ _ => (intOf s10).toNat)
     case atStart => exact ⟨0, 1, 0, 0, 0, 1, c, 0, _, false, rfl, rfl, rfl, rfl, rfl, rfl, rfl, rfl, rfl, by first | exact World.drewN_drewN _ _ _ | rfl, HS0.out⟩
     case round =>
      obtain ⟨u0, u1, u2, v0, v1, v2, a1, a2, k, even, rfl, rfl, rfl, rfl, rfl, rfl, rfl, rfl, rfl, rfl, HI⟩ := hrel
      by_cases t1 : v2 ≤ a2
      · have i1 : (v2 : Int) ≤ a2 := by omega
        have hyx := HI.out.sim.yx
        have hyxN : a2 ≤ a1 := by omega
        have hvB : v1 + v2 < B64 := by have := (HI.out.sim.bounds (by omega)).1; have := HC.out.2.2.2; omega
        have E1 := Lz (u64_minus hyxN HI.out.a1B)
        have E2 := Lz (u64_plus hvB)
        obtain ⟨da, hda⟩ : ∃ x, x = a1 - a2 := ⟨_, rfl⟩
        obtain ⟨sv, hsv⟩ : ∃ x, x = v1 + v2 := ⟨_, rfl⟩
        rw [← hda] at E1
        rw [← hsv] at E2
        by_cases t2 : sv ≤ da
        · have i2 : (sv : Int) ≤ da := by omega
          obtain ⟨hN, hm, ha2, -, -, hpu, hpv⟩ := HI.out.next HC.out.1 HC.out.2.1 HC.out.2.2.1 HC.out.2.2.2 t1 (by omega)
          obtain ⟨q, hq⟩ : ∃ q, q = a1 / a2 := ⟨_, rfl⟩
          obtain ⟨r, hr⟩ : ∃ r, r = a1 % a2 := ⟨_, rfl⟩
          rw [← hq, ← hr] at hN
          rw [← hq] at hpu hpv
          rw [← hr] at hm
          have Q1 := Lz (show (a1 : Int) / (a2 : Int) = (q : Int) by rw [hq]; push_cast; rfl)
          have Q2 := Lz (show (a1 : Int) % (a2 : Int) = (r : Int) by rw [hr]; rfl)
          have E3 := Lz (u64_mul hpu)
          have E4 := Lz (u64_mul hpv)
          have E5 := Lz (u64_plus hN.u2B)
          have E6 := Lz (u64_plus hN.v2B)
          obtain ⟨pu, hpu'⟩ : ∃ x, x = q * u2 := ⟨_, rfl⟩
          obtain ⟨pv, hpv'⟩ : ∃ x, x = q * v2 := ⟨_, rfl⟩
          rw [← hpu'] at E3 E5 hN
          rw [← hpv'] at E4 E6 hN
          obtain ⟨nu, hnu⟩ : ∃ x, x = u1 + pu := ⟨_, rfl⟩
          obtain ⟨nv, hnv⟩ : ∃ x, x = v1 + pv := ⟨_, rfl⟩
          rw [← hnu] at E5 hN
          rw [← hnv] at E6 hN
          have HN := Lz (And.intro hN hm)
          have z1 : ((a2 : Int) == 0) = false := by rw [beq_eq_false_iff_ne]; omega
          have z2 : ¬ (a2 : Int) = 0 := by omega
          have z3 : (1 : Int) ≤ a2 := by omega
          have qB : q < B64 := by rw [hq]; exact Nat.lt_of_le_of_lt (Nat.div_le_self _ _) HI.out.a1B
          have E7 := Lz (wrap_small qB)
          have e1 := E1.out
          have e2 := E2.out
          have e3 := E3.out
          have e4 := E4.out
          have e5 := E5.out
          have e6 := E6.out
          have e7 := E7.out
          have q1 := Q1.out
          have q2 := Q2.out
          clear hN hm ha2 hpu hpv hq hr hpu' hpv' hnu hnv qB t1 t2 hyx hyxN hvB hda hsv
          go_wp2_with fail
          go_quiet (fail)
          go_wp2_with fail
          go_roundw
          case rel => exact ⟨u1, u2, nu, v1, v2, nv, a2, r, _, !even, by go_num, by go_num, by go_num, by go_num, by first | rfl | simp, by go_num, by go_num, by go_num, by go_num, by first | rfl | exact World.drewN_drewN _ _ _, HN.out.1⟩
          case measure => have := HN.out.2; have h2 := Q2.out; clear e1 e2 e3 e4 e5 e6 e7 q1 q2; simp only [intOf]; rw [h2]; omega
        · have i2 : ¬ (sv : Int) ≤ da := by omega
          have HF := Lz (And.intro HI.out.u0B (And.intro HI.out.u1B (And.intro HI.out.v0B (And.intro HI.out.v1B HI.out.leh))))
          have e1 := E1.out
          have e2 := E2.out
          clear t1 t2 hyx hyxN hvB hda hsv HI
          go_wp2_with fail
          have HE : SimP A B w (.returned (.tuple #[wd u0, wd u1, wd v0, wd v1, .bool even])) (w.drewN k) := ⟨u0, u1, v0, v1, even, rfl, ⟨_, rfl⟩, HF.out⟩
          simp [bodyPost, results, Tryz.results192, go_sem]
          exact HE
      · have i1 : ¬ (v2 : Int) ≤ a2 := by omega
        have HF := Lz (And.intro HI.out.u0B (And.intro HI.out.u1B (And.intro HI.out.v0B (And.intro HI.out.v1B HI.out.leh))))
        clear t1 HI
        go_wp2_with fail
        have HE : SimP A B w (.returned (.tuple #[wd u0, wd u1, wd v0, wd v1, .bool even])) (w.drewN k) := ⟨u0, u1, v0, v1, even, rfl, ⟨_, rfl⟩, HF.out⟩
        simp [bodyPost, results, Tryz.results192, go_sem]
        exact HE
end Go.Proofs.YtohhkjamddojmaaGreatDoor.Big

set_option maxHeartbeats 16000000
namespace Go.Proofs.YtohhkjamddojmaaGreatDoor.Big
open Go.RowKit
theorem sz_mulw {a u k : Nat} (h : Sz k (a : Int)) (hu : u < B64) : Sz (k + 64) ((a * u : Nat) : Int) := by
 unfold Sz at *
 rw [Int.natAbs_natCast] at *
 rw [Nat.pow_add]
 exact Nat.mul_lt_mul'' h (by unfold B64 at hu; omega)
attribute [local go_sem] ptr
attribute [local irreducible] Sz
section
variable {R : Nat → Prop} {w0 w : World}
set_option maxRecDepth 100000 in
theorem lehmerUpd {L : List (Nat × (Bool × Nat))} (h : OwnR R w0 w L) (iA iB iq ir : Nat) {A B q r : Nat} {a b vq vr : Bool × Nat} (hA : L[iA]? = some (A, a)) (hB : L[iB]? = some (B, b)) (hq : L[iq]? = some (q, vq)) (hr : L[ir]? = some (r, vr))
 (dAB : iA ≠ iB) (dAq : iA ≠ iq) (dAr : iA ≠ ir) (dBq : iB ≠ iq) (dBr : iB ≠ ir) (dqr : iq ≠ ir) (RA : ¬ R A) (RB : ¬ R B) (Rq : ¬ R q) (Rr : ¬ R r) (u0 u1 v0 v1 : Nat) (even : Bool) (b0 : u0 < B64) (b1 : u1 < B64) (b2 : v0 < B64) (b3 : v1 < B64)
 (sa : Sz 600000 (a.2 : Int)) (sb : Sz 600000 (b.2 : Int)) :
 Calls Tryz.prog 193 #[ptr A, ptr B, ptr q, ptr r, wd u0, wd u1, wd v0, wd v1, .bool even] w (fun e w' => e = .returned (.tuple #[]) ∧ OwnR R w0 w' ((((L.set iq (q, (b.1 != even, b.2 * v0))).set ir (r, (a.1 != even, a.2 * u1))).set iA (A, toR (ofR (a.1 != !even, a.2 * u0) + ofR (b.1 != even, b.2 * v0)))).set iB (B, toR (ofR (b.1 != !even, b.2 * v1) + ofR (a.1 != even, a.2 * u1))))) := by
 have la := (List.getElem?_eq_some_iff.1 hA).1
 have lb := (List.getElem?_eq_some_iff.1 hB).1
 have lq := (List.getElem?_eq_some_iff.1 hq).1
 have lr := (List.getElem?_eq_some_iff.1 hr).1
 have k640 : ∀ {v : Int}, Sz 600000 v → Sz 640000 v := fun h => h.le (by decide)
 have k664 : ∀ {v : Int}, Sz (600000 + 64) v → Sz 640000 v := fun h => h.le (by decide)
 have C1 := Lz (rawMulWO h iq iB even v0 hq hB Rq (k640 sb) b2)
 have C2 := Lz (fun w1 (h1 : OwnR R w0 w1 (L.set iq (q, (b.1 != even, b.2 * v0)))) => rawMulWO h1 ir iA even u1 (v := vr) (a := a) (by rw [List.getElem?_set_ne dqr]; exact hr) (by rw [List.getElem?_set_ne dAq.symm]; exact hA) Rr (k640 sa) b1)
 obtain ⟨L2, hL2⟩ : ∃ L2, L2 = (L.set iq (q, (b.1 != even, b.2 * v0))).set ir (r, (a.1 != even, a.2 * u1)) := ⟨_, rfl⟩
 have eA2 : L2[iA]? = some (A, a) := by rw [hL2, List.getElem?_set_ne dAr.symm, List.getElem?_set_ne dAq.symm]; exact hA
 have eB2 : L2[iB]? = some (B, b) := by rw [hL2, List.getElem?_set_ne dBr.symm, List.getElem?_set_ne dBq.symm]; exact hB
 have eq2 : L2[iq]? = some (q, (b.1 != even, b.2 * v0)) := by rw [hL2, List.getElem?_set_ne dqr.symm, List.getElem?_set_self lq]
 have er2 : L2[ir]? = some (r, (a.1 != even, a.2 * u1)) := by rw [hL2, List.getElem?_set_self (by rw [List.length_set]; exact lr)]
 have l2A : iA < L2.length := (List.getElem?_eq_some_iff.1 eA2).1
 have l2B : iB < L2.length := (List.getElem?_eq_some_iff.1 eB2).1
 have C3 := Lz (fun w1 (h1 : OwnR R w0 w1 L2) => rawMulWO h1 iA iA (!even) u0 eA2 eA2 RA (k640 sa) b0)
 have C4 := Lz (fun w1 (h1 : OwnR R w0 w1 (L2.set iA (A, (a.1 != !even, a.2 * u0)))) => rawMulWO h1 iB iB (!even) v1 (v := b) (a := b) (by rw [List.getElem?_set_ne dAB]; exact eB2) (by rw [List.getElem?_set_ne dAB]; exact eB2) RB (k640 sb) b3)
 have C5 := Lz (fun w1 (h1 : OwnR R w0 w1 ((L2.set iA (A, (a.1 != !even, a.2 * u0))).set iB (B, (b.1 != !even, b.2 * v1)))) =>
  rawAddO h1 iA iA iq (x := A) (y := q) (v := (a.1 != !even, a.2 * u0)) (a := (a.1 != !even, a.2 * u0)) (b := (b.1 != even, b.2 * v0)) (by rw [List.getElem?_set_ne dAB.symm, List.getElem?_set_self l2A]) (by rw [List.getElem?_set_ne dAB.symm, List.getElem?_set_self l2A]) (by rw [List.getElem?_set_ne dBq, List.getElem?_set_ne dAq]; exact eq2) RA (k664 (sz_mulw sa b0)) (k664 (sz_mulw sb b2)))
 have eL : ∀ x' y', (((L2.set iA (A, (a.1 != !even, a.2 * u0))).set iB (B, (b.1 != !even, b.2 * v1))).set iA x').set iB y' = (L2.set iA x').set iB y' := fun x' y' => by
  rw [List.set_comm _ _ dAB.symm, List.set_set, List.set_set]
 have C6 := Lz (fun w1 (h1 : OwnR R w0 w1 (((L2.set iA (A, (a.1 != !even, a.2 * u0))).set iB (B, (b.1 != !even, b.2 * v1))).set iA (A, toR (ofR (a.1 != !even, a.2 * u0) + ofR (b.1 != even, b.2 * v0))))) =>
  rawAddO h1 iB iB ir (x := B) (y := r) (v := (b.1 != !even, b.2 * v1)) (a := (b.1 != !even, b.2 * v1)) (b := (a.1 != even, a.2 * u1)) (by rw [List.getElem?_set_ne dAB, List.getElem?_set_self (by rw [List.length_set]; exact l2B)]) (by rw [List.getElem?_set_ne dAB, List.getElem?_set_self (by rw [List.length_set]; exact l2B)]) (by rw [List.getElem?_set_ne dAr, List.getElem?_set_ne dBr, List.getElem?_set_ne dAr]; exact er2) RB (k664 (sz_mulw sb b3)) (k664 (sz_mulw sa b1)))
 have HEL := Lz eL
 have HL2 := Lz hL2
 rw [← hL2]
 rw [← hL2] at C2
 clear h hA hB hq hr dAB dAq dAr dBq dBr dqr RA RB Rq Rr b0 b1 b2 b3 sa sb la lb lq lr k640 k664 eA2 eB2 eq2 er2 l2A l2B eL hL2
 unfold ptr at *
 go_enter Tryz.func193, Tryz.ntmps193
 go_wp2_with fail
 refine C1.out.mono ?_
 rintro e w1 ⟨rfl, h1⟩
 have K2 := Lz (C2.out _ h1)
 clear h1 C1 C2
 go_wp2_with fail
 refine K2.out.mono ?_
 rintro e w2 ⟨rfl, h2⟩
 have K3 := Lz (C3.out _ h2)
 clear h2 K2 C3
 go_wp2_with fail
 refine K3.out.mono ?_
 rintro e w3 ⟨rfl, h3⟩
 have K4 := Lz (C4.out _ h3)
 clear h3 K3 C4
 go_wp2_with fail
 refine K4.out.mono ?_
 rintro e w4 ⟨rfl, h4⟩
 have K5 := Lz (C5.out _ h4)
 clear h4 K4 C5
 go_wp2_with fail
 refine K5.out.mono ?_
 rintro e w5 ⟨rfl, h5⟩
 have K6 := Lz (C6.out _ h5)
 clear h5 K5 C6
 go_wp2_with fail
 refine K6.out.mono ?_
 rintro e w6 ⟨rfl, h6⟩
 rw [HEL.out] at h6
 have H6 := Lz h6
 clear h6 K6
 go_wp2_with fail
 first | go_end0 | refine bodyPost_ret (results_none rfl _ _ _) rfl ?_
 exact ⟨rfl, H6.out⟩
end
end Go.Proofs.YtohhkjamddojmaaGreatDoor.Big

set_option maxHeartbeats 16000000
namespace Go.Proofs.YtohhkjamddojmaaGreatDoor.Big
open Go.RowKit
attribute [local go_sem] ptr
theorem sz_tdiv {n : Nat} {a b : Int} (h : Sz n a) : Sz n (a.tdiv b) := by
 unfold Sz at *
 rw [Int.natAbs_tdiv]
 exact Nat.lt_of_le_of_lt (Nat.div_le_self _ _) h
theorem ofR_mul (U : Int) (n : Bool) (u : Nat) : ofR ((toR U).1 != n, (toR U).2 * u) = if n then -(U * u) else U * u := by
 have e : (toR U).2 = U.natAbs := rfl
 have e1 : (toR U).1 = decide (U < 0) := rfl
 rw [e, e1]
 unfold ofR
 by_cases h : U < 0
 · have h2 : (U.natAbs : Int) = -U := by omega
   cases n <;> simp [h] <;> rw [h2] <;> simp [Int.neg_mul]
 · have h2 : (U.natAbs : Int) = U := by omega
   cases n <;> simp [h] <;> rw [h2]
attribute [local irreducible] Sz
section
variable {R : Nat → Prop} {w0 w : World}
theorem quoRemRO {L : List (Nat × (Bool × Nat))} (h : OwnR R w0 w L) (i j k m : Nat) {z x y r : Nat} {v u : Bool × Nat} {a b : Int} (hi : L[i]? = some (z, v)) (hj : L[j]? = some (x, toR a)) (hk : L[k]? = some (y, toR b)) (hm : L[m]? = some (r, u)) (him : i ≠ m) (hR : ¬ R z) (hR2 : ¬ R r) (sa : Sz 640000 a) (hdiv : DivOK b.natAbs) :
 Calls Tryz.prog 157 #[ptr z, ptr x, ptr y, ptr r] w fun e w' => e = .returned (.tuple #[ptr z, ptr r]) ∧ OwnR R w0 w' ((L.set i (z, toR (a.tdiv b))).set m (r, toR (a.tmod b))) := by
 obtain ⟨ps, qs, hf⟩ := h.ints
 refine (quoRemR R w _ _ ps qs hf i j k m z x y r a b (raw1 hi) (raw1 hj) (raw1 hk) (raw1 hm) him hR hR2 (raw2 hj) (raw2 hk) (Nat.le_trans (Sz.words (k := 10000) sa) (by decide)) hdiv h.tab).mono ?_
 rintro e w' ⟨he, hI, hK⟩
 refine ⟨he, ⟨?_, h.kept.trans hK, h.tab.keptR hK h.low, h.low⟩⟩
 rw [List.map_set, List.map_set, List.map_set, List.map_set, set_same (raw1 hi), set_same (raw1 hm)]
 exact hI
set_option maxRecDepth 100000 in
theorem euclidUpd {M : List (Nat × Int)} {q r : Nat} {vq vr : Bool × Nat} (h : OwnR R w0 w ((r, vr) :: (q, vq) :: M.map rawP)) (iA iB iU iV : Nat) {A B Ua Ub : Nat} {a b U V : Int} (hA : M[iA]? = some (A, a)) (hB : M[iB]? = some (B, b)) (hU : M[iU]? = some (Ua, U)) (hV : M[iV]? = some (Ub, V))
 (Rq : ¬ R q) (Rr : ¬ R r) (RU : ¬ R Ua) (sa : Sz 700 a) (sU : Sz 2400 U) (sV : Sz 700 V) (hdiv : DivOK b.natAbs) :
 Calls Tryz.prog 194 #[ptr A, ptr B, ptr Ua, ptr Ub, ptr q, ptr r, .bool true] w (fun e w' => e = .returned (.tuple #[ptr B, ptr r, ptr A, ptr Ub, ptr Ua]) ∧ Own R w0 w' ((r, a.tmod b) :: (q, a.tdiv b * V) :: M.set iU (Ua, U - a.tdiv b * V))) := by
 have mp : ∀ {i z : Nat} {v : Int}, M[i]? = some (z, v) → ((r, vr) :: (q, vq) :: M.map rawP)[i + 2]? = some (z, toR v) := fun {i z v} e => by
  show (M.map rawP)[i]? = _
  rw [List.getElem?_map, e]; rfl
 have C1 := Lz (quoRemRO h 1 (iA + 2) (iB + 2) 0 (v := vq) (u := vr) rfl (mp hA) (mp hB) rfl (by decide) Rq Rr (sa.le (by decide)) hdiv)
 have C2 := Lz (fun w1 (h1 : Own R w0 w1 ((r, a.tmod b) :: (q, a.tdiv b) :: M)) => mulO h1 1 1 (iV + 2) (v := a.tdiv b) (a := a.tdiv b) (b := V) rfl rfl (show ((r, a.tmod b) :: (q, a.tdiv b) :: M)[iV + 2]? = some (Ub, V) from hV) Rq ((sz_tdiv sa).le (by decide)) (sV.le (by decide)))
 have C3 := Lz (fun w1 (h1 : Own R w0 w1 ((r, a.tmod b) :: (q, a.tdiv b * V) :: M)) => subO h1 (iU + 2) (iU + 2) 1 (z := Ua) (x := Ua) (y := q) (v := U) (a := U) (b := a.tdiv b * V) (show ((r, a.tmod b) :: (q, a.tdiv b * V) :: M)[iU + 2]? = some (Ua, U) from hU) (show ((r, a.tmod b) :: (q, a.tdiv b * V) :: M)[iU + 2]? = some (Ua, U) from hU) rfl RU (sU.le (by decide)) (((sz_tdiv sa).mul sV).le (by decide)))
 clear h hA hB hU hV Rq Rr RU sa sU sV hdiv mp
 unfold ptr at *
 go_enter Tryz.func194, Tryz.ntmps194
 go_wp2_with fail
 refine C1.out.mono ?_
 rintro e w1 ⟨rfl, h1⟩
 have h2 : Own R w0 w1 ((r, a.tmod b) :: (q, a.tdiv b) :: M) := OwnR.int h1
 have K2 := Lz (C2.out _ h2)
 clear h1 h2 C1 C2
 go_wp2_with fail
 refine K2.out.mono ?_
 rintro e w2 ⟨rfl, h3⟩
 have K3 := Lz (C3.out _ h3)
 clear h3 K2 C3
 go_wp2_with fail
 refine K3.out.mono ?_
 rintro e w3 ⟨rfl, h4⟩
 have H4 := Lz (show Own R w0 w3 ((r, a.tmod b) :: (q, a.tdiv b * V) :: M.set iU (Ua, U - a.tdiv b * V)) from h4)
 clear h4 K3
 go_wp2_with fail
 simp [bodyPost, results, Tryz.results194, go_sem]
 exact H4.out
end
end Go.Proofs.YtohhkjamddojmaaGreatDoor.Big

namespace Go.Proofs.YtohhkjamddojmaaGreatDoor.Big
theorem upd_val (U V : Int) (u v : Nat) (even : Bool) : ofR ((toR U).1 != !even, (toR U).2 * u) + ofR ((toR V).1 != even, (toR V).2 * v) = if even then (u : Int) * U - v * V else v * V - u * U := by
 rw [ofR_mul, ofR_mul]
 cases even
 · simp [Int.mul_comm]; omega
 · simp [Int.mul_comm]; omega
theorem upd_val2 (U V : Int) (u v : Nat) (even : Bool) : ofR ((toR V).1 != !even, (toR V).2 * v) + ofR ((toR U).1 != even, (toR U).2 * u) = if even then (v : Int) * V - u * U else u * U - v * V := by
 rw [ofR_mul, ofR_mul]
 cases even
 · simp [Int.mul_comm]; omega
 · simp [Int.mul_comm]; omega
end Go.Proofs.YtohhkjamddojmaaGreatDoor.Big
