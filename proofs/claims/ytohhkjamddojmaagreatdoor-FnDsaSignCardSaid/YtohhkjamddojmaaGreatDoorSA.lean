/- Numbers modulo a small number: remainders, powers, inverses, primes. -/
import Derived.Test.YtohhkjamddojmaaGreatDoorIJ
import Derived.IntWalk
namespace Go.Proofs.YtohhkjamddojmaaGreatDoor.Big
open Go.RowKit

theorem w64_in {n : Int} (h : -9223372036854775808 ≤ n ∧ n < 9223372036854775808) : wrap64 n = n := by unfold wrap64; omega
theorem mul64 (a b p : Nat) (ha : a < 2147483648) (hb : b < 2147483648) : (wrap64 ((a : Int) * b)).tmod p = ((a * b % p : Nat) : Int) := by
  have h : a * b < 2147483648 * 2147483648 := Nat.mul_lt_mul'' ha hb
  have e : (a : Int) * b = ((a * b : Nat) : Int) := by simp
  rw [w64_in (by rw [e]; omega), e]
  rw [Int.tmod_eq_emod_of_nonneg (by omega)]
  rfl
theorem emod_by {a : Int} {p : Nat} (hp : 0 < p) : a % (p : Int) = if a.tmod p < 0 then a.tmod p + p else a.tmod p := by
  have h := Int.tmod_eq_emod (a := a) (b := (p : Int))
  have h1 := Int.emod_nonneg a (show (p : Int) ≠ 0 by omega)
  have h2 : a % (p : Int) < p := Int.emod_lt_of_pos a (by omega)
  rw [h]
  by_cases h3 : 0 ≤ a ∨ (p : Int) ∣ a
  · simp only [h3, if_true]
    rw [if_neg (by omega)]; omega
  · simp only [h3, if_false]
    have h4 : a % (p : Int) ≠ 0 := fun e => h3 (.inr (Int.dvd_of_emod_eq_zero e))
    rw [if_pos (by omega)]
    omega
theorem tmod_abs {a : Int} {p : Nat} (hp : 0 < p) : -(p : Int) ≤ a.tmod p ∧ a.tmod p < p := by
  have h := emod_by (a := a) hp
  have h1 := Int.emod_nonneg a (show (p : Int) ≠ 0 by omega)
  have h2 : a % (p : Int) < p := Int.emod_lt_of_pos a (by omega)
  split at h <;> omega

set_option maxHeartbeats 1000000 in
theorem modI (n : Int) (p : Nat) (w : World) (hp : 0 < p) (p63 : p < 4611686018427387904) :
    Calls Tryz.prog 79 #[.int .i64 n, .int .i64 p] w (fun e w' => e = .returned (.int .i64 (n % p)) ∧ w' = w) := by
  have hem := emod_by (a := n) hp
  obtain ⟨b1, b2⟩ := tmod_abs (a := n) hp
  rw [hem]
  by_cases hc : n.tmod p < 0
  · rw [if_pos hc]
    clear hem
    generalize hm : n.tmod p = m at *
    have e := w64_in (n := m + p) (by omega)
    go_enter Tryz.func79, Tryz.ntmps79
    go_wp2_with fail
    go_ret
    exact ⟨rfl, rfl⟩
  · rw [if_neg hc]
    clear hem
    generalize hm : n.tmod p = m at *
    go_enter Tryz.func79, Tryz.ntmps79
    go_wp2_with fail
    go_ret
    exact ⟨rfl, rfl⟩

/-- the rest of a power -/
theorem pw_odd {o m k p : Nat} (h : k % 2 = 1) : (o * m % p) * (m * m % p) ^ (k / 2) % p = o * m ^ k % p := by
  have e : m ^ k = m * (m * m) ^ (k / 2) := by
    conv => lhs; rw [show k = 2 * (k / 2) + 1 by omega]
    rw [Nat.pow_succ, Nat.pow_mul, Nat.pow_two, Nat.mul_comm]
  rw [e, ← Nat.mul_assoc, Nat.mul_mod, Nat.mod_mod, Nat.pow_mod, Nat.mod_mod, ← Nat.pow_mod, ← Nat.mul_mod]
theorem pw_even {o m k p : Nat} (h : k % 2 ≠ 1) : o * (m * m % p) ^ (k / 2) % p = o * m ^ k % p := by
  have e : m ^ k = (m * m) ^ (k / 2) := by
    conv => lhs; rw [show k = 2 * (k / 2) by omega]
    rw [Nat.pow_mul, Nat.pow_two]
  rw [e, Nat.mul_mod, Nat.pow_mod, Nat.mod_mod, ← Nat.pow_mod, ← Nat.mul_mod]

set_option maxHeartbeats 2000000 in
set_option maxRecDepth 100000 in
theorem powI (n : Int) (e p : Nat) (w : World) (hp : 0 < p) (p31 : p ≤ 2147483648) (he : e < 9223372036854775808) :
    Calls Tryz.prog 32 #[.int .i64 n, .int .i64 e, .int .i64 p] w (fun en w' => en = .returned (.int .i64 ((n % p).toNat ^ e % p : Nat)) ∧ w' = w) := by
  have h0 := Int.emod_nonneg n (show (p : Int) ≠ 0 by omega)
  have h1 : n % (p : Int) < p := Int.emod_lt_of_pos n (by omega)
  obtain ⟨m0, hm0⟩ : ∃ m0 : Nat, n % (p : Int) = m0 := ⟨(n % p).toNat, by omega⟩
  have HM := Lib.hid (modI n p w hp (by omega))
  rw [hm0] at HM ⊢
  rw [Int.toNat_natCast]
  have hm0p : m0 < p := by omega
  obtain ⟨o0, ho0⟩ : ∃ o0 : Nat, o0 = 1 % p := ⟨_, rfl⟩
  have ho0p : o0 < p := by rw [ho0]; exact Nat.mod_lt _ hp
  have e1 : (1 : Int) % (p : Int) = o0 := by rw [ho0, Int.natCast_emod]; rfl
  have e1t : (1 : Int).tmod (p : Int) = o0 := by rw [Int.tmod_eq_emod_of_nonneg (by omega), e1]
  have HST := Lib.hid (show o0 * m0 ^ e % p = m0 ^ e % p by rw [ho0, Nat.mul_mod, Nat.mod_mod, ← Nat.mul_mod, Nat.one_mul])
  have HMP := Lib.hid hm0p
  have HOP := Lib.hid ho0p
  have HP31 := Lib.hid p31
  have hpz : ¬ p = 0 := by omega
  generalize m0 ^ e % p = r at *
  clear h0 h1 hm0 hm0p ho0 ho0p
  go_enter Tryz.func32, Tryz.ntmps32
  go_wp2_with fail
  refine HM.out.mono ?_
  rintro en w1 ⟨rfl, rfl⟩
  clear HM
  go_wp2_with fail
  go_loop [0, 1, 7] (fun a b c => ∃ m k o : Nat, a = .int .i64 m ∧ b = .int .i64 k ∧ c = .int .i64 o ∧ k < 9223372036854775808 ∧ RowKit.Hid (m < p ∧ o < p ∧ o * m ^ k % p = r)) (fun _ b _ => (intOf b).toNat)
  case atStart => exact ⟨m0, e, o0, rfl, rfl, rfl, he, HMP.out, HOP.out, HST.out⟩
  case round =>
    obtain ⟨m, k, o, rfl, rfl, rfl, hk, HR⟩ := hrel
    by_cases hk0 : k = 0
    · have HF := Lib.hid (show o = r by have := HR.out.2.2; rwa [hk0, Nat.pow_zero, Nat.mul_one, Nat.mod_eq_of_lt HR.out.2.1] at this)
      have hkn : ¬ (0 : Int) < k := by omega
      clear hk0
      go_wp2_with fail
      go_ret
      exact ⟨show Ending.returned (.int .i64 (o : Int)) = _ by rw [HF.out], rfl⟩
    · obtain ⟨mm, hmm⟩ : ∃ mm : Nat, mm = m * m % p := ⟨_, rfl⟩
      have f1 : (wrap64 ((m : Int) * m)).tmod p = mm := by rw [hmm]; exact mul64 m m p (by have := HR.out.1; have := HP31.out; omega) (by have := HR.out.1; have := HP31.out; omega)
      have hkp : (0 : Int) < k := by omega
      have mp : mm < p := by rw [hmm]; exact Nat.mod_lt _ (by omega)
      by_cases hodd : k % 2 = 1
      · obtain ⟨om, hom⟩ : ∃ om : Nat, om = o * m % p := ⟨_, rfl⟩
        have f2 : (wrap64 ((o : Int) * m)).tmod p = om := by rw [hom]; exact mul64 o m p (by have := HR.out.2.1; have := HP31.out; omega) (by have := HR.out.1; have := HP31.out; omega)
        have op : om < p := by rw [hom]; exact Nat.mod_lt _ (by omega)
        have hb : ((k : Int) % 2 == 1) = true := by rw [beq_iff_eq]; omega
        have HN := Lib.hid (show mm < p ∧ om < p ∧ om * mm ^ (k / 2) % p = r from ⟨mp, op, by rw [hom, hmm, pw_odd hodd, HR.out.2.2]⟩)
        clear hmm hom mp op hodd HR
        go_wp2_with fail
        go_round
        case rel => exact ⟨mm, k / 2, om, rfl, by go_num, rfl, by omega, HN.out⟩
        case measure => simp [intOf]; omega
      · have hb : ((k : Int) % 2 == 1) = false := by rw [beq_eq_false_iff_ne]; omega
        have HN := Lib.hid (show mm < p ∧ o < p ∧ o * mm ^ (k / 2) % p = r from ⟨mp, HR.out.2.1, by rw [hmm, pw_even hodd, HR.out.2.2]⟩)
        clear hmm mp hodd HR
        go_wp2_with fail
        go_round
        case rel => exact ⟨mm, k / 2, o, rfl, by go_num, rfl, by omega, HN.out⟩
        case measure => simp [intOf]; omega

set_option maxHeartbeats 1000000 in
theorem invI (n : Int) (p : Nat) (w : World) (hp : 2 ≤ p) (p31 : p ≤ 2147483648) :
    Calls Tryz.prog 85 #[.int .i64 n, .int .i64 p] w (fun en w' => en = .returned (.int .i64 ((n % p).toNat ^ (p - 2) % p : Nat)) ∧ w' = w) := by
  have HC := Lib.hid (powI n (p - 2) p w (by omega) p31 (by omega))
  have e : (p : Int) - 2 = ((p - 2 : Nat) : Int) := by omega
  rw [← e] at HC
  generalize (n % p).toNat ^ (p - 2) % p = r at *
  clear e
  go_enter Tryz.func85, Tryz.ntmps85
  go_wp2_with fail
  refine HC.out.mono ?_
  rintro en w1 ⟨rfl, rfl⟩
  clear HC
  go_wp2_with fail
  go_ret
  exact ⟨rfl, rfl⟩

/-- what IsPrime asks -/
def NoDiv (n : Nat) : Prop := 2 ≤ n ∧ ∀ k, 2 ≤ k → k * k ≤ n → ¬ k ∣ n
def PrimeP (n : Nat) (w : World) (en : Ending) (w' : World) : Prop := (∃ v : Bool, en = .returned (.bool v) ∧ (v = true ↔ NoDiv n)) ∧ w' = w
set_option maxHeartbeats 2000000 in
set_option maxRecDepth 100000 in
theorem primeI (n : Nat) (w : World) (hn : n < 4294967296) : Calls Tryz.prog 114 #[.int .i64 n] w (PrimeP n w) := by
  by_cases h2 : n < 2
  · have HF := Lib.hid (show ¬ NoDiv n from fun h => by have := h.1; omega)
    go_enter Tryz.func114, Tryz.ntmps114
    go_wp2_with fail
    go_ret
    exact ⟨⟨false, rfl, by simp [HF.out]⟩, rfl⟩
  · go_enter Tryz.func114, Tryz.ntmps114
    go_wp2_with fail
    go_loop [3] (fun a => ∃ d : Nat, a = .int .i64 d ∧ 2 ≤ d ∧ d ≤ 65536 ∧ RowKit.Hid (∀ k, 2 ≤ k → k < d → ¬ k ∣ n)) (fun a => 65536 - (intOf a).toNat)
    case atStart => exact ⟨2, rfl, by omega, by omega, fun k h1 h2 => by omega⟩
    case round =>
      obtain ⟨d, rfl, d2, dm, HK⟩ := hrel
      obtain ⟨dd, hdd⟩ : ∃ dd : Nat, dd = d * d := ⟨_, rfl⟩
      have hw : wrap64 ((d : Int) * d) = dd := by
        have : d * d ≤ 65536 * 65536 := Nat.mul_le_mul dm dm
        rw [show (d : Int) * d = ((d * d : Nat) : Int) by simp, w64_in (by omega), hdd]
      have HDD := Lib.hid hdd
      by_cases hle : dd ≤ n
      · have hdlt : d < 65536 := by
          rcases Nat.lt_or_ge d 65536 with h | h
          · exact h
          · have : 65536 * 65536 ≤ d * d := Nat.mul_le_mul h h
            omega
        have hlei : (dd : Int) ≤ n := by omega
        clear hdd
        by_cases hdv : n % d = 0
        · have hb : ((n : Int) % (d : Int) == 0) = true := by rw [beq_iff_eq]; omega
          have hz : ¬ d = 0 := by omega
          have HF := Lib.hid (show ¬ NoDiv n from fun h => h.2 d d2 (HDD.out ▸ hle) (Nat.dvd_of_mod_eq_zero hdv))
          clear hdv hle
          go_wp2_with fail
          go_ret
          exact ⟨⟨false, rfl, by simp [HF.out]⟩, rfl⟩
        · have hb : ((n : Int) % (d : Int) == 0) = false := by rw [beq_eq_false_iff_ne]; omega
          have hz : ¬ d = 0 := by omega
          have HN := Lib.hid (show ∀ k, 2 ≤ k → k < d + 1 → ¬ k ∣ n from fun k k2 kd hk => by
            rcases Nat.lt_or_ge k d with h | h
            · exact HK.out k k2 h hk
            · obtain rfl : k = d := by omega
              exact hdv (Nat.mod_eq_zero_of_dvd hk))
          clear hdv hle
          go_wp2_with fail
          go_round
          case rel => exact ⟨d + 1, by go_num, by omega, by omega, HN.out⟩
          case measure => simp [intOf]; omega
      · have hlei : ¬ (dd : Int) ≤ n := by omega
        have HF := Lib.hid (show NoDiv n from ⟨by omega, fun k k2 kk hk => by
          rcases Nat.lt_or_ge k d with h | h
          · exact HK.out k k2 h hk
          · have := Nat.mul_le_mul h h
            omega⟩)
        clear hdd hle
        go_wp2_with fail
        go_ret
        exact ⟨⟨true, rfl, by simp [HF.out]⟩, rfl⟩
end Go.Proofs.YtohhkjamddojmaaGreatDoor.Big
