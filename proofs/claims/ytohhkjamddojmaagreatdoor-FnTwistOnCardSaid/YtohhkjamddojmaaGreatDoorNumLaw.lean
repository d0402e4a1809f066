/- Plain mathematics: primes, Fermat's little theorem; no Go, no program. Plain mathematics: Pocklington's theorem; no Go, no program. -/
import Derived.Test.YtohhkjamddojmaaGreatDoorBits
namespace Go.Proofs.YtohhkjamddojmaaGreatDoor.NumLaw

def IsP (n : Nat) : Prop := 2 ≤ n ∧ ∀ d, d ∣ n → d = 1 ∨ d = n

theorem IsP.coprime {p a : Nat} (h : IsP p) (ha : ¬ p ∣ a) : Nat.Coprime p a := by
  rcases h.2 _ (Nat.gcd_dvd_left p a) with e | e
  · exact e
  · exact absurd (e ▸ Nat.gcd_dvd_right p a) ha

theorem IsP.dvd_mul {p a b : Nat} (h : IsP p) (hd : p ∣ a * b) : p ∣ a ∨ p ∣ b := by
  by_cases ha : p ∣ a
  · exact .inl ha
  · exact .inr ((h.coprime ha).dvd_of_dvd_mul_left hd)

theorem IsP.int {p : Nat} (h : IsP p) (x y : Int) (hd : (p : Int) ∣ x * y) : (p : Int) ∣ x ∨ (p : Int) ∣ y := by
  have e := Int.natAbs_dvd_natAbs.2 hd
  rw [Int.natAbs_mul] at e
  rcases h.dvd_mul e with e | e
  · exact .inl (Int.natAbs_dvd_natAbs.1 e)
  · exact .inr (Int.natAbs_dvd_natAbs.1 e)

def C : Nat → Nat → Nat
  | _, 0 => 1
  | 0, _ + 1 => 0
  | n + 1, k + 1 => C n k + C n (k + 1)

theorem C_zero (n : Nat) : C n 0 = 1 := by cases n <;> rfl
theorem C_over (n : Nat) : ∀ k, n < k → C n k = 0 := by
  induction n with
  | zero => intro k h; match k, h with | k + 1, _ => rfl
  | succ n ih => intro k h; match k, h with | k + 1, h => show C n k + C n (k + 1) = 0; rw [ih k (by omega), ih (k + 1) (by omega)]
theorem C_self (n : Nat) : C n n = 1 := by
  induction n with
  | zero => rfl
  | succ n ih => show C n n + C n (n + 1) = 1; rw [ih, C_over n (n + 1) (by omega)]

theorem C_abs (n : Nat) : ∀ k, (k + 1) * C (n + 1) (k + 1) = (n + 1) * C n k := by
  induction n with
  | zero =>
    intro k
    cases k with
    | zero => rfl
    | succ k => show (k + 2) * (C 0 (k+1) + C 0 (k+2)) = 1 * 0; simp [C]
  | succ n ih =>
    intro k
    cases k with
    | zero =>
      have h : 1 * C (n + 1) 1 = (n + 1) * C n 0 := ih 0
      show 1 * (C (n+1) 0 + C (n+1) 1) = (n + 2) * C (n + 1) 0
      rw [C_zero] at *
      generalize C (n + 1) 1 = z at *
      omega
    | succ k =>
      have h1 : (k + 1) * (C n k + C n (k + 1)) = (n + 1) * C n k := ih k
      have h2 : (k + 2) * C (n + 1) (k + 2) = (n + 1) * C n (k + 1) := ih (k + 1)
      show (k + 2) * (C n k + C n (k+1) + C (n+1) (k+2)) = (n + 2) * (C n k + C n (k + 1))
      generalize C (n+1) (k+2) = z at *
      generalize C n k = x at *
      generalize C n (k+1) = y at *
      grind

def sumC (n a : Nat) : Nat → Nat
  | 0 => 0
  | m + 1 => sumC n a m + C n m * a ^ m

theorem sumC_succ (n a : Nat) : ∀ m, sumC (n + 1) a (m + 1) = sumC n a (m + 1) + a * sumC n a m
  | 0 => by show 0 + C (n+1) 0 * a^0 = 0 + C n 0 * a^0 + a * 0; rw [C_zero, C_zero]; omega
  | m + 1 => by
    show sumC (n + 1) a (m + 1) + C (n + 1) (m + 1) * a ^ (m + 1) = sumC n a (m + 1) + C n (m + 1) * a ^ (m + 1) + a * (sumC n a m + C n m * a ^ m)
    rw [sumC_succ n a m]
    show _ + (C n m + C n (m + 1)) * a ^ (m + 1) = _
    grind

theorem binom (n a : Nat) : (a + 1) ^ n = sumC n a (n + 1) := by
  induction n with
  | zero => rfl
  | succ n ih =>
    rw [sumC_succ, Nat.pow_succ, ih]
    show _ = sumC n a (n + 1) + C n (n + 1) * a ^ (n + 1) + _
    rw [C_over n (n + 1) (by omega)]
    grind

theorem IsP.dvd_C {p k : Nat} (h : IsP p) (h0 : 0 < k) (h1 : k < p) : p ∣ C p k := by
  obtain ⟨q, rfl⟩ : ∃ q, p = q + 1 := ⟨p - 1, by have := h.1; omega⟩
  obtain ⟨j, rfl⟩ : ∃ j, k = j + 1 := ⟨k - 1, by omega⟩
  have e := C_abs q j
  rcases h.dvd_mul (⟨C q j, e⟩ : q + 1 ∣ (j + 1) * C (q + 1) (j + 1)) with hd | hd
  · have := Nat.le_of_dvd (by omega) hd; omega
  · exact hd

theorem IsP.sum_mod {p : Nat} (h : IsP p) (a : Nat) : ∀ m, m < p → sumC p a (m + 1) % p = 1 % p
  | 0, _ => by show (0 + C p 0 * a ^ 0) % p = _; rw [C_zero]; simp
  | m + 1, hm => by
    show (sumC p a (m + 1) + C p (m + 1) * a ^ (m + 1)) % p = _
    rw [Nat.add_mod, h.sum_mod a m (by omega), Nat.mod_eq_zero_of_dvd (Nat.dvd_trans (h.dvd_C (by omega) hm) (Nat.dvd_mul_right _ _))]
    simp

theorem IsP.frob {p : Nat} (h : IsP p) (a : Nat) : (a + 1) ^ p % p = (a ^ p + 1) % p := by
  have h2 := h.1
  rw [binom]
  show (sumC p a p + C p p * a ^ p) % p = _
  rw [C_self]
  obtain ⟨q, hq⟩ : ∃ q, p = q + 1 := ⟨p - 1, by omega⟩
  have := h.sum_mod a q (by omega)
  rw [← hq] at this
  rw [Nat.add_mod, this, ← Nat.add_mod, Nat.one_mul, Nat.add_comm]

theorem IsP.fermat {p : Nat} (h : IsP p) : ∀ a, a ^ p % p = a % p
  | 0 => by rw [Nat.zero_pow (by have := h.1; omega)]
  | a + 1 => by rw [h.frob, Nat.add_mod, h.fermat a, ← Nat.add_mod]

theorem IsP.fermat1 {p a : Nat} (h : IsP p) (ha : ¬ p ∣ a) : a ^ (p - 1) % p = 1 := by
  have h2 := h.1
  have e : (a ^ p : Nat) % p = a % p := h.fermat a
  have e2 : (p : Int) ∣ (a : Int) * ((a : Int) ^ (p - 1) - 1) := by
    have e3 : ((a ^ p : Nat) : Int) % p = (a : Int) % p := by exact_mod_cast e
    have e4 := Int.emod_emod_of_dvd ((a ^ p : Nat) : Int) (Int.dvd_refl (p : Int))
    have e5 : (p : Int) ∣ ((a ^ p : Nat) : Int) - a := Int.dvd_of_emod_eq_zero (Int.emod_eq_emod_iff_emod_sub_eq_zero.1 e3)
    have e6 : ((a ^ p : Nat) : Int) = (a : Int) * (a : Int) ^ (p - 1) := by
      obtain ⟨q, hq⟩ : ∃ q, p = q + 1 := ⟨p - 1, by omega⟩
      rw [hq, Nat.pow_succ]; simp [Int.mul_comm]
    rw [e6] at e5
    rwa [Int.mul_sub, Int.mul_one]
  rcases h.int _ _ e2 with hd | hd
  · exact absurd (Int.natCast_dvd_natCast.1 hd) ha
  · have e3 : ((a : Int) ^ (p - 1)) % p = 1 % p := Int.emod_eq_emod_iff_emod_sub_eq_zero.2 (Int.emod_eq_zero_of_dvd hd)
    have e4 : ((a ^ (p - 1) % p : Nat) : Int) = ((1 % p : Nat) : Int) := by simp [e3]
    have e5 : a ^ (p - 1) % p = 1 % p := by exact_mod_cast e4
    rw [e5, Nat.mod_eq_of_lt (by omega)]
end Go.Proofs.YtohhkjamddojmaaGreatDoor.NumLaw
namespace Go.Proofs.YtohhkjamddojmaaGreatDoor.NumLaw

theorem mod1 {a x r : Nat} (h2 : 2 ≤ r) (h : a ^ x % r = 1) (k : Nat) : (a ^ (x * k)) % r = 1 := by
  rw [Nat.pow_mul, Nat.pow_mod, h, Nat.one_pow, Nat.mod_eq_of_lt (by omega)]

theorem pow_gcd {a r : Nat} (h2 : 2 ≤ r) (x y : Nat) : a ^ x % r = 1 → a ^ y % r = 1 → a ^ (Nat.gcd x y) % r = 1 := by
  induction x, y using Nat.gcd.induction with
  | H0 y => intro _ h; rwa [Nat.gcd_zero_left]
  | H1 x y hx ih =>
    intro h1 h3
    rw [Nat.gcd_rec]
    refine ih ?_ h1
    have e : a ^ y = a ^ (x * (y / x)) * a ^ (y % x) := by rw [← Nat.pow_add, Nat.div_add_mod]
    rw [e, Nat.mul_mod, mod1 h2 h1, Nat.one_mul, Nat.mod_mod] at h3
    exact h3

theorem least_factor (n : Nat) (h2 : 2 ≤ n) : ∃ r, IsP r ∧ r ∣ n ∧ (r = n ∨ r * r ≤ n) := by
  have aux : ∀ k, ∀ d, d + k = n → 2 ≤ d → (∀ e, 2 ≤ e → e < d → ¬ e ∣ n) → ∃ r, 2 ≤ r ∧ r ∣ n ∧ ∀ e, 2 ≤ e → e < r → ¬ e ∣ n := by
    intro k
    induction k with
    | zero => intro d hd h2' h; exact ⟨d, h2', by rw [show d = n by omega]; exact Nat.dvd_refl _, h⟩
    | succ k ih =>
      intro d hd h2' h
      by_cases hdv : d ∣ n
      · exact ⟨d, h2', hdv, h⟩
      · refine ih (d + 1) (by omega) (by omega) (fun e he hlt => ?_)
        by_cases hh : e = d
        · rw [hh]; exact hdv
        · exact h e he (by omega)
  obtain ⟨r, hr2, hrn, hmin⟩ := aux (n - 2) 2 (by omega) (by omega) (fun e he hlt => by omega)
  refine ⟨r, ⟨hr2, fun d hd => ?_⟩, hrn, ?_⟩
  · have hdle := Nat.le_of_dvd (by omega) hd
    have hd0 : d ≠ 0 := fun hz => by rw [hz] at hd; have := Nat.eq_zero_of_zero_dvd hd; omega
    by_cases h1 : d = 1
    · exact .inl h1
    · right
      rcases Nat.lt_or_ge d r with hlt | hge
      · exact absurd (Nat.dvd_trans hd hrn) (hmin d (by omega) hlt)
      · omega
  · obtain ⟨s, hs⟩ := hrn
    by_cases h1 : s = 1
    · left; rw [hs, h1, Nat.mul_one]
    · right
      have hs0 : s ≠ 0 := fun hz => by rw [hz] at hs; omega
      rcases Nat.lt_or_ge s r with hlt | hge
      · exact absurd (⟨r, by rw [hs, Nat.mul_comm]⟩ : s ∣ n) (hmin s (by omega) hlt)
      · rw [hs]; exact Nat.mul_le_mul_left _ hge

theorem pock1 {n a q m r : Nat} (hq : IsP q) (hn : n = q * m + 1) (h1 : a ^ (q * m) % n = 1) (hg : Nat.gcd (a ^ m % n + (n - 1)) n = 1) (hr : IsP r) (hrn : r ∣ n) : q ∣ r - 1 := by
  have hr2 := hr.1
  have hn0 : 0 < n := by omega
  have e1 : a ^ (q * m) % r = 1 := by
    have := Nat.mod_mod_of_dvd (a ^ (q * m)) hrn
    rw [h1] at this
    rw [← this, Nat.mod_eq_of_lt (by omega)]
  by_cases hq1 : q ∣ r - 1
  · exact hq1
  · exfalso
    have ha : ¬ r ∣ a := by
      intro hd
      have hqm : q * m ≠ 0 := by
        intro hz
        rw [hz] at hn
        have := Nat.le_of_dvd hn0 hrn
        omega
      obtain ⟨k, hk⟩ : ∃ k, q * m = k + 1 := ⟨q * m - 1, by omega⟩
      rw [hk, Nat.pow_succ, Nat.mod_eq_zero_of_dvd (Nat.dvd_trans hd (Nat.dvd_mul_left _ _))] at e1
      omega
    have e2 := hr.fermat1 ha
    have e3 := pow_gcd hr2 _ _ e1 e2
    have hd : Nat.gcd (q * m) (r - 1) ∣ m := by
      refine Nat.Coprime.dvd_of_dvd_mul_left ?_ (Nat.gcd_dvd_left (q * m) (r - 1))
      refine Nat.Coprime.symm (hq.coprime (fun hd => hq1 (Nat.dvd_trans hd (Nat.gcd_dvd_right _ _))))
    obtain ⟨k, hk⟩ := hd
    have e4 : a ^ m % r = 1 := by rw [hk]; exact mod1 hr2 e3 k
    have e5 : (a ^ m % n) % r = 1 := by rw [Nat.mod_mod_of_dvd _ hrn]; exact e4
    have e6 : r ∣ a ^ m % n + (n - 1) := by
      obtain ⟨s, hs⟩ := hrn
      have e7 := Nat.div_add_mod (a ^ m % n) r
      rw [e5] at e7
      refine ⟨(a ^ m % n) / r + s, ?_⟩
      rw [Nat.mul_add, ← hs]
      omega
    have := Nat.dvd_gcd e6 hrn
    rw [hg] at this
    have := Nat.le_of_dvd (by omega) this
    omega

theorem isP_of_factor {n F : Nat} (h2 : 2 ≤ n) (hF : n < (F + 1) * (F + 1)) (h : ∀ r, IsP r → r ∣ n → F ∣ r - 1) : IsP n := by
  obtain ⟨r, hr, hrn, e⟩ := least_factor n h2
  rcases e with rfl | e
  · exact hr
  · exfalso
    have hr2 := hr.1
    have hle : F ≤ r - 1 := Nat.le_of_dvd (by omega) (h r hr hrn)
    have : (F + 1) * (F + 1) ≤ r * r := Nat.mul_le_mul (by omega) (by omega)
    omega

/-- powers modulo n, by squaring -/
def pm (n : Nat) : Nat → Nat → Nat → Nat
  | 0, _, _ => 1 % n
  | k + 1, a, e => if e = 0 then 1 % n else if e % 2 = 1 then a * pm n k (a * a % n) (e / 2) % n else pm n k (a * a % n) (e / 2)

theorem pm_eq (n : Nat) : ∀ k a e, e < 2 ^ k → pm n k a e = a ^ e % n
  | 0, a, e, h => by rw [show e = 0 by simpa using h]; rfl
  | k + 1, a, e, h => by
    unfold pm
    by_cases h0 : e = 0
    · rw [if_pos h0, h0]; rfl
    · rw [if_neg h0]
      have ih := pm_eq n k (a * a % n) (e / 2) (by rw [Nat.pow_succ] at h; omega)
      have hp : (a * a % n) ^ (e / 2) % n = a ^ (2 * (e / 2)) % n := by
        rw [← Nat.pow_mod, Nat.pow_mul, show a ^ 2 = a * a by rw [Nat.pow_two]]
      by_cases h1 : e % 2 = 1
      · rw [if_pos h1, ih, hp]
        have e1 : e = 2 * (e / 2) + 1 := by omega
        conv => rhs; rw [e1, Nat.pow_succ]
        rw [Nat.mul_mod, Nat.mod_mod, ← Nat.mul_mod, Nat.mul_comm]
      · rw [if_neg h1, ih, hp]
        have e1 : 2 * (e / 2) = e := by omega
        rw [e1]

/-- F divides r - 1 for each prime r that divides n -/
def Part (n F : Nat) : Prop := ∀ r, IsP r → r ∣ n → F ∣ r - 1
theorem part_one (n : Nat) : Part n 1 := fun _ _ _ => Nat.one_dvd _
theorem part_mul {n F q : Nat} (a m k : Nat) (hF : Part n F) (hq : IsP q) (h : (n == q * m + 1 && pm n k a (q * m) == 1 && Nat.gcd (pm n k a m + (n - 1)) n == 1 && decide (q * m < 2 ^ k) && decide (m < 2 ^ k) && Nat.gcd F q == 1) = true) : Part n (F * q) := by
  simp only [Bool.and_eq_true, beq_iff_eq, decide_eq_true_eq] at h
  obtain ⟨⟨⟨⟨⟨h1, h2⟩, h3⟩, h6⟩, h7⟩, h8⟩ := h
  rw [pm_eq n k a _ h6] at h2
  rw [pm_eq n k a _ h7] at h3
  exact fun r hr hrn => Nat.Coprime.mul_dvd_of_dvd_of_dvd h8 (hF r hr hrn) (pock1 hq h1 h2 h3 hr hrn)
theorem part_fin {n F : Nat} (hF : Part n F) (h : (decide (2 ≤ n) && decide (n < (F + 1) * (F + 1))) = true) : IsP n := by
  simp only [Bool.and_eq_true, decide_eq_true_eq] at h
  exact isP_of_factor h.1 h.2 hF

/-- small ones, by trial -/
def trial (n : Nat) : Nat → Nat → Bool
  | 0, _ => false
  | k + 1, d => if n < d * d then true else if n % d = 0 then false else trial n k (d + 1)

theorem trial_ok (n : Nat) (h2 : 2 ≤ n) : ∀ k d, 2 ≤ d → trial n k d = true → (∀ e, 2 ≤ e → e < d → ¬ e ∣ n) → IsP n := by
  intro k
  induction k with
  | zero => intro d _ h; cases h
  | succ k ih =>
    intro d hd h hall
    unfold trial at h
    by_cases c1 : n < d * d
    · obtain ⟨r, hr, hrn, e⟩ := least_factor n h2
      rcases e with rfl | e
      · exact hr
      · exfalso
        refine hall r hr.1 ?_ hrn
        rcases Nat.lt_or_ge r d with hlt | hge
        · exact hlt
        · have := Nat.mul_le_mul hge hge; omega
    · rw [if_neg c1] at h
      by_cases c2 : n % d = 0
      · rw [if_pos c2] at h; cases h
      · rw [if_neg c2] at h
        refine ih (d + 1) (by omega) h (fun e he hlt => ?_)
        by_cases hh : e = d
        · rw [hh]; exact fun hdv => c2 (Nat.mod_eq_zero_of_dvd hdv)
        · exact hall e he (by omega)

theorem small (n k : Nat) (h : (decide (2 ≤ n) && trial n k 2) = true) : IsP n := by
  simp only [Bool.and_eq_true, decide_eq_true_eq] at h
  exact trial_ok n h.1 k 2 (by omega) h.2 (fun e he hlt => by omega)
end Go.Proofs.YtohhkjamddojmaaGreatDoor.NumLaw