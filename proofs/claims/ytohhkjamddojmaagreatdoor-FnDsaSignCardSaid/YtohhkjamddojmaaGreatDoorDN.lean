/- Plain mathematics: DSA keys with small numbers: primes are found; a number of the order q is found. -/
import Derived.Test.YtohhkjamddojmaaGreatDoorEcLaw
namespace Go.Proofs.YtohhkjamddojmaaGreatDoor.NumLaw

/-- some n, n + 2, .. (so many of them) makes n q + 1 a prime, as powers of 2 tell -/
def fw (q : Nat) : Nat → Nat → Bool
  | 0, _ => false
  | f + 1, n => ((n * q + 1) % 3 != 0 && ((n * q + 1) % 5 != 0 && ((n * q + 1) % 7 != 0 && ((n * q + 1) % 11 != 0 && ((n * q + 1) % 13 != 0 && (pm (n * q + 1) 31 2 (q * n) == 1 && Nat.gcd (pm (n * q + 1) 31 2 n + n * q) (n * q + 1) == 1)))))) || fw q f (n + 2)
/-- one of the numbers d, d + 1, .. (so many of them) divides -/
def hd (q : Nat) : Nat → Nat → Bool
  | 0, _ => false
  | k + 1, d => q % d == 0 || hd q k (d + 2)
def ck (q : Nat) : Bool := q % 2 == 0 || (hd q 127 3 || fw q 90 20000)
def ckAll : Nat → Nat → Bool
  | 0, _ => true
  | k + 1, q => ck q && ckAll k (q + 1)
theorem ckAll_ok : ∀ k q, ckAll k q = true → ∀ i, i < k → ck (q + i) = true
  | 0, _, _, i, h => by omega
  | k + 1, q, h, i, hi => by
    unfold ckAll at h
    rw [Bool.and_eq_true] at h
    cases i with
    | zero => exact h.1
    | succ i => have := ckAll_ok k (q + 1) h.2 i (by omega); rwa [show q + 1 + i = q + (i + 1) by omega] at this

theorem hd_ok : ∀ k q d, hd q k d = true → ∃ e, d ≤ e ∧ e < d + 2 * k ∧ e ∣ q
  | 0, _, _, h => by cases h
  | k + 1, q, d, h => by
    unfold hd at h
    rw [Bool.or_eq_true, beq_iff_eq] at h
    rcases h with h | h
    · exact ⟨d, by omega, by omega, Nat.dvd_of_mod_eq_zero h⟩
    · obtain ⟨e, h1, h2, h3⟩ := hd_ok k q (d + 2) h
      exact ⟨e, by omega, by omega, h3⟩
theorem fw_ok {q : Nat} (hq : IsP q) (q15 : 32768 ≤ q) (q16 : q < 65536) : ∀ f n, 20000 ≤ n → n + 2 * f ≤ 20180 → n % 2 = 0 → fw q f n = true → ∃ m, n ≤ m ∧ m < n + 2 * f ∧ m % 2 = 0 ∧ IsP (m * q + 1)
  | 0, _, _, _, _, h => by cases h
  | f + 1, n, n0, n1, n2, h => by
    unfold fw at h
    rw [Bool.or_eq_true, Bool.and_eq_true, Bool.and_eq_true, Bool.and_eq_true, Bool.and_eq_true, Bool.and_eq_true, Bool.and_eq_true, beq_iff_eq, beq_iff_eq] at h
    rcases h with ⟨-, -, -, -, -, h1, h2⟩ | h
    · refine ⟨n, by omega, by omega, n2, ?_⟩
      have b1 : n * q ≤ 20180 * q := Nat.mul_le_mul_right q (by omega)
      have b2 : (q + 1) * (q + 1) = q * q + 2 * q + 1 := by rw [Nat.add_mul, Nat.mul_add]; omega
      have b3 : 32768 * q ≤ q * q := Nat.mul_le_mul_right q q15
      have hp := part_mul (n := n * q + 1) (F := 1) (q := q) 2 n 31 (part_one _) hq (by
        simp only [Bool.and_eq_true, beq_iff_eq, decide_eq_true_eq]
        refine ⟨⟨⟨⟨⟨by rw [Nat.mul_comm], h1⟩, ?_⟩, ?_⟩, ?_⟩, Nat.gcd_one_left _⟩
        · rw [show n * q + 1 - 1 = n * q by omega]; exact h2
        · rw [Nat.mul_comm]; omega
        · omega)
      refine part_fin hp ?_
      simp only [Bool.and_eq_true, decide_eq_true_eq, Nat.one_mul]
      constructor
      · have : 20000 * 32768 ≤ n * q := Nat.mul_le_mul n0 q15
        omega
      · omega
    · obtain ⟨m, e1, e2, e3, e4⟩ := fw_ok hq q15 q16 f (n + 2) (by omega) (by omega) (by omega) h
      exact ⟨m, by omega, by omega, e3, e4⟩

theorem c0 : ckAll 1024 32768 = true := by decide +kernel
theorem c1 : ckAll 1024 33792 = true := by decide +kernel
theorem c2 : ckAll 1024 34816 = true := by decide +kernel
theorem c3 : ckAll 1024 35840 = true := by decide +kernel
theorem c4 : ckAll 1024 36864 = true := by decide +kernel
theorem c5 : ckAll 1024 37888 = true := by decide +kernel
theorem c6 : ckAll 1024 38912 = true := by decide +kernel
theorem c7 : ckAll 1024 39936 = true := by decide +kernel
theorem c8 : ckAll 1024 40960 = true := by decide +kernel
theorem c9 : ckAll 1024 41984 = true := by decide +kernel
theorem c10 : ckAll 1024 43008 = true := by decide +kernel
theorem c11 : ckAll 1024 44032 = true := by decide +kernel
theorem c12 : ckAll 1024 45056 = true := by decide +kernel
theorem c13 : ckAll 1024 46080 = true := by decide +kernel
theorem c14 : ckAll 1024 47104 = true := by decide +kernel
theorem c15 : ckAll 1024 48128 = true := by decide +kernel
theorem c16 : ckAll 1024 49152 = true := by decide +kernel
theorem c17 : ckAll 1024 50176 = true := by decide +kernel
theorem c18 : ckAll 1024 51200 = true := by decide +kernel
theorem c19 : ckAll 1024 52224 = true := by decide +kernel
theorem c20 : ckAll 1024 53248 = true := by decide +kernel
theorem c21 : ckAll 1024 54272 = true := by decide +kernel
theorem c22 : ckAll 1024 55296 = true := by decide +kernel
theorem c23 : ckAll 1024 56320 = true := by decide +kernel
theorem c24 : ckAll 1024 57344 = true := by decide +kernel
theorem c25 : ckAll 1024 58368 = true := by decide +kernel
theorem c26 : ckAll 1024 59392 = true := by decide +kernel
theorem c27 : ckAll 1024 60416 = true := by decide +kernel
theorem c28 : ckAll 1024 61440 = true := by decide +kernel
theorem c29 : ckAll 1024 62464 = true := by decide +kernel
theorem c30 : ckAll 1024 63488 = true := by decide +kernel
theorem c31 : ckAll 1024 64512 = true := by decide +kernel
theorem ck_all (q : Nat) (h0 : 32768 ≤ q) (h1 : q < 65536) : ck q = true := by
  have h2 : (q - 32768) / 1024 < 32 := by omega
  obtain ⟨j, hj⟩ : ∃ j, j = (q - 32768) / 1024 := ⟨_, rfl⟩
  have hq : q = 32768 + 1024 * j + (q - 32768 - 1024 * j) := by omega
  have hi : q - 32768 - 1024 * j < 1024 := by omega
  rw [hq]
  generalize q - 32768 - 1024 * j = i at hi
  have hj2 : j < 32 := by omega
  clear hj h0 h1 hq h2
  match j, hj2 with
  | 0, _ => exact ckAll_ok 1024 32768 c0 i hi
  | 1, _ => exact ckAll_ok 1024 33792 c1 i hi
  | 2, _ => exact ckAll_ok 1024 34816 c2 i hi
  | 3, _ => exact ckAll_ok 1024 35840 c3 i hi
  | 4, _ => exact ckAll_ok 1024 36864 c4 i hi
  | 5, _ => exact ckAll_ok 1024 37888 c5 i hi
  | 6, _ => exact ckAll_ok 1024 38912 c6 i hi
  | 7, _ => exact ckAll_ok 1024 39936 c7 i hi
  | 8, _ => exact ckAll_ok 1024 40960 c8 i hi
  | 9, _ => exact ckAll_ok 1024 41984 c9 i hi
  | 10, _ => exact ckAll_ok 1024 43008 c10 i hi
  | 11, _ => exact ckAll_ok 1024 44032 c11 i hi
  | 12, _ => exact ckAll_ok 1024 45056 c12 i hi
  | 13, _ => exact ckAll_ok 1024 46080 c13 i hi
  | 14, _ => exact ckAll_ok 1024 47104 c14 i hi
  | 15, _ => exact ckAll_ok 1024 48128 c15 i hi
  | 16, _ => exact ckAll_ok 1024 49152 c16 i hi
  | 17, _ => exact ckAll_ok 1024 50176 c17 i hi
  | 18, _ => exact ckAll_ok 1024 51200 c18 i hi
  | 19, _ => exact ckAll_ok 1024 52224 c19 i hi
  | 20, _ => exact ckAll_ok 1024 53248 c20 i hi
  | 21, _ => exact ckAll_ok 1024 54272 c21 i hi
  | 22, _ => exact ckAll_ok 1024 55296 c22 i hi
  | 23, _ => exact ckAll_ok 1024 56320 c23 i hi
  | 24, _ => exact ckAll_ok 1024 57344 c24 i hi
  | 25, _ => exact ckAll_ok 1024 58368 c25 i hi
  | 26, _ => exact ckAll_ok 1024 59392 c26 i hi
  | 27, _ => exact ckAll_ok 1024 60416 c27 i hi
  | 28, _ => exact ckAll_ok 1024 61440 c28 i hi
  | 29, _ => exact ckAll_ok 1024 62464 c29 i hi
  | 30, _ => exact ckAll_ok 1024 63488 c30 i hi
  | 31, _ => exact ckAll_ok 1024 64512 c31 i hi
  | n + 32, h => exact absurd h (by omega)

/-- behind any prime of 16 bits and any even number up to 20000 there is a prime -/
theorem dirich {q : Nat} (hq : IsP q) (q15 : 32768 ≤ q) (q16 : q < 65536) : ∃ m, 20000 ≤ m ∧ m < 20180 ∧ m % 2 = 0 ∧ IsP (m * q + 1) := by
  have h := ck_all q q15 q16
  unfold ck at h
  rw [Bool.or_eq_true, Bool.or_eq_true, beq_iff_eq] at h
  rcases h with h | h | h
  · rcases hq.2 2 (Nat.dvd_of_mod_eq_zero h) with h | h <;> omega
  · obtain ⟨e, e1, e2, e3⟩ := hd_ok 127 q 3 h
    rcases hq.2 e e3 with h | h <;> omega
  · obtain ⟨m, a1, a2, a3, a4⟩ := fw_ok hq q15 q16 90 20000 (by omega) (by omega) (by omega) h
    exact ⟨m, a1, by omega, a3, a4⟩

/-- f is a polynomial of this degree, with this first coefficient (told by differences) -/
def PD : Nat → Int → (Int → Int) → Prop
  | 0, c, f => ∀ x, f x = c
  | m + 1, c, f => ∀ a, ∃ g, PD m c g ∧ ∀ x, f x - f a = (x - a) * g x
theorem PD_mul : ∀ (m : Nat) (c k : Int) (g : Int → Int), PD m c g → PD (m + 1) c (fun x => x * g x + k)
  | 0, c, k, g, h => fun a => ⟨fun _ => c, fun _ => rfl, fun x => by
      have h1 := h x
      have h2 := h a
      simp only [h1, h2]
      grind⟩
  | m + 1, c, k, g, h => fun a => by
      obtain ⟨g', hg, e⟩ := h a
      refine ⟨fun x => x * g' x + g a, PD_mul m c (g a) g' hg, fun x => ?_⟩
      have := e x
      grind
theorem PD_pow : ∀ n : Nat, PD n 1 (fun x => x ^ n)
  | 0 => fun x => by simp
  | n + 1 => by
    have := PD_mul n 1 0 _ (PD_pow n)
    have e : (fun x : Int => x * x ^ n + 0) = fun x => x ^ (n + 1) := by
      funext x
      rw [Int.pow_succ]; grind
    rwa [e] at this
theorem PD_zeros {p : Nat} (hp : IsP p) : ∀ (m : Nat) (c : Int) (g : Int → Int), PD m c g → ¬ (p : Int) ∣ c → ∀ r : Nat → Int, (∀ i j, i ≤ m → j ≤ m → (p : Int) ∣ r i - r j → i = j) → ¬ ∀ i, i ≤ m → (p : Int) ∣ g (r i)
  | 0, c, g, h, hc, r, _, hz => by
    have := hz 0 (by omega)
    rw [h] at this
    exact hc this
  | m + 1, c, g, h, hc, r, hr, hz => by
    obtain ⟨g', hg, e⟩ := h (r (m + 1))
    refine PD_zeros hp m c g' hg hc r (fun i j hi hj => hr i j (by omega) (by omega)) (fun i hi => ?_)
    have h1 : (p : Int) ∣ (r i - r (m + 1)) * g' (r i) := by
      rw [← e]
      exact Int.dvd_sub (hz i (by omega)) (hz (m + 1) (by omega))
    rcases hp.int _ _ h1 with h2 | h2
    · have := hr i (m + 1) (by omega) (by omega) h2
      omega
    · exact h2
/-- not all numbers up to n + 1 are roots of unity -/
theorem some_root {p n : Nat} (hp : IsP p) (n0 : 0 < n) (np : n + 1 < p) : ∃ h, 2 ≤ h ∧ h ≤ n + 1 ∧ h ^ n % p ≠ 1 := by
  apply Classical.byContradiction
  intro hall
  have hall2 : ∀ h, 1 ≤ h → h ≤ n + 1 → h ^ n % p = 1 := fun h h1 h2 => by
    by_cases e : h = 1
    · rw [e, Nat.one_pow, Nat.mod_eq_of_lt (by omega)]
    · exact Classical.byContradiction fun hh => hall ⟨h, by omega, h2, hh⟩
  obtain ⟨m, rfl⟩ : ∃ m, n = m + 1 := ⟨n - 1, by omega⟩
  obtain ⟨g, hg, e⟩ := PD_pow (m + 1) ((m + 2 : Nat) : Int)
  refine PD_zeros hp m 1 g hg ?_ (fun i => ((i + 1 : Nat) : Int)) ?_ ?_
  · intro h
    have := Int.le_of_dvd (by omega) h
    omega
  · intro i j hi hj hd
    obtain ⟨t, ht⟩ := hd
    have hlt : ((i + 1 : Nat) : Int) - ((j + 1 : Nat) : Int) < p := by omega
    have hgt : -(p : Int) < ((i + 1 : Nat) : Int) - ((j + 1 : Nat) : Int) := by omega
    have : t = 0 := by
      rcases Int.lt_trichotomy t 0 with h | h | h
      · exfalso
        have : (p : Int) * t ≤ (p : Int) * (-1) := Int.mul_le_mul_of_nonneg_left (by omega) (by omega)
        omega
      · exact h
      · exfalso
        have : (p : Int) * 1 ≤ (p : Int) * t := Int.mul_le_mul_of_nonneg_left (by omega) (by omega)
        omega
    rw [this] at ht
    omega
  · intro i hi
    have h1 : (p : Int) ∣ (((i + 1 : Nat) : Int) ^ (m + 1)) - (((m + 2 : Nat) : Int) ^ (m + 1)) := by
      have a1 := hall2 (i + 1) (by omega) (by omega)
      have a2 := hall2 (m + 2) (by omega) (by omega)
      apply Int.dvd_of_emod_eq_zero
      rw [← Int.emod_eq_emod_iff_emod_sub_eq_zero]
      have b1 : (((i + 1 : Nat) : Int) ^ (m + 1)) % (p : Int) = 1 := by exact_mod_cast a1
      have b2 : (((m + 2 : Nat) : Int) ^ (m + 1)) % (p : Int) = 1 := by exact_mod_cast a2
      rw [b1, b2]
    rw [e] at h1
    rcases hp.int _ _ h1 with h2 | h2
    · exfalso
      obtain ⟨t, ht⟩ := h2
      have hlt : ((i + 1 : Nat) : Int) - ((m + 2 : Nat) : Int) < 0 := by omega
      have hgt : -(p : Int) < ((i + 1 : Nat) : Int) - ((m + 2 : Nat) : Int) := by omega
      have ht0 : t < 0 := by
        rcases Int.lt_or_le t 0 with h | h
        · exact h
        · exfalso
          have : 0 ≤ (p : Int) * t := Int.mul_nonneg (by omega) h
          omega
      have : (p : Int) * t ≤ (p : Int) * (-1) := Int.mul_le_mul_of_nonneg_left (by omega) (by omega)
      omega
    · exact h2
end Go.Proofs.YtohhkjamddojmaaGreatDoor.NumLaw
