/- Powers modulo a small number. Which small numbers are prime. Which twists are right. Which twists are right: the law's condition. There and back: the twist's law in plain numbers. The law of twists: to the twist and back. -/
import Derived.Test.YtohhkjamddojmaaGreatDoorTH
import Derived.IntWalk
namespace Go.Proofs.YtohhkjamddojmaaGreatDoor.Big
open Go.RowKit
attribute [local go_sem] ptr
attribute [local irreducible] Sz

theorem wrapS {n : Int} (h : 0 ≤ n ∧ n < 9223372036854775808) : wrap64 n = n := by unfold wrap64; omega
theorem mulS (a b p : Nat) (ha : a < 1073741824) (hb : b < 1073741824) : (wrap64 ((a : Int) * b)).tmod p = ((a * b % p : Nat) : Int) := by
  have h : a * b < 1073741824 * 1073741824 := Nat.mul_lt_mul'' ha hb
  have e : (a : Int) * b = ((a * b : Nat) : Int) := by simp
  rw [wrapS (by rw [e]; omega), e]
  rw [Int.tmod_eq_emod_of_nonneg (by omega)]
  rfl

section
variable {R : Nat → Prop} {w0 w w' : World} {L L' : List (Nat × Int)}

set_option maxHeartbeats 4000000 in
set_option maxRecDepth 100000 in
theorem modS (n p : Nat) (hn : n < 9223372036854775808) (hp : 0 < p) (p63 : p < 9223372036854775808) :
    Calls Tryz.prog 79 #[.int .i64 n, .int .i64 p] w (fun e w' => e = .returned (.int .i64 (n % p : Nat)) ∧ w' = w) := by
  go_enter Tryz.func79, Tryz.ntmps79
  go_wp2_with fail
  go_ret
  exact ⟨rfl, rfl⟩

set_option maxHeartbeats 4000000 in
set_option maxRecDepth 100000 in
theorem power2 (b p : Nat) (hb : b < p) (hp : 1 < p) (p63 : p < 1073741824) :
    Calls Tryz.prog 32 #[.int .i64 b, .int .i64 2, .int .i64 p] w (fun e w' => e = .returned (.int .i64 (b ^ 2 % p : Nat)) ∧ w' = w) := by
  have HC : Hid (Calls Tryz.prog 79 #[.int .i64 b, .int .i64 p] w (fun e w' => e = .returned (.int .i64 b) ∧ w' = w)) := Lib.hid (by
    have := modS (w := w) b p (by omega) (by omega) (by omega)
    rw [Nat.mod_eq_of_lt hb] at this
    exact this)
  have e1 : (1 : Int) % (p : Int) = 1 := Int.emod_eq_of_lt (by omega) (by omega)
  obtain ⟨c, hc, hcd⟩ : ∃ c : Nat, (wrap64 ((b : Int) * b)).tmod p = c ∧ c = b * b % p := ⟨_, mulS b b p (by omega) (by omega), rfl⟩
  have cp : c < p := by rw [hcd]; exact Nat.mod_lt _ (by omega)
  obtain ⟨d, hd, -⟩ : ∃ d : Nat, (wrap64 ((c : Int) * c)).tmod p = d ∧ d = c * c % p := ⟨_, mulS c c p (by omega) (by omega), rfl⟩
  have hc1 : (c : Int).tmod p = c := by rw [Int.tmod_eq_emod_of_nonneg (by omega)]; exact Int.emod_eq_of_lt (by omega) (by omega)
  have hw : wrap64 ((c : Nat) : Int) = c := wrapS (by omega)
  have HD := Lib.hid (show c = b ^ 2 % p by rw [hcd, Nat.pow_two])
  clear hcd
  go_enter Tryz.func32, Tryz.ntmps32
  go_wp2_with fail
  refine HC.out.mono ?_
  rintro e w1 ⟨rfl, rfl⟩
  clear HC
  go_wp2_with fail
  refine wp_loop_rounds 3 ?_
  rw [rounds_succ]
  go_wp2_with fail
  rw [rounds_succ]
  go_wp2_with fail
  rw [rounds_succ]
  go_wp2_with fail
  go_ret
  exact ⟨show Ending.returned (.int .i64 (c : Int)) = _ by rw [HD.out], rfl⟩

set_option maxHeartbeats 4000000 in
set_option maxRecDepth 100000 in
theorem power3 (b p : Nat) (hb : b < p) (hp : 1 < p) (p63 : p < 1073741824) :
    Calls Tryz.prog 32 #[.int .i64 b, .int .i64 3, .int .i64 p] w (fun e w' => e = .returned (.int .i64 (b ^ 3 % p : Nat)) ∧ w' = w) := by
  have HC : Hid (Calls Tryz.prog 79 #[.int .i64 b, .int .i64 p] w (fun e w' => e = .returned (.int .i64 b) ∧ w' = w)) := Lib.hid (by
    have := modS (w := w) b p (by omega) (by omega) (by omega)
    rw [Nat.mod_eq_of_lt hb] at this
    exact this)
  have e1 : (1 : Int) % (p : Int) = 1 := Int.emod_eq_of_lt (by omega) (by omega)
  obtain ⟨c, hc, hcd⟩ : ∃ c : Nat, (wrap64 ((b : Int) * b)).tmod p = c ∧ c = b * b % p := ⟨_, mulS b b p (by omega) (by omega), rfl⟩
  have cp : c < p := by rw [hcd]; exact Nat.mod_lt _ (by omega)
  obtain ⟨d, hd, -⟩ : ∃ d : Nat, (wrap64 ((c : Int) * c)).tmod p = d ∧ d = c * c % p := ⟨_, mulS c c p (by omega) (by omega), rfl⟩
  obtain ⟨f, hf, hfd⟩ : ∃ f : Nat, (wrap64 ((b : Int) * c)).tmod p = f ∧ f = b * c % p := ⟨_, mulS b c p (by omega) (by omega), rfl⟩
  have hb1 : (b : Int).tmod p = b := by rw [Int.tmod_eq_emod_of_nonneg (by omega)]; exact Int.emod_eq_of_lt (by omega) (by omega)
  have hw : wrap64 ((b : Nat) : Int) = b := wrapS (by omega)
  have HD := Lib.hid (show f = b ^ 3 % p by rw [hfd, hcd, Nat.mul_mod, Nat.mod_mod, ← Nat.mul_mod]; congr 1; rw [show 3 = 2 + 1 from rfl, Nat.pow_succ, Nat.pow_two, Nat.mul_comm])
  clear hcd hfd
  go_enter Tryz.func32, Tryz.ntmps32
  go_wp2_with fail
  refine HC.out.mono ?_
  rintro e w1 ⟨rfl, rfl⟩
  clear HC
  go_wp2_with fail
  refine wp_loop_rounds 3 ?_
  rw [rounds_succ]
  go_wp2_with fail
  rw [rounds_succ]
  go_wp2_with fail
  rw [rounds_succ]
  go_wp2_with fail
  go_ret
  exact ⟨show Ending.returned (.int .i64 (f : Int)) = _ by rw [HD.out], rfl⟩
end
end Go.Proofs.YtohhkjamddojmaaGreatDoor.Big

namespace Go.Proofs.YtohhkjamddojmaaGreatDoor.Big
open Go.RowKit
attribute [local go_sem] ptr
attribute [local irreducible] Sz

section
variable {R : Nat → Prop} {w0 w w' : World} {L L' : List (Nat × Int)}

set_option maxHeartbeats 4000000 in
set_option maxRecDepth 100000 in
theorem isPrimeS (p : Nat) (h5 : 5 ≤ p) (hp : p ≤ 1048576) :
    Calls Tryz.prog 114 #[.int .i64 p] w (fun e w' => ∃ b : Bool, e = .returned (.bool b) ∧ w' = w ∧ (b = true → ∀ k, 2 ≤ k → k * k ≤ p → ¬ k ∣ p)) := by
  go_enter Tryz.func114, Tryz.ntmps114
  go_wp2_with fail
  have h2 : (2 : Int) ≤ (p : Int) := by omega
  go_loop [3] (fun i => ∃ d : Nat, i = .int .i64 d ∧ RowKit.Hid (2 ≤ d ∧ d ≤ 1025 ∧ ∀ k, 2 ≤ k → k < d → ¬ k ∣ p)) (fun i => (1100 - intOf i).toNat)
  case atStart => exact ⟨2, rfl, ⟨by omega, by omega, fun k h1 h2 => by omega⟩⟩
  case round =>
    obtain ⟨d, rfl, HD⟩ := hrel
    have hd0 : (0 : Int) < (d : Int) := by have := HD.out.1; omega
    obtain ⟨q, hq, hqd⟩ : ∃ q : Nat, wrap64 ((d : Int) * d) = q ∧ q = d * d := ⟨d * d, by
      have h : d * d < 1100 * 1100 := Nat.mul_lt_mul'' (by have := HD.out.2.1; omega) (by have := HD.out.2.1; omega)
      have e : (d : Int) * d = ((d * d : Nat) : Int) := by simp
      rw [e]; exact wrapS (by omega), rfl⟩
    obtain ⟨r, hr, hrd⟩ : ∃ r : Nat, (p : Int).tmod d = r ∧ r = p % d := ⟨p % d, by rw [Int.tmod_eq_emod_of_nonneg (by omega)]; rfl, rfl⟩
    have hs : wrap64 ((d : Int) + 1) = ((d + 1 : Nat) : Int) := by rw [wrapS (by have := HD.out.2.1; omega)]; rfl
    have HQ := Lib.hid hqd
    have HR := Lib.hid hrd
    clear hqd hrd
    by_cases c1 : (q : Int) ≤ (p : Int)
    · by_cases c2 : (r : Int) = 0
      · go_wp2_with fail
        go_ret
        exact .inl ⟨rfl, rfl⟩
      · go_wp2_with fail
        refine ⟨⟨d + 1, by rw [hs], ⟨by have := HD.out.1; omega, ?_, ?_⟩⟩, by rw [hs]; have := HD.out.2.1; show (1100 - ((d + 1 : Nat) : Int)).toNat < (1100 - (d : Int)).toNat; omega⟩
        · rcases Nat.lt_or_ge d 1025 with h | h
          · omega
          · have := Nat.mul_le_mul h h
            have := HQ.out
            omega
        · intro k k2 hk hkp
          rcases Nat.lt_or_ge k d with h | h
          · exact HD.out.2.2 k k2 h hkp
          · obtain rfl : k = d := by omega
            have := HR.out
            rw [Nat.mod_eq_zero_of_dvd hkp] at this
            exact c2 (by rw [this]; rfl)
    · go_wp2_with fail
      go_ret
      refine .inr ⟨rfl, rfl, fun k k2 kk hkp => ?_⟩
      have hlt : k < d := by
        rcases Nat.lt_or_ge k d with h | h
        · exact h
        · have := Nat.mul_le_mul h h
          have := HQ.out
          omega
      exact HD.out.2.2 k k2 hlt hkp
end
end Go.Proofs.YtohhkjamddojmaaGreatDoor.Big

namespace Go.Proofs.YtohhkjamddojmaaGreatDoor.Big
open Go.RowKit
attribute [local go_sem] ptr
attribute [local irreducible] Sz

section
variable {R : Nat → Prop} {w0 w w' : World} {L L' : List (Nat × Int)}

theorem quietC {f : FuncId} {args : Array Value} {v : Value} (h : ∀ w, Calls Tryz.prog f args w (fun e w' => e = .returned v ∧ w' = w)) (W : World) (n : Nat) : Calls Tryz.prog f args (W.drewN n) (fun e w'' => e = .returned v ∧ ∃ m, w'' = W.drewN m) := (h _).mono (fun _ _ ⟨he, hw⟩ => ⟨he, n, hw⟩)

set_option maxHeartbeats 4000000 in
set_option maxRecDepth 100000 in
theorem twistedO (h : Own R w0 w []) (p : Nat) (b z : Int) (h5 : 5 ≤ p) (hp : p < 65536) :
    Calls Tryz.prog 72 #[.agg #[.int .i64 p, .int .i64 b, .int .i64 z]] w (fun e w' => (∃ a : Nat, a = p - 3 ∧ e = .returned (.agg #[.int .i64 p, .int .i64 a, .int .i64 b])) ∧ Own R w0 w' []) := by
  have hs : wrap64 ((p : Int) - 3) = ((p - 3 : Nat) : Int) := by rw [wrapS (by omega)]; omega
  have H := Lib.hid h
  have hs2 : (p : Int) - 3 = ((p - 3 : Nat) : Int) := by omega
  clear h
  go_enter Tryz.func72, Tryz.ntmps72
  go_wp2_with fail
  simp [bodyPost, results, Tryz.results72, go_sem]
  exact (H.out.box _).box _

set_option maxHeartbeats 4000000 in
set_option maxRecDepth 100000 in
theorem rightO (h : Own R w0 w []) (p a : Nat) (b : Int) (h5 : 5 ≤ p) (hp : p < 65536) (ha : a < p) :
    Calls Tryz.prog 73 #[.agg #[.int .i64 p, .int .i64 a, .int .i64 b]] w (fun e w' => ∃ v : Bool, e = .returned (.bool v) ∧ Own R w0 w' [] ∧ (v = true → (0 ≤ b ∧ b < p) ∧ ∀ k, 2 ≤ k → k * k ≤ p → ¬ k ∣ p)) := by
  have H := Lib.hid h
  have i1 : ¬ (p : Int) < 5 := by omega
  have i2 : ¬ (1048576 : Int) < (p : Int) := by omega
  have i3 : ¬ (a : Int) < 0 := by omega
  have i4 : ¬ (p : Int) ≤ (a : Int) := by omega
  have HPR := Lib.hid (fun w : World => isPrimeS (w := w) p h5 (by omega))
  have P2 := Lib.hid (And.intro h5 hp)
  have HA := Lib.hid ha
  clear h ha h5 hp
  go_enter Tryz.func73, Tryz.ntmps73
  go_wp2_with fail
  refine (HPR.out _).mono ?_
  rintro e w1 ⟨v, rfl, rfl, hv⟩
  have HV := Lib.hid hv
  clear hv HPR
  rcases v with _ | _
  · go_wp2_with fail
    go_ret
    exact ⟨false, rfl, H.out.box _, (fun e => by cases e)⟩
  · by_cases b0 : b < 0
    · go_wp2_with fail
      go_ret
      exact ⟨false, rfl, H.out.box _, (fun e => by cases e)⟩
    · by_cases b1 : (p : Int) ≤ b
      · go_wp2_with fail
        go_ret
        exact ⟨false, rfl, H.out.box _, (fun e => by cases e)⟩
      · go_wp2_with fail
        obtain ⟨bn, rfl⟩ : ∃ bn : Nat, b = bn := ⟨b.toNat, by omega⟩
        have hA : a < p := HA.out
        obtain ⟨h5, hp⟩ := P2.out
        obtain ⟨c, hcp, hP3⟩ : ∃ c : Nat, c < p ∧ ∀ w, Calls Tryz.prog 32 #[.int .i64 a, .int .i64 3, .int .i64 p] w (fun e w' => e = .returned (.int .i64 c) ∧ w' = w) := ⟨_, Nat.mod_lt _ (by omega), fun w => power3 a p hA (by omega) (by omega)⟩
        obtain ⟨f, hf, hfp⟩ : ∃ f : Nat, (wrap64 ((bn : Int) * bn)).tmod p = f ∧ f < p := ⟨_, mulS bn bn p (by omega) (by omega), Nat.mod_lt _ (by omega)⟩
        obtain ⟨c4, hc4, hc4l⟩ : ∃ c4 : Nat, wrap64 (4 * (c : Int)) = c4 ∧ c4 < 1000000 := ⟨4 * c, by rw [wrapS (by omega)]; omega, by omega⟩
        obtain ⟨f27, hf27, hf27l⟩ : ∃ f27 : Nat, wrap64 (27 * (f : Int)) = f27 ∧ f27 < 10000000 := ⟨27 * f, by rw [wrapS (by omega)]; omega, by omega⟩
        obtain ⟨n, hn, hnl⟩ : ∃ n : Nat, wrap64 ((c4 : Int) + f27) = n ∧ n < 20000000 := ⟨c4 + f27, by rw [wrapS (by omega)]; omega, by omega⟩
        obtain ⟨m, hM⟩ : ∃ m : Nat, ∀ w, Calls Tryz.prog 79 #[.int .i64 n, .int .i64 p] w (fun e w' => e = .returned (.int .i64 m) ∧ w' = w) := ⟨_, fun w => modS n p (by omega) (by omega) (by omega)⟩
        have HP3 := Lib.hid hP3
        have HM := Lib.hid hM
        clear hP3 hM hfp hcp hc4l hf27l hnl hp h5
        go_quiet ((first | (go_at_call 32; exact quietC HP3.out _ _) | (go_at_call 79; exact quietC HM.out _ _)))
        go_wp2_with fail
        go_ret
        exact ⟨_, rfl, (H.out.box _).drew nq, (fun _ => ⟨⟨b0, b1⟩, HV.out trivial⟩)⟩
end
end Go.Proofs.YtohhkjamddojmaaGreatDoor.Big

namespace Go.Proofs.YtohhkjamddojmaaGreatDoor.Big
open Go.RowKit
attribute [local go_sem] ptr
attribute [local irreducible] Sz

section
variable {R : Nat → Prop} {w0 w w' : World} {L L' : List (Nat × Int)}

set_option maxHeartbeats 4000000 in
set_option maxRecDepth 100000 in
theorem isTwistO (h : Own R w0 w []) (p b z : Int) :
    Calls Tryz.prog 30 #[.agg #[.int .i64 p, .int .i64 b, .int .i64 z]] w (fun e w' => ∃ v : Bool, e = .returned (.bool v) ∧ Own R w0 w' [] ∧ (v = true → ∃ pn bn zn : Nat, p = pn ∧ b = bn ∧ z = zn ∧ 5 ≤ pn ∧ pn < 65536 ∧ 1 ≤ zn ∧ zn < pn ∧ bn < pn ∧ ∀ k, 2 ≤ k → k * k ≤ pn → ¬ k ∣ pn)) := by
  have H := Lib.hid h
  clear h
  by_cases c1 : p < 5
  · go_enter Tryz.func30, Tryz.ntmps30
    go_wp2_with fail
    go_ret
    exact .inl ⟨rfl, H.out.box _⟩
  by_cases c2 : 65536 ≤ p
  · go_enter Tryz.func30, Tryz.ntmps30
    go_wp2_with fail
    go_ret
    exact .inl ⟨rfl, H.out.box _⟩
  by_cases c3 : z < 1
  · go_enter Tryz.func30, Tryz.ntmps30
    go_wp2_with fail
    go_ret
    exact .inl ⟨rfl, H.out.box _⟩
  by_cases c4 : p ≤ z
  · go_enter Tryz.func30, Tryz.ntmps30
    go_wp2_with fail
    go_ret
    exact .inl ⟨rfl, H.out.box _⟩
  obtain ⟨pn, rfl⟩ : ∃ n : Nat, p = n := ⟨p.toNat, by omega⟩
  obtain ⟨zn, rfl⟩ : ∃ n : Nat, z = n := ⟨z.toNat, by omega⟩
  have PP := Lib.hid (show 5 ≤ pn ∧ pn < 65536 ∧ 1 ≤ zn ∧ zn < pn by omega)
  have HT := Lib.hid (twistedO (H.out.box (.cells #[.int .i64 pn, .int .i64 b, .int .i64 zn] 57)) pn b zn (by omega) (by omega))
  have g1 : ((pn : Int) ≥ 5) := by omega
  have g2 : ((pn : Int) < 65536) := by omega
  have g3 : ((zn : Int) ≥ 1) := by omega
  have g4 : ((zn : Int) < pn) := by omega
  clear c1 c2 c3 c4
  go_enter Tryz.func30, Tryz.ntmps30
  go_wp2_with fail
  refine HT.out.mono ?_
  rintro e w1 ⟨⟨a, had, rfl⟩, h1⟩
  have HR := Lib.hid (rightO h1 pn a b PP.out.1 PP.out.2.1 (by have := PP.out; omega))
  clear h1 had HT
  go_wp2_with fail
  refine HR.out.mono ?_
  rintro e w2 ⟨v, rfl, h2, hv⟩
  have H2 := Lib.hid h2
  have HV := Lib.hid hv
  clear h2 hv HR
  go_wp2_with fail
  have key : v = true → ∃ pn' bn zn' : Nat, (pn : Int) = pn' ∧ b = bn ∧ (zn : Int) = zn' ∧ 5 ≤ pn' ∧ pn' < 65536 ∧ 1 ≤ zn' ∧ zn' < pn' ∧ bn < pn' ∧ ∀ k, 2 ≤ k → k * k ≤ pn' → ¬ k ∣ pn' := by
    intro e
    obtain ⟨⟨b0, b1⟩, hk⟩ := HV.out e
    exact ⟨pn, b.toNat, zn, rfl, by omega, rfl, PP.out.1, PP.out.2.1, PP.out.2.2.1, PP.out.2.2.2, by omega, hk⟩
  have KEY := Lib.hid key
  clear key
  go_ret
  exact ⟨v, rfl, H2.out, KEY.out⟩
end
end Go.Proofs.YtohhkjamddojmaaGreatDoor.Big

namespace Go.Proofs.YtohhkjamddojmaaGreatDoor.Big
open Go.RowKit

theorem pow_one_mod {p q n : Nat} (h : q % p = 1 % p) : q ^ n % p = 1 % p := by
  rw [Nat.pow_mod, h, ← Nat.pow_mod, Nat.one_pow]
theorem there_back {p t z x n : Nat} (hx : x < p) (ht : (p : Int) ∣ (t : Int) * z - 1) : (x * (z ^ n % p) % p) * (t ^ n % p) % p = x := by
  have h1 : (z * t) % p = 1 % p := by
    have e : ((t * z : Nat) : Int) % (p : Int) = (1 : Int) % p := Int.emod_eq_emod_iff_emod_sub_eq_zero.2 (Int.emod_eq_zero_of_dvd (by simpa using ht))
    have e2 : ((t * z % p : Nat) : Int) = ((1 % p : Nat) : Int) := by rw [Int.natCast_emod, e]; rfl
    rw [Nat.mul_comm]
    exact Int.ofNat_inj.1 e2
  have h2 : (x * (z ^ n % p) % p) * (t ^ n % p) % p = x * (z * t) ^ n % p := by
    rw [← Nat.mul_mod, Nat.mul_mod (x * (z ^ n % p)) (t ^ n) p, Nat.mul_mod x (z ^ n % p) p, Nat.mod_mod, ← Nat.mul_mod x, ← Nat.mul_mod, Nat.mul_pow, Nat.mul_assoc]
  rw [h2, Nat.mul_mod, pow_one_mod h1, ← Nat.mul_mod, Nat.mul_one, Nat.mod_eq_of_lt hx]
theorem coprime_of {p z : Nat} (hp : 5 ≤ p) (z1 : 1 ≤ z) (zp : z < p) (hk : ∀ k, 2 ≤ k → k * k ≤ p → ¬ k ∣ p) : Int.gcd z p = 1 := by
  have hg : Nat.gcd z p = 1 := by
    have h0 : 0 < Nat.gcd z p := Nat.gcd_pos_of_pos_left _ z1
    rcases Nat.lt_or_ge (Nat.gcd z p) 2 with h | h
    · omega
    · exfalso
      obtain ⟨q, hq⟩ := Nat.gcd_dvd_right z p
      have hle : Nat.gcd z p ≤ z := Nat.gcd_le_left _ z1
      rcases Nat.lt_or_ge p (Nat.gcd z p * Nat.gcd z p) with h2 | h2
      · have hqg : q < Nat.gcd z p := by
          rcases Nat.lt_or_ge q (Nat.gcd z p) with h3 | h3
          · exact h3
          · have := Nat.mul_le_mul_left (Nat.gcd z p) h3
            omega
        have q2 : 2 ≤ q := by
          rcases Nat.lt_or_ge q 2 with h3 | h3
          · have : q = 0 ∨ q = 1 := by omega
            rcases this with rfl | rfl
            · omega
            · omega
          · exact h3
        refine hk q q2 ?_ ⟨Nat.gcd z p, by rw [Nat.mul_comm]; exact hq⟩
        have := Nat.mul_le_mul_right q (Nat.le_of_lt hqg)
        omega
      · exact hk _ h h2 (Nat.gcd_dvd_right z p)
  rw [← hg]; rfl
end Go.Proofs.YtohhkjamddojmaaGreatDoor.Big

namespace Go.Proofs.YtohhkjamddojmaaGreatDoor.Big
open Go.RowKit
attribute [local go_sem] ptr
attribute [local irreducible] Sz

section
variable {R : Nat → Prop} {w0 w w' : World} {L L' : List (Nat × Int)}

theorem wrapI (n : Int) : IntKind.i64.wrap n = wrap64 n := by rw [IntKind.wrap_i64]; unfold wrap64; rfl
theorem Own.three {v0 v1 v2 : Value} {T : TypeId} (h : Own (RO R w.heap.size) (w.alloc (.cells #[v0, v1, v2] T)) w' L) : w'.cell? ⟨w.heap.size, 0, .none⟩ = some v0 ∧ w'.cell? ⟨w.heap.size, 1, .none⟩ = some v1 ∧ w'.cell? ⟨w.heap.size, 2, .none⟩ = some v2 := by
  have hb := h.block (heap_alloc_new w (.cells #[v0, v1, v2] T)) (RO.self _ _)
  exact ⟨block_cell hb rfl, block_cell hb rfl, block_cell hb rfl⟩

set_option maxHeartbeats 4000000 in
set_option maxRecDepth 100000 in
theorem lawO (h : Own R w0 w []) (p b z x y : Int) :
    Calls Tryz.prog 7 #[.agg #[.int .i64 p, .int .i64 b, .int .i64 z], .int .i64 x, .int .i64 y] w (fun e w' => e = .returned (.bool true) ∧ Own R w0 w' []) := by
  have U := Lib.hid (fun (w' : World) (M : List (Nat × Int)) (hh : Own (RO R w.heap.size) (w.alloc (.cells #[.int .i64 p, .int .i64 b, .int .i64 z] 57)) w' M) =>
    Own.unguard (h.box (.cells #[.int .i64 p, .int .i64 b, .int .i64 z] 57)) (heap_alloc_new w _) (by intro _ _ _ _ e; simp at e) hh)
  have G := Lib.hid (h.guard (.cells #[.int .i64 p, .int .i64 b, .int .i64 z] 57))
  have HT := Lib.hid (isTwistO G.out p b z)
  clear h
  go_enter Tryz.func7, Tryz.ntmps7
  go_wp2_with fail
  refine HT.out.mono ?_
  rintro e w1 ⟨v, rfl, h1, hv⟩
  have H1 := Lib.hid h1
  obtain ⟨q0, q1, q2⟩ := h1.three
  have HV := Lib.hid hv
  clear h1 hv HT
  rcases v with _ | _
  · go_wp2_with fail
    go_ret
    exact ⟨rfl, U.out _ _ H1.out⟩
  obtain ⟨pn, bn, zn, rfl, rfl, rfl, p5, pB, z1, zp, bp, hk⟩ := HV.out rfl
  have PP := Lib.hid (And.intro p5 (And.intro pB (And.intro z1 (And.intro zp bp))))
  have HK := Lib.hid hk
  clear HV p5 pB z1 zp bp hk
  by_cases c1 : x < 0
  · go_wp2_with fail
    go_ret
    exact ⟨rfl, U.out _ _ H1.out⟩
  by_cases c2 : (pn : Int) ≤ x
  · go_wp2_with fail
    go_ret
    exact ⟨rfl, U.out _ _ H1.out⟩
  by_cases c3 : y < 0
  · go_wp2_with fail
    go_ret
    exact ⟨rfl, U.out _ _ H1.out⟩
  by_cases c4 : (pn : Int) ≤ y
  · go_wp2_with fail
    go_ret
    exact ⟨rfl, U.out _ _ H1.out⟩
  obtain ⟨xn, rfl⟩ : ∃ n : Nat, x = n := ⟨x.toNat, by omega⟩
  obtain ⟨yn, rfl⟩ : ∃ n : Nat, y = n := ⟨y.toNat, by omega⟩
  have g1 : (0 : Int) ≤ (xn : Int) := by omega
  have g2 : (xn : Int) < pn := by omega
  have g3 : (0 : Int) ≤ (yn : Int) := by omega
  have g4 : (yn : Int) < pn := by omega
  have PX := Lib.hid (show xn < pn ∧ yn < pn by omega)
  have GC := Lib.hid (coprime_of PP.out.1 PP.out.2.2.1 PP.out.2.2.2.1 HK.out)
  clear c1 c2 c3 c4 HK
  have C2 := Lib.hid (twistToO H1.out pn bn zn xn yn PP.out.2.2.1 PP.out.2.2.2.1 PP.out.2.2.2.2 (by have := PP.out.1; omega) (by have := PP.out.2.1; omega) GC.out PX.out.1 PX.out.2)
  go_wp2_with fail
  refine C2.out.mono ?_
  rintro e w2 ⟨t, X, Y, ⟨ht, htd, hX, hY⟩, rfl, h2⟩
  have H2 := Lib.hid h2
  obtain ⟨q0, q1, q2⟩ := h2.three
  clear C2 h2
  obtain ⟨m2, hm2, HP2⟩ : ∃ m2 : Nat, m2 = zn ^ 2 % pn ∧ RowKit.Hid (∀ w, Calls Tryz.prog 32 #[.int .i64 zn, .int .i64 2, .int .i64 pn] w (fun e w' => e = .returned (.int .i64 m2) ∧ w' = w)) := ⟨_, rfl, Lib.hid (fun w => power2 zn pn PP.out.2.2.2.1 (by have := PP.out.1; omega) (by have := PP.out.2.1; omega))⟩
  obtain ⟨m3, hm3, HP3⟩ : ∃ m3 : Nat, m3 = zn ^ 3 % pn ∧ RowKit.Hid (∀ w, Calls Tryz.prog 32 #[.int .i64 zn, .int .i64 3, .int .i64 pn] w (fun e w' => e = .returned (.int .i64 m3) ∧ w' = w)) := ⟨_, rfl, Lib.hid (fun w => power3 zn pn PP.out.2.2.2.1 (by have := PP.out.1; omega) (by have := PP.out.2.1; omega))⟩
  have hp0 : 0 < pn := by have := PP.out.1; omega
  have m2l : m2 < pn := by rw [hm2]; exact Nat.mod_lt _ hp0
  have m3l : m3 < pn := by rw [hm3]; exact Nat.mod_lt _ hp0
  have e2 : (wrap64 ((xn : Int) * m2)).tmod pn = X := by rw [mulS xn m2 pn (by have := PX.out.1; have := PP.out.2.1; omega) (by have := PP.out.2.1; omega), hX, hm2]
  have e3 : (wrap64 ((yn : Int) * m3)).tmod pn = Y := by rw [mulS yn m3 pn (by have := PX.out.2; have := PP.out.2.1; omega) (by have := PP.out.2.1; omega), hY, hm3]
  have e2w : (IntKind.i64.wrap ((xn : Int) * m2)).tmod pn = X := by rw [wrapI]; exact e2
  have e3w : (IntKind.i64.wrap ((yn : Int) * m3)).tmod pn = Y := by rw [wrapI]; exact e3
  have HX := Lib.hid (show X < pn ∧ Y < pn by rw [hX, hY]; exact ⟨Nat.mod_lt _ hp0, Nat.mod_lt _ hp0⟩)
  have EX := Lib.hid (And.intro hX hY)
  have hpn : (5 : Int) ≤ (pn : Int) := by have := PP.out.1; omega
  have hpz : ¬ pn = 0 := by have := PP.out.1; omega
  clear hX hY ht htd hm2 hm3 m2l m3l hp0
  go_wp2_with fail
  refine wp_region_quiet_lit (by kernel_rfl) (by kernel_rfl) ?_
  iterate 20 (quiet_step ((go_at_call 32; exact quietC HP2.out _ _)))
  repeat (quiet_step ((go_at_call 32; exact quietC HP3.out _ _)))
  refine wpQuiet_nil ?_
  intro _ hw'
  obtain ⟨nq, hw''⟩ := hw'
  subst hw''
  have C3 := Lib.hid (twistFromO (H2.out.drew nq) pn bn zn X Y PP.out.2.2.1 PP.out.2.2.2.1 PP.out.2.2.2.2 (by have := PP.out.1; omega) (by have := PP.out.2.1; omega) GC.out HX.out.1 HX.out.2)
  clear e2 e3 e2w e3w HP2 HP3 GC
  go_wp2_with fail
  refine C3.out.mono ?_
  rintro e w3 ⟨t2, X2, Y2, ⟨ht, htd, hX2, hY2⟩, rfl, h3⟩
  have hx : X2 = xn := by rw [hX2, EX.out.1]; exact there_back PX.out.1 htd
  have hy : Y2 = yn := by rw [hY2, EX.out.2]; exact there_back PX.out.2 htd
  subst hx hy
  have H3 := Lib.hid (U.out _ _ h3)
  clear h3 hX2 hY2 ht htd C3
  go_wp2_with fail
  go_ret
  exact ⟨rfl, H3.out⟩
end
end Go.Proofs.YtohhkjamddojmaaGreatDoor.Big
