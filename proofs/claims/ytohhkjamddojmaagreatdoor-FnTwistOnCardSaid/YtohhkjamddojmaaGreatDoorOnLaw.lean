/- A point is on a twist's curve just if its image is on the twist: plain numbers. -/
import Derived.Test.YtohhkjamddojmaaGreatDoorNumLaw
import Derived.Test.YtohhkjamddojmaaGreatDoorEcLaw
namespace Go.Proofs.YtohhkjamddojmaaGreatDoor.EcLaw
open NumLaw

theorem isP_of_trial {p : Nat} (h2 : 2 ≤ p) (hk : ∀ k, 2 ≤ k → k * k ≤ p → ¬ k ∣ p) : IsP p := by
  obtain ⟨r, hr, hrn, e⟩ := least_factor p h2
  rcases e with rfl | e
  · exact hr
  · exact absurd hrn (hk r hr.1 e)

theorem u_pow {p u : Int} (h : p ∣ u - 1) : ∀ n : Nat, p ∣ u ^ n - 1
  | 0 => by simp
  | n + 1 => lin2 u 1 (u_pow h n) h (by rw [Int.pow_succ]; grind)

/-- (x, y) is on the curve just if its image is on the twist's -/
theorem on_core {p tx ty x y z w b A B : Int} (h1 : p ∣ tx - x*z^2) (h2 : p ∣ ty - y*z^3) (hA : p ∣ A + 3*w^4) (hB : p ∣ B - b*w^6) (hw : p ∣ w*z - 1) :
    p ∣ (tx*tx*tx - (tx*2 + tx) + b) - ty*ty ↔ p ∣ y*y - (x*x*x + A*x + B) := by
  have u2 := u_pow hw 2
  have u4 := u_pow hw 4
  have u6 := u_pow hw 6
  have e1 : p ∣ ((tx*tx*tx - (tx*2 + tx) + b) - ty*ty) - (x^3*z^6 - 3*x*z^2 + b - y^2*z^6) :=
    lin2 (tx^2 + tx*(x*z^2) + x^2*z^4 - 3) (-(ty + y*z^3)) h1 h2 (by grind)
  have e2 : p ∣ (y*y - (x*x*x + A*x + B)) - (y^2 - (x^3 - 3*w^4*x + b*w^6)) := lin2 (-x) (-1) hA hB (by grind)
  constructor
  · intro h
    have h3 : p ∣ x^3*z^6 - 3*x*z^2 + b - y^2*z^6 := lin2 1 (-1) h e1 (by grind)
    have h4 : p ∣ y^2 - (x^3 - 3*w^4*x + b*w^6) := lin3 (-w^6) (x^3 - y^2) (-3*x*w^4) h3 u6 u2 (by grind)
    exact lin2 1 1 e2 h4 (by grind)
  · intro h
    have h4 : p ∣ y^2 - (x^3 - 3*w^4*x + b*w^6) := lin2 1 (-1) h e2 (by grind)
    have h3 : p ∣ x^3*z^6 - 3*x*z^2 + b - y^2*z^6 := lin3 (-z^6) (3*x*z^2) (-b) h4 u4 u6 (by grind)
    exact lin2 1 1 e1 h3 (by grind)
end Go.Proofs.YtohhkjamddojmaaGreatDoor.EcLaw
