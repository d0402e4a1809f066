/- Is a point on a curve that is worked with by its twist? -/
import Derived.Test.YtohhkjamddojmaaGreatDoorJB
import Derived.Test.YtohhkjamddojmaaGreatDoorJC
namespace Go.Proofs.YtohhkjamddojmaaGreatDoor.Big
open Go.RowKit
attribute [local go_sem] ptr

theorem sz64 {n : Nat} (h : n < B64) : Sz 64 (n : Int) := by unfold Sz; unfold B64 at h; omega
attribute [local irreducible] Sz

theorem method_on (a : Addr) (w : World) : (method 437 129 (.pointer (some a)) "IsOnCurve").run Tryz.prog w = .ok (294, .pointer (some a)) w := by kernel_rfl
theorem method_ron (a : Addr) (w : World) : (method 437 181 (.pointer (some a)) "IsOnCurve").run Tryz.prog w = .ok (307, .pointer (some a)) w := by kernel_rfl
section
variable {R : Nat → Prop} {w0 w w' : World} {L L' : List (Nat × Int)}
set_option maxHeartbeats 4000000 in
set_option maxRecDepth 100000 in
theorem rOnO (h : Own R w0 w L) (rc ct c n1 n2 x y P Q B ix iy i1 i2 iP iQ iB : Nat) (X Y A C b p : Nat) (hc0 : w.cell? ⟨rc, 0, .none⟩ = some (.iface 129 (ptr ct))) (hc1 : w.cell? ⟨rc, 1, .none⟩ = some (ptr c)) (hc4 : w.cell? ⟨rc, 4, .none⟩ = some (ptr n1)) (hc5 : w.cell? ⟨rc, 5, .none⟩ = some (ptr n2))
    (hcP : w.cell? ⟨c, 0, .none⟩ = some (ptr P)) (hcQ : w.cell? ⟨ct, 0, .none⟩ = some (ptr Q)) (hcB : w.cell? ⟨ct, 2, .none⟩ = some (ptr B)) (hRr : R rc) (hRc : R c) (hRt : R ct)
    (hx : L[ix]? = some (x, (X : Int))) (hy : L[iy]? = some (y, (Y : Int))) (h1 : L[i1]? = some (n1, (A : Int))) (h2 : L[i2]? = some (n2, (C : Int))) (hP : L[iP]? = some (P, (p : Int))) (hQ : L[iQ]? = some (Q, (p : Int))) (hB : L[iB]? = some (B, (b : Int)))
    (p0 : 0 < p) (pB : p < B64) (sX : X < B64) (sY : Y < B64) (sA : A < B64) (sC : C < B64) (sb : b < B64) :
    Calls Tryz.prog 307 #[ptr rc, ptr x, ptr y] w (fun e w' => e = .returned (.bool (decide (polyV ((X * A % p : Nat) : Int) (b : Int) (p : Int) = ((Y * C % p : Nat) : Int) * ((Y * C % p : Nat) : Int) % (p : Int)))) ∧ Own R w0 w' L) := by
  obtain ⟨d, hd⟩ : ∃ d, d = decide (polyV ((X * A % p : Nat) : Int) (b : Int) (p : Int) = ((Y * C % p : Nat) : Int) * ((Y * C % p : Nat) : Int) % (p : Int)) := ⟨_, rfl⟩
  rw [← hd]
  have HSS := Lib.hid h
  have lt1 : ∀ n, n % p < B64 := fun n => Nat.lt_trans (Nat.mod_lt _ p0) pB
  have HT := Lib.hid (fun n => toTwistedO (h.since.drew n) rc c n1 n2 x y P ix iy i1 i2 iP (X : Int) (Y : Int) (A : Int) (C : Int) (p : Int) hc1 hc4 hc5 hcP hRr hRc hx hy h1 h2 hP (sz350 sX) (sz350 sY) (sz350 sA) (sz350 sC) ((sz350 pB).le (by decide)) (divOK_nat pB p0) (by omega))
  have HC := Lib.hid (fun (w1 : World) (tx ty : Nat) (o : Own R w w1 ((ty, ((Y * C % p : Nat) : Int)) :: (tx, ((X * A % p : Nat) : Int)) :: L)) => onCurveO o.since ct tx ty Q B 1 0 (iQ + 2) (iB + 2) ((X * A % p : Nat) : Int) ((Y * C % p : Nat) : Int) (b : Int) (p : Int) (o.kept.cell hRt hcQ) (o.kept.cell hRt hcB) hRt rfl rfl hQ hB (by omega) (Int.ofNat_lt.2 (Nat.mod_lt _ p0)) (by omega) (Int.ofNat_lt.2 (Nat.mod_lt _ p0)) (sz64 (lt1 _)) (sz64 (lt1 _)) (sz64 pB) (sz64 sb) (divOK_nat pB p0) (by omega))
  rw [← hd] at HC
  have K0 := Lib.hid (fun (w' : World) (k : Kept R w w') => (k.cell hRr hc0 : w'.cell? ⟨rc, 0, .none⟩ = some (.iface 129 (ptr ct))))
  have cI := hc0
  have E1 := Lib.hid (show ((X * A % p : Nat) : Int) = (X : Int) * (A : Int) % (p : Int) by push_cast; rfl)
  have E2 := Lib.hid (show ((Y * C % p : Nat) : Int) = (Y : Int) * (C : Int) % (p : Int) by push_cast; rfl)
  clear h hc0 hc1 hc4 hc5 hcP hcQ hcB hRr hRc hRt hx hy h1 h2 hP hQ hB p0 pB sX sY sA sC sb lt1 hd
  have hm := method_on
  unfold ptr at *
  go_enter Tryz.func307, Tryz.ntmps307
  go_wp2_with fail
  go_region_held3 (fun w' => w'.cell? ⟨rc, 0, .none⟩ = some (.iface 129 (.pointer (some ⟨ct, 0, .none⟩)))) (go_keep) (first | (go_at_call 294; refine (HC.out _ _ _ H1.out).mono ?_; rintro en w2 ⟨rfl, h2⟩; have cI := K0.out _ (H1.out.kept.trans h2.kept); have H2 := Lib.hid h2; clear h2) | (go_at_call 118; refine (HT.out _).mono ?_; rintro en w1 ⟨tx, ty, rfl, h1, hr1, hr2⟩; rw [← E1.out, ← E2.out] at h1; have cI := K0.out _ h1.kept; have H1 := Lib.hid h1; clear h1 hr1 hr2))
  all_goals
    have HF := Lib.hid (HSS.out.after (H1.out.after H2.out).tail.tail)
    go_wp2_with fail
    go_ret
    exact ⟨rfl, HF.out⟩
end
end Go.Proofs.YtohhkjamddojmaaGreatDoor.Big
