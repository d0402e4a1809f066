/- The curve that is worked with by its twist, as a user has it. -/
import Derived.Test.YtohhkjamddojmaaGreatDoorTwR
import Derived.Test.YtohhkjamddojmaaGreatDoorTF
namespace Go.Proofs.YtohhkjamddojmaaGreatDoor.Big
open Go.RowKit
attribute [local go_sem] ptr
attribute [local irreducible] Sz

section
variable {R : Nat → Prop} {w0 w w' : World} {L L' : List (Nat × Int)}
/-- RcP, behind an interface -/
def RcI (R : Nat → Prop) (w0 : World) (tw : Value) (c zg : Nat) (L : List (Nat × Int)) (g p : Nat) (e : Ending) (w' : World) : Prop :=
  ∃ rc, RcP R w0 tw c zg L g p (.returned (ptr rc)) w' ∧ e = .returned (.iface 181 (ptr rc))
set_option maxHeartbeats 2000000 in
theorem zzNewO (h : Own R w0 w L) (ct c zg P ig iP g p : Nat) (hcP : w.cell? ⟨c, 0, .none⟩ = some (ptr P)) (hRc : R c) (hg : L[ig]? = some (zg, (g : Int))) (hP : L[iP]? = some (P, (p : Int))) (g0 : 0 < g) (gp : g < p) (p2 : 2 ≤ p) (pB : p < B64) (hgc : Int.gcd g p = 1) :
    Calls Tryz.prog 127 #[.iface 129 (ptr ct), ptr c, ptr zg] w (RcI R w0 (.iface 129 (ptr ct)) c zg L g p) := by
  have HC := Lib.hid (newrcurveI h ct c zg P ig iP g p hcP hRc hg hP g0 gp p2 pB hgc)
  clear h hcP hRc hg hP g0 gp p2 pB hgc
  unfold ptr at *
  go_enter Tryz.func127, Tryz.ntmps127
  go_wp2_with fail
  refine HC.out.mono ?_
  rintro e w1 h1
  obtain ⟨rc, n1, n2, n3, n4, zi, t, rfl, hh⟩ := h1
  have H1 := Lib.hid (show RcP R w0 (.iface 129 (ptr ct)) c zg L g p (.returned (ptr rc)) w1 from ⟨rc, n1, n2, n3, n4, zi, t, rfl, hh⟩)
  clear hh HC
  unfold ptr at *
  go_wp2_with fail
  go_ret
  exact ⟨rc, H1.out, rfl⟩

theorem rcp_kept {tw : Value} {c zg g p : Nat} {e : Ending} (h : RcP R w0 tw c zg L g p e w') : Kept R w0 w' := by
  obtain ⟨rc, n1, n2, n3, n4, zi, t, _, _, h3, _⟩ := h
  exact h3.kept
/-- what 'curve' gives: the curve, its parameters, its twist's; what is kept from here on (G) -/
def CurveP (R : Nat → Prop) (w0 : World) (L : List (Nat × Int)) (p b z : Nat) (e : Ending) (w' : World) : Prop :=
  ∃ (rc ct c qP qB pP pB pz n1 n2 n3 n4 zi t : Nat) (G : Nat → Prop), e = .returned (.iface 181 (ptr rc)) ∧ G rc ∧ G c ∧ G ct ∧
    w'.heap[rc]? = some (.cells #[.iface 129 (ptr ct), ptr c, ptr pz, ptr zi, ptr n1, ptr n2, ptr n3, ptr n4] 208) ∧
    w'.heap[c]? = some (.cells #[ptr pP, .pointer .none, ptr pB, .pointer .none, .pointer .none, .int .i64 0, .string ⟨#[]⟩] 184) ∧
    w'.heap[ct]? = some (.cells #[ptr qP, .pointer .none, ptr qB, .pointer .none, .pointer .none, .int .i64 0, .string ⟨#[]⟩] 184) ∧
    Own G w' w' ((n4, ((t ^ 3 % p : Nat) : Int)) :: (n3, ((t ^ 2 % p : Nat) : Int)) :: (n2, ((z ^ 3 % p : Nat) : Int)) :: (n1, ((z ^ 2 % p : Nat) : Int)) :: (pz, (z : Int)) :: (pB, (b : Int)) :: (pP, (p : Int)) :: (qB, (b : Int)) :: (qP, (p : Int)) :: L) ∧
    (∀ w'' M, Own G w' w'' M → Own R w0 w'' M) ∧ (∀ k, R k → G k) ∧ t < p ∧ (p : Int) ∣ t * z - 1

set_option maxHeartbeats 8000000 in
set_option maxRecDepth 100000 in
theorem curveO (h : Own R w0 w L) (p b z : Nat) (z0 : 0 < z) (zp : z < p) (bp : b < p) (p2 : 2 ≤ p) (p63 : p < 9223372036854775808) (hgc : Int.gcd z p = 1) :
    Calls Tryz.prog 88 #[.agg #[.int .i64 p, .int .i64 b, .int .i64 z]] w (CurveP R w0 L p b z) := by
  have hG := h.guard (.cells #[.int .i64 p, .int .i64 b, .int .i64 z] 57)
  have hnew : (w.alloc (.cells #[.int .i64 p, .int .i64 b, .int .i64 z] 57)).heap[w.heap.size]? = some (.cells #[.int .i64 p, .int .i64 b, .int .i64 z] 57) := heap_alloc_new _ _
  have c0 : (w.alloc (.cells #[.int .i64 p, .int .i64 b, .int .i64 z] 57)).cell? ⟨w.heap.size, 0, .none⟩ = some (.int .i64 p) := by unfold World.cell?; rw [hnew]; rfl
  have c1 : (w.alloc (.cells #[.int .i64 p, .int .i64 b, .int .i64 z] 57)).cell? ⟨w.heap.size, 1, .none⟩ = some (.int .i64 b) := by unfold World.cell?; rw [hnew]; rfl
  have c2 : (w.alloc (.cells #[.int .i64 p, .int .i64 b, .int .i64 z] 57)).cell? ⟨w.heap.size, 2, .none⟩ = some (.int .i64 z) := by unfold World.cell?; rw [hnew]; rfl
  have U0 : ∀ w'' M, Own (RO R w.heap.size) (w.alloc (.cells #[.int .i64 p, .int .i64 b, .int .i64 z] 57)) w'' M → Own R w0 w'' M := fun w'' M hh => Own.unguard (h.box _) hnew (by intro _ _ _ _ e; simp at e) hh
  have K5 := Lib.hid (fun (w' : World) (k : Kept (RO R w.heap.size) (w.alloc (.cells #[.int .i64 p, .int .i64 b, .int .i64 z] 57)) w') => (⟨k.cell (RO.self _ _) c0, k.cell (RO.self _ _) c1, k.cell (RO.self _ _) c2⟩ : w'.cell? ⟨w.heap.size, 0, .none⟩ = some (.int .i64 p) ∧ w'.cell? ⟨w.heap.size, 1, .none⟩ = some (.int .i64 b) ∧ w'.cell? ⟨w.heap.size, 2, .none⟩ = some (.int .i64 z)))
  have HU0 := Lib.hid U0
  have HLOW := Lib.hid (show ∀ k, R k → RO R w.heap.size k from fun k hk => .inl hk)
  have HG := Lib.hid hG
  have P63 := Lib.hid p63
  have Z63 := Lib.hid (Nat.lt_trans zp p63)
  have B63 := Lib.hid (Nat.lt_trans bp p63)
  have G0 := Lib.hid z0
  have GP := Lib.hid zp
  have P2 := Lib.hid p2
  have PB := Lib.hid (Nat.lt_trans p63 (by decide : 9223372036854775808 < B64))
  have GC := Lib.hid hgc
  generalize hR1 : RO R w.heap.size = R1 at *
  clear h hG z0 zp bp p2 p63 hgc hnew U0 hR1
  unfold ptr at *
  go_enter Tryz.func88, Tryz.ntmps88
  go_wp2_with fail
  go_region_held3 (fun w' => w'.cell? ⟨w.heap.size, 0, .none⟩ = some (.int .i64 p) ∧ w'.cell? ⟨w.heap.size, 1, .none⟩ = some (.int .i64 b) ∧ w'.cell? ⟨w.heap.size, 2, .none⟩ = some (.int .i64 z)) (go_keep) (first | (go_at_call 127; refine (zzNewO H3.out ct c pz pP 0 2 z p (H3.out.keep HC2.out (RO.self _ _)) (RO.self _ _) rfl rfl G0.out GP.out P2.out PB.out GC.out).mono ?_; rintro en w4 ⟨rc, h4, rfl⟩; have H4 := Lib.hid h4; obtain ⟨q0, q1, q2⟩ := K5.out _ (HK2.out.trans (rcp_kept h4).ro.ro); clear h4) | (go_at_call 78; refine (numO H2.out z Z63.out).mono ?_; rintro en w3 ⟨pz, rfl, h3, hr3⟩; have hk := HK2.out.trans h3.kept.ro.ro; obtain ⟨q0, q1, q2⟩ := K5.out _ hk; have HK3 := Lib.hid hk; have H3 := Lib.hid h3; clear h3 hr3 hk) | (go_at_call 77; refine (paramsO H1.out p b z P63.out B63.out).mono ?_; rintro en w2 ⟨c, pP, pB, rfl, hu2, hG2, nP2, nB2, hb2⟩; have hk := HK1.out.trans hu2.kept.ro; obtain ⟨q0, q1, q2⟩ := K5.out _ hk; have HK2 := Lib.hid hk; have H2 := Lib.hid hG2; have HU2 := Lib.hid hu2; have HB2 := Lib.hid hb2; have HC2 := Lib.hid (block_cell (k := 0) hb2 rfl); clear hu2 hG2 nP2 nB2 hb2 hk) | (go_at_call 77; refine (paramsO (HG.out.drew 1) p b z P63.out B63.out).mono ?_; rintro en w1 ⟨ct, qP, qB, rfl, hu1, hG1, nP1, nB1, hb1⟩; obtain ⟨q0, q1, q2⟩ := K5.out _ hu1.kept; have HK1 := Lib.hid hu1.kept; have H1 := Lib.hid hG1; have HU1 := Lib.hid hu1; have HB1 := Lib.hid hb1; clear hu1 hG1 nP1 nB1 hb1))
  all_goals
    obtain ⟨rc', n1, n2, n3, n4, zi, t, he, hrc, hO4, hG4, ht, htd⟩ := H4.out
    obtain rfl : rc = rc' := by simpa [ptr] using he
    have hp : ∀ n p l q, (.cells #[ptr pP, .pointer .none, ptr pB, .pointer .none, .pointer .none, .int .i64 0, .string ⟨#[]⟩] 184 : Obj) ≠ .cells #[.bool n, .slice p l q] 172 (0, 0) := by intro _ _ _ _ e; simp at e
    have hp1 : ∀ n p l q, (.cells #[ptr qP, .pointer .none, ptr qB, .pointer .none, .pointer .none, .int .i64 0, .string ⟨#[]⟩] 184 : Obj) ≠ .cells #[.bool n, .slice p l q] 172 (0, 0) := by intro _ _ _ _ e; simp at e
    have hct2 := HU2.out.block HB1.out (RO.self _ _)
    have FIN : CurveP R w0 L p b z (.returned (.iface 181 (ptr rc))) w4 :=
      ⟨rc, ct, c, qP, qB, pP, pB, pz, n1, n2, n3, n4, zi, t, _, rfl, RO.self _ _, .inl (RO.self _ _), .inl (.inl (RO.self _ _)), hrc, hO4.block HB2.out (RO.self _ _), hO4.block hct2 (.inl (RO.self _ _)), hG4,
        fun w'' M hh => HU0.out _ _ (Own.unguard HU1.out HB1.out hp1 (Own.unguard HU2.out HB2.out hp (Own.unguard hO4 hrc (by intro _ _ _ _ e; simp at e) hh))), fun k hk => .inl (.inl (.inl (HLOW.out k hk))), ht, htd⟩
    have HFIN := Lib.hid FIN
    clear FIN hp hp1 hct2 he hrc hO4 hG4 ht htd H4 HB1 HB2 HU1 HU2
    unfold ptr at *
    go_wp2_with fail
    go_ret
    exact HFIN.out
end
end Go.Proofs.YtohhkjamddojmaaGreatDoor.Big
