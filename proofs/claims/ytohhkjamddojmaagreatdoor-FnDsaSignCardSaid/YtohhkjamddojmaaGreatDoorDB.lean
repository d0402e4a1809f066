/- A DSA key of small numbers, as the specification makes it. -/
import Derived.Test.YtohhkjamddojmaaGreatDoorSA
import Derived.Test.YtohhkjamddojmaaGreatDoorOM
import Derived.Test.YtohhkjamddojmaaGreatDoorDN
namespace Go.Proofs.YtohhkjamddojmaaGreatDoor.Big
open Go.RowKit
attribute [local go_sem] ptr

/-- the numbers of a key -/
structure KeyN (P Q G Y X : Nat) : Prop where
  q : NumLaw.IsP Q
  q15 : 32768 ≤ Q
  q16 : Q < 65536
  p : NumLaw.IsP P
  p31 : P < 2147483648
  qp : Q < P
  g2 : 2 ≤ G
  gp : G < P
  y : Y = G ^ X % P
  x1 : 1 ≤ X
  xq : X < Q
  gq : G ^ Q % P = 1
section
variable {R : Nat → Prop} {w0 w w' : World} {L L' : List (Nat × Int)}
/-- the key that is being made, and the result to come -/
def St (R : Nat → Prop) (w0 : World) (rb : Nat) (cs : Array Value) (wr : World) : Prop :=
  Own R w0 wr [] ∧ wr.heap[rb]? = some (.cells #[.int .i64 0, .int .i64 0, .int .i64 0, .int .i64 0, .int .i64 0] 68) ∧ wr.heap[rb + 1]? = some (.cells cs 68)
theorem setc {w : World} {b : Nat} {cs : Array Value} {T : TypeId} (h : w.heap[b]? = some (.cells cs T)) (i : Nat) (v : Value) : (w.setCell ⟨b, i, .none⟩ v).heap[b]? = some (.cells (cs.setIfInBounds i v) T) := by
  simp only [World.setCell, Array.getElem?_modify, if_true]
  rw [h]
  simp
theorem St.set {rb : Nat} {cs : Array Value} {wr : World} (h : St R w0 rb cs wr) (hR : ¬ R (rb + 1)) (i : Nat) (v : Value) : St R w0 rb (cs.setIfInBounds i v) (wr.setCell ⟨rb + 1, i, .none⟩ v) :=
  ⟨h.1.turned ((Grow.of (grown_set wr (rb + 1) i v)).weaken (fun k _ e hk => hR (Option.some.inj e ▸ hk))), (((grown_set wr (rb + 1) i v).block rb (Array.getElem?_eq_some_iff.1 h.2.1).1 (by intro e; have := Option.some.inj e; omega)).trans h.2.1), setc h.2.2 i v⟩
def cellNat (w : World) (a : Addr) : Nat := (intOf ((w.cell? a).getD .nilIface)).toNat
theorem cellNat_of {w : World} {b i n : Nat} {cs : Array Value} {T : TypeId} (h : w.heap[b]? = some (.cells cs T)) (hc : cs[i]? = some (.int .i64 (n : Nat))) : cellNat w ⟨b, i, .none⟩ = n := by
  unfold cellNat World.cell?
  rw [h]
  simp [hc, intOf]
theorem noDiv_of {n : Nat} (h : NumLaw.IsP n) : NoDiv n := ⟨h.1, fun k k2 kk hd => by
  rcases h.2 k hd with e | e
  · omega
  · subst e
    have := Nat.mul_le_mul_left k k2
    have := h.1
    omega⟩
theorem of_noDiv {n : Nat} (h : NoDiv n) : NumLaw.IsP n := EcLaw.isP_of_trial h.1 h.2
theorem p65521 : NumLaw.IsP 65521 := NumLaw.small 65521 260 (by decide +kernel)
def KeyP (R : Nat → Prop) (w0 : World) (e : Ending) (w' : World) : Prop :=
  ∃ P Q G Y X : Nat, e = .returned (.agg #[.int .i64 P, .int .i64 Q, .int .i64 G, .int .i64 Y, .int .i64 X]) ∧ Own R w0 w' [] ∧ KeyN P Q G Y X
set_option maxHeartbeats 8000000 in
set_option maxRecDepth 100000 in
theorem newDsa (h : Own R w0 w []) (a b x : Int) : Calls Tryz.prog 82 #[.int .i64 a, .int .i64 b, .int .i64 x] w (KeyP R w0) := by
  have HA := Lib.hid (fun w => modI a 30000 w (by decide) (by decide))
  obtain ⟨a0, ha0⟩ : ∃ a0 : Nat, a % ((30000 : Nat) : Int) = a0 := ⟨(a % ((30000 : Nat) : Int)).toNat, by have := Int.emod_nonneg a (show ((30000 : Nat) : Int) ≠ 0 by decide); omega⟩
  have a0l : a0 < 30000 := by have := Int.emod_lt_of_pos a (show (0 : Int) < ((30000 : Nat) : Int) by decide); omega
  rw [ha0] at HA
  have HR0 := Lib.hid (show ¬ R w.heap.size from fun e => by have := h.old e; omega)
  have HR := Lib.hid (show ¬ R (w.heap.size + 1) from fun e => by have := h.old e; omega)
  have hs0 : St R w0 w.heap.size #[.int .i64 0, .int .i64 (32768 + (a0 : Int)), .int .i64 0, .int .i64 0, .int .i64 0] ((w.alloc (.cells #[.int .i64 0, .int .i64 0, .int .i64 0, .int .i64 0, .int .i64 0] 68)).alloc (.cells #[.int .i64 0, .int .i64 (32768 + (a0 : Int)), .int .i64 0, .int .i64 0, .int .i64 0] 68)) := by
    have s1 : (w.alloc (.cells #[.int .i64 0, .int .i64 0, .int .i64 0, .int .i64 0, .int .i64 0] 68)).heap.size = w.heap.size + 1 := Array.size_push _
    refine ⟨(h.box _).box _, ?_, ?_⟩
    · exact (grown_alloc (w.alloc (.cells #[.int .i64 0, .int .i64 0, .int .i64 0, .int .i64 0, .int .i64 0] 68)) _ .none).block _ (by omega) (by simp) |>.trans (heap_alloc_new w _)
    · have := heap_alloc_new (w.alloc (.cells #[.int .i64 0, .int .i64 0, .int .i64 0, .int .i64 0, .int .i64 0] 68)) (.cells #[.int .i64 0, .int .i64 (32768 + (a0 : Int)), .int .i64 0, .int .i64 0, .int .i64 0] 68)
      rwa [s1] at this
  have HS0 := Lib.hid hs0
  have HPR := Lib.hid (fun n w hn => primeI n w hn)
  clear h ha0 hs0
  go_enter Tryz.func82, Tryz.ntmps82
  go_wp2_with fail
  refine (HA.out _).mono ?_
  rintro e w1 ⟨rfl, rfl⟩
  go_wp2_with fail
  obtain ⟨W, hW⟩ : ∃ W, W = (w.alloc (.cells #[.int .i64 0, .int .i64 0, .int .i64 0, .int .i64 0, .int .i64 0] 68)).alloc (.cells #[.int .i64 0, .int .i64 (32768 + (a0 : Int)), .int .i64 0, .int .i64 0, .int .i64 0] 68) := ⟨_, rfl⟩
  rw [← hW] at HS0
  simp only [← hW]
  clear hW
  go_loopw [15] (fun _ wr => ∃ q : Nat, 32768 ≤ q ∧ q ≤ 65521 ∧ RowKit.Hid (St R w0 w.heap.size #[.int .i64 0, .int .i64 (q : Nat), .int .i64 0, .int .i64 0, .int .i64 0] wr)) (fun _ wr => 65536 - cellNat wr ⟨w.heap.size + 1, 1, .none⟩)
  case atStart => exact ⟨32768 + a0, by omega, by omega, HS0.out⟩
  case round =>
    obtain ⟨q, q1, q2, HS⟩ := hrel
    have c1 := block_cell (k := 1) HS.out.2.2 rfl
    have f1 := block_free (o := 1) HS.out.2.2
    have HP := Lib.hid (HPR.out q wr (by omega))
    go_wp2_with fail
    refine HP.out.mono ?_
    rintro e w1 ⟨⟨v, rfl, hv⟩, rfl⟩
    have HV := Lib.hid hv
    clear hv HP
    rcases v with _ | _
    · have hne : q ≠ 65521 := by
        rintro rfl
        have := HV.out.2 (noDiv_of p65521)
        cases this
      have h2 : St R w0 w.heap.size #[.int .i64 0, .int .i64 ((q + 1 : Nat) : Int), .int .i64 0, .int .i64 0, .int .i64 0] (w1.setCell ⟨w.heap.size + 1, 1, .none⟩ (.int .i64 ((q : Int) + 1))) := HS.out.set HR.out 1 (.int .i64 ((q : Int) + 1))
      have HM := Lib.hid (show 65536 - cellNat (w1.setCell ⟨w.heap.size + 1, 1, .none⟩ (.int .i64 ((q : Int) + 1))) ⟨w.heap.size + 1, 1, .none⟩ < 65536 - cellNat w1 ⟨w.heap.size + 1, 1, .none⟩ by
        rw [cellNat_of (n := q + 1) h2.2.2 rfl, cellNat_of (n := q) HS.out.2.2 rfl]; omega)
      have H2 := Lib.hid h2
      clear h2
      go_wp2_with fail
      go_roundw
      case rel => exact ⟨q + 1, by omega, by omega, H2.out⟩
      case measure => exact HM.out
    · have HQ := Lib.hid (of_noDiv (HV.out.1 rfl))
      have q16 : q < 65536 := by omega
      obtain ⟨m, m1, m2, m3, hm⟩ := NumLaw.dirich HQ.out q1 q16
      have HMP := Lib.hid hm
      obtain ⟨b0, hb0⟩ : ∃ b0 : Nat, b % ((10000 : Nat) : Int) = b0 := ⟨(b % ((10000 : Nat) : Int)).toNat, by have := Int.emod_nonneg b (show ((10000 : Nat) : Int) ≠ 0 by decide); omega⟩
      have b0l : b0 < 10000 := by have := Int.emod_lt_of_pos b (show (0 : Int) < ((10000 : Nat) : Int) by decide); omega
      have HB := Lib.hid (modI b 10000 w1 (by decide) (by decide))
      rw [hb0] at HB
      clear HV hm hb0 q2
      go_wp2_with fail
      refine HB.out.mono ?_
      rintro e w2 ⟨rfl, rfl⟩
      go_wp2_with fail
      have n0 : (2 + 2 * (b0 : Int)) = ((2 + 2 * b0 : Nat) : Int) := by omega
      have N0 := Lib.hid n0
      clear n0
      go_loop [8] (fun s8 => ∃ n : Nat, s8 = .int .i64 n ∧ 2 ≤ n ∧ n ≤ m ∧ n % 2 = 0) (fun s8 => m + 5 - (intOf s8).toNat)
      case atStart => exact ⟨2 + 2 * b0, by rw [N0.out], by omega, by omega, by omega⟩
      case round =>
        obtain ⟨n, rfl, n2, nm, ne⟩ := hrel
        obtain ⟨t, ht⟩ : ∃ t, t = n * q := ⟨_, rfl⟩
        have htl : t < 1400000000 := by
          rw [ht]
          have := Nat.mul_le_mul (show n ≤ 20180 by omega) (Nat.le_of_lt q16)
          omega
        have htb : 2 * 32768 ≤ t := by rw [ht]; exact Nat.mul_le_mul n2 q1
        have hw : wrap64 ((n : Int) * (q : Int)) = (t : Int) := by
          rw [show (n : Int) * (q : Int) = ((n * q : Nat) : Int) by simp, ← ht]
          exact w64_in (by omega)
        have HP : RowKit.Hid (Calls Tryz.prog 114 #[.int .i64 ((t : Int) + 1)] w2 (PrimeP (t + 1) w2)) := Lib.hid (HPR.out (t + 1) w2 (by omega))
        have HTQ := Lib.hid ht
        clear ht
        go_wp2_with fail
        refine HP.out.mono ?_
        rintro e w3 ⟨⟨v, rfl, hv⟩, rfl⟩
        have HV := Lib.hid hv
        clear hv HP
        rcases v with _ | _
        · have hnm : n ≠ m := by
            rintro rfl
            have := HV.out.2 (by rw [HTQ.out]; exact noDiv_of HMP.out)
            cases this
          go_wp2_with fail
          go_round
          case rel => exact ⟨n + 2, by go_num, by omega, by omega, by omega⟩
          case measure => simp [intOf]; omega
        · have HPP := Lib.hid (of_noDiv (HV.out.1 rfl))
          obtain ⟨hr, h1, h2, h3⟩ := NumLaw.some_root (n := n) HPP.out (by omega) (by
            rw [HTQ.out]
            have := Nat.mul_le_mul_left n q1
            omega)
          have HRT := Lib.hid h3
          obtain ⟨pp, hpp⟩ : ∃ pp, pp = t + 1 := ⟨_, rfl⟩
          have c0 := block_cell (k := 0) HS.out.2.2 rfl
          have f0 := block_free (o := 0) HS.out.2.2
          have HS1 : RowKit.Hid (St R w0 w.heap.size #[.int .i64 (pp : Nat), .int .i64 (q : Nat), .int .i64 0, .int .i64 0, .int .i64 0] (w3.setCell ⟨w.heap.size + 1, 0, .none⟩ (.int .i64 ((t : Int) + 1)))) := Lib.hid (by rw [hpp]; exact HS.out.set HR.out 0 (.int .i64 ((t : Int) + 1)))
          rw [← hpp] at HPP HRT
          have HPT := Lib.hid (show pp = n * q + 1 by rw [hpp, HTQ.out])
          have ppl : pp < 1500000000 := by omega
          have hrp : hr < pp := by
            have := Nat.mul_le_mul_left n q1
            have := HPT.out
            omega
          have hr4 : hr ≤ 20200 := by omega
          have HRL := Lib.hid (And.intro h1 (And.intro hrp hr4))
          have p2 : 65536 < pp := by omega
          clear HV h3 hpp h1 h2
          go_wp2_with fail
          clear c0 f0 c1 f1 htb htl hw
          go_loopw [9] (fun s9 wr => ∃ hh g : Nat, s9 = .int .i64 hh ∧ 2 ≤ hh ∧ hh < 40000 ∧ (g < 2 → hh ≤ hr) ∧ g < pp ∧ RowKit.Hid ((2 ≤ g → ∃ k, 2 ≤ k ∧ k < pp ∧ g = k ^ n % pp) ∧ St R w0 w.heap.size #[.int .i64 (pp : Nat), .int .i64 (q : Nat), .int .i64 (g : Nat), .int .i64 0, .int .i64 0] wr)) (fun s9 _ => 50000 - (intOf s9).toNat)
          case atStart => exact ⟨2, 0, rfl, by omega, by omega, fun _ => HRL.out.1, by omega, ⟨fun e => by omega, HS1.out⟩⟩
          case round =>
            obtain ⟨hh, g, rfl, g1, g3, g4, g5, HG⟩ := hrel
            have c0 := block_cell (k := 0) HG.out.2.2.2 rfl
            have c1 := block_cell (k := 1) HG.out.2.2.2 rfl
            have c2 := block_cell (k := 2) HG.out.2.2.2 rfl
            have f2 := block_free (o := 2) HG.out.2.2.2
            by_cases hg : g < 2
            · have hhr : hh ≤ hr := g4 hg
              have HPW := powI (hh : Int) n pp wr (by omega) (by omega) (by omega)
              rw [Int.emod_eq_of_lt (by omega) (by omega), Int.toNat_natCast] at HPW
              obtain ⟨g', hg'⟩ : ∃ g', g' = hh ^ n % pp := ⟨_, rfl⟩
              rw [← hg'] at HPW
              have g'l : g' < pp := by rw [hg']; exact Nat.mod_lt _ (by omega)
              have hnx : g' < 2 → hh + 1 ≤ hr := fun e => by
                rcases Nat.lt_or_ge hh hr with h | h
                · omega
                · exfalso
                  have e1 : hh = hr := by omega
                  have hne : g' ≠ 1 := by rw [hg', e1]; exact HRT.out
                  have h0 : g' ≠ 0 := by
                    intro e0
                    rw [hg'] at e0
                    have hd := Nat.dvd_of_mod_eq_zero e0
                    have := (show ∀ k : Nat, pp ∣ hh ^ k → pp ∣ hh from fun k => by
                      induction k with
                      | zero => intro hk; rw [Nat.pow_zero] at hk; have := Nat.le_of_dvd (by decide) hk; omega
                      | succ k ih => intro hk; rw [Nat.pow_succ] at hk; exact (HPP.out.dvd_mul hk).elim ih id) n hd
                    have := Nat.le_of_dvd (by omega) this
                    have := HRL.out.2.1
                    omega
                  omega
              have HN := Lib.hid (show (2 ≤ g' → ∃ k, 2 ≤ k ∧ k < pp ∧ g' = k ^ n % pp) ∧ St R w0 w.heap.size #[.int .i64 (pp : Nat), .int .i64 (q : Nat), .int .i64 (g' : Nat), .int .i64 0, .int .i64 0] (wr.setCell ⟨w.heap.size + 1, 2, .none⟩ (.int .i64 (g' : Nat))) from ⟨fun _ => ⟨hh, g1, by have := HRL.out.2.1; omega, hg'⟩, HG.out.2.set HR.out 2 (.int .i64 (g' : Nat))⟩)
              have HW := Lib.hid HPW
              have hgi : (g : Int) < 2 := by omega
              clear HPW hg' hg
              go_wp2_with fail
              refine HW.out.mono ?_
              rintro e w4 ⟨rfl, rfl⟩
              go_wp2_with fail
              go_roundw
              case rel => exact ⟨hh + 1, g', by go_num, by omega, by omega, hnx, g'l, HN.out⟩
              case measure => simp [intOf]; omega
            · have hgi : ¬ (g : Int) < 2 := by omega
              obtain ⟨k, k2, kp, hgk⟩ := HG.out.1 (by omega)
              obtain ⟨q', hq', hqd⟩ : ∃ q' : Nat, (q : Int) - 1 = (q' : Int) ∧ q' = q - 1 := ⟨q - 1, by omega, rfl⟩
              obtain ⟨x0, hx0⟩ : ∃ x0 : Nat, x % (q' : Int) = x0 := ⟨(x % (q' : Int)).toNat, by have := Int.emod_nonneg x (show (q' : Int) ≠ 0 by omega); omega⟩
              have x0l : x0 < q' := by have := Int.emod_lt_of_pos x (show (0 : Int) < (q' : Int) by omega); omega
              have HM := modI x q' wr (by omega) (by omega)
              rw [hx0] at HM
              have HM := Lib.hid HM
              have HSA := HG.out.2
              have f4 := block_free (o := 4) HSA.2.2
              have c4 := block_cell (k := 4) HSA.2.2 rfl
              have HS2 : RowKit.Hid (St R w0 w.heap.size #[.int .i64 (pp : Nat), .int .i64 (q : Nat), .int .i64 (g : Nat), .int .i64 0, .int .i64 (1 + (x0 : Int))] (wr.setCell ⟨w.heap.size + 1, 4, .none⟩ (.int .i64 (1 + (x0 : Int))))) := Lib.hid (HSA.set HR.out 4 (.int .i64 (1 + (x0 : Int))))
              have HPW : RowKit.Hid (∀ wx, Calls Tryz.prog 32 #[.int .i64 (g : Nat), .int .i64 (1 + (x0 : Int)), .int .i64 (pp : Nat)] wx (fun en w' => en = .returned (.int .i64 (g ^ (x0 + 1) % pp : Nat)) ∧ w' = wx)) := Lib.hid (fun wx => by
                have := powI (g : Int) (x0 + 1) pp wx (by omega) (by omega) (by omega)
                rw [Int.emod_eq_of_lt (by omega) (by omega), Int.toNat_natCast] at this
                rwa [show ((1 : Int) + (x0 : Int)) = ((x0 + 1 : Nat) : Int) by omega])
              have HK := Lib.hid (show KeyN pp q g (g ^ (x0 + 1) % pp) (x0 + 1) from ⟨HQ.out, q1, q16, HPP.out, by omega, by omega, by omega, g5, rfl, by omega, by omega, by
                rw [hgk, ← Nat.pow_mod, ← Nat.pow_mul]
                have := HPP.out.fermat1 (a := k) (fun hd => by have := Nat.le_of_dvd (by omega) hd; omega)
                rwa [show pp - 1 = n * q by have := HPT.out; omega] at this⟩)
              obtain ⟨yy, hyy⟩ : ∃ yy, yy = g ^ (x0 + 1) % pp := ⟨_, rfl⟩
              rw [← hyy] at HPW HK
              clear hyy hgk hqd hx0 HSA k2 kp
              go_wp2_with fail
              refine HM.out.mono ?_
              rintro e w4 ⟨rfl, rfl⟩
              go_wp2_with fail
              have f3 := block_free (o := 3) HS2.out.2.2
              have e3 := block_cell (k := 3) HS2.out.2.2 rfl
              have HS3 : RowKit.Hid (St R w0 w.heap.size #[.int .i64 (pp : Nat), .int .i64 (q : Nat), .int .i64 (g : Nat), .int .i64 (yy : Nat), .int .i64 (1 + (x0 : Int))] ((w4.setCell ⟨w.heap.size + 1, 4, .none⟩ (.int .i64 (1 + (x0 : Int)))).setCell ⟨w.heap.size + 1, 3, .none⟩ (.int .i64 (yy : Nat)))) := Lib.hid (HS2.out.set HR.out 3 (.int .i64 (yy : Nat)))
              refine (HPW.out _).mono ?_
              rintro e w5 ⟨rfl, rfl⟩
              have d0 := block_cell (k := 0) HS3.out.2.2 rfl
              have d1 := block_cell (k := 1) HS3.out.2.2 rfl
              have d2 := block_cell (k := 2) HS3.out.2.2 rfl
              have d3 := block_cell (k := 3) HS3.out.2.2 rfl
              have d4 := block_cell (k := 4) HS3.out.2.2 rfl
              have r0 := block_free (o := 0) HS3.out.2.1
              have r1 := block_free (o := 1) HS3.out.2.1
              have r2 := block_free (o := 2) HS3.out.2.1
              have r3 := block_free (o := 3) HS3.out.2.1
              have r4 := block_free (o := 4) HS3.out.2.1
              have s0 := block_cell (k := 0) HS3.out.2.1 rfl
              have s1 := block_cell (k := 1) HS3.out.2.1 rfl
              have s2 := block_cell (k := 2) HS3.out.2.1 rfl
              have s3 := block_cell (k := 3) HS3.out.2.1 rfl
              have s4 := block_cell (k := 4) HS3.out.2.1 rfl
              obtain ⟨Wx, hWx⟩ : ∃ Wx, Wx = ((w4.setCell ⟨w.heap.size + 1, 4, .none⟩ (.int .i64 (1 + (x0 : Int)))).setCell ⟨w.heap.size + 1, 3, .none⟩ (.int .i64 (yy : Nat))) := ⟨_, rfl⟩
              rw [← hWx] at d0 d1 d2 d3 d4 r0 r1 r2 r3 r4 s0 s1 s2 s3 s4 HS3
              go_upto_region 15 with fail
              rw [← hWx]
              clear hWx c0 c1 c2 c4 f2 f4 f3 e3 HS2
              go_wp2_with fail
              have z1 := setc (setc (setc (setc (setc HS3.out.2.1 0 (.int .i64 (pp : Nat))) 1 (.int .i64 (q : Nat))) 2 (.int .i64 (g : Nat))) 3 (.int .i64 (yy : Nat))) 4 (.int .i64 (1 + (x0 : Int)))
              have hR0 := HR0.out
              have hg5 : Wx.grownBy (((((Wx.setCell ⟨w.heap.size, 0, .none⟩ (.int .i64 (pp : Nat))).setCell ⟨w.heap.size, 1, .none⟩ (.int .i64 (q : Nat))).setCell ⟨w.heap.size, 2, .none⟩ (.int .i64 (g : Nat))).setCell ⟨w.heap.size, 3, .none⟩ (.int .i64 (yy : Nat))).setCell ⟨w.heap.size, 4, .none⟩ (.int .i64 (1 + (x0 : Int)))) (some w.heap.size) :=
                grown_trans (grown_set Wx w.heap.size 0 _) (grown_trans (grown_set _ w.heap.size 1 _) (grown_trans (grown_set _ w.heap.size 2 _) (grown_trans (grown_set _ w.heap.size 3 _) (grown_set _ w.heap.size 4 _))))
              have hO := HS3.out.1.turned ((Grow.of hg5).weaken (fun k _ e hk => hR0 (Option.some.inj e ▸ hk)))
              obtain ⟨F, hF⟩ : ∃ F, F = (((((Wx.setCell ⟨w.heap.size, 0, .none⟩ (.int .i64 (pp : Nat))).setCell ⟨w.heap.size, 1, .none⟩ (.int .i64 (q : Nat))).setCell ⟨w.heap.size, 2, .none⟩ (.int .i64 (g : Nat))).setCell ⟨w.heap.size, 3, .none⟩ (.int .i64 (yy : Nat))).setCell ⟨w.heap.size, 4, .none⟩ (.int .i64 (1 + (x0 : Int)))) := ⟨_, rfl⟩
              rw [← hF] at z1 hO ⊢
              have g0 := block_cell (k := 0) z1 rfl
              have g1' := block_cell (k := 1) z1 rfl
              have g2 := block_cell (k := 2) z1 rfl
              have g3' := block_cell (k := 3) z1 rfl
              have g4' := block_cell (k := 4) z1 rfl
              have hkey := HK.out
              clear hF z1 hg5 d0 d1 d2 d3 d4 r0 r1 r2 r3 r4 s0 s1 s2 s3 s4
              simp [bodyPost, results, Tryz.results82, go_sem, g0, g1', g2, g3', g4']
              exact ⟨pp, q, g, yy, x0 + 1, by rw [show ((x0 + 1 : Nat) : Int) = 1 + (x0 : Int) by omega], hO, hkey⟩
end
end Go.Proofs.YtohhkjamddojmaaGreatDoor.Big
