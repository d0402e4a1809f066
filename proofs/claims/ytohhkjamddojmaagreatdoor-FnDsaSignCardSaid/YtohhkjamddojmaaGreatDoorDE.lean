/- The package's Verify over a key of the law. -/
import Derived.Test.YtohhkjamddojmaaGreatDoorDC
import Derived.Test.YtohhkjamddojmaaGreatDoorXC
import Derived.Test.YtohhkjamddojmaaGreatDoorXC
namespace Go.Proofs.YtohhkjamddojmaaGreatDoor.Big
open Go.RowKit NumLaw
attribute [local go_sem] ptr

theorem szN {n k : Nat} (h : n < B64) (hk : 64 ≤ k) : Sz k (n : Int) := Sz.le (m := 64) (show (n : Int).natAbs < 2 ^ 64 from h) hk
attribute [local irreducible] Sz
theorem cmpD_eq {a b : Int} : (cmpI a b == 0) = decide (a = b) := by
  unfold cmpI
  split
  · rename_i h; rw [decide_eq_false (by omega)]; rfl
  · split
    · rename_i h; rw [decide_eq_false (by omega)]; rfl
    · rw [decide_eq_true (by omega)]; rfl
theorem cmpD_lt {a b : Int} (h : a < b) : cmpI a b = -1 := by unfold cmpI; rw [if_pos h]
theorem cmpD_ge {a b : Int} (h : b ≤ a) : cmpI a b = 0 ∨ cmpI a b = 1 := by
  unfold cmpI
  rw [if_neg (by omega)]
  split
  · exact .inr rfl
  · exact .inl rfl
/-- a row of bytes that is kept, of this number: from an offset on -/
structure BytesOf (G : Nat → Prop) (w : World) (g o cap : Nat) (ks : List Nat) (n : Nat) : Prop where
  kept : G g
  cell : ∀ i, i < ks.length → w.cell? ⟨g, o + i, .none⟩ = some (.int .u8 (ks.getD i 0 : Nat))
  lt : ∀ i, ks.getD i 0 < 256
  len : ks.length ≤ 100
  cap : ks.length ≤ cap
  val : bev ks = n
theorem BytesOf.on {G : Nat → Prop} {w w' : World} {g o cap n : Nat} {ks : List Nat} (h : BytesOf G w g o cap ks n) {G' : Nat → Prop} (hk : Kept G w w') (hG : ∀ k, G k → G' k) : BytesOf G' w' g o cap ks n :=
  ⟨hG _ h.kept, fun i hi => hk.cell h.kept (h.cell i hi), h.lt, h.len, h.cap, h.val⟩
theorem BytesAt.of {G : Nat → Prop} {w : World} {g cap n : Nat} {ks : List Nat} (h : BytesAt G w g cap ks n) : BytesOf G w g 0 cap ks n := ⟨h.kept, h.cell, h.lt, h.len, h.cap, h.val⟩
/-- the inverse modulo a prime, as the specification reckons it -/
def invQ (s Q : Nat) : Nat := s ^ (Q - 2) % Q
theorem invQ_lt {s Q : Nat} (h : IsP Q) : invQ s Q < Q := Nat.mod_lt _ (by have := h.1; omega)
theorem invQ_mul {s Q : Nat} (h : IsP Q) (h1 : ¬ Q ∣ s) : invQ s Q * s % Q = 1 := by
  have h2 := h.1
  unfold invQ
  rw [Nat.mod_mul_mod, ← Nat.pow_succ, show (Q - 2).succ = Q - 1 by omega]
  exact h.fermat1 h1
theorem invQ_one {s Q t : Nat} (h : IsP Q) (h1 : ¬ Q ∣ s) (ht : t < Q) (hd : (Q : Int) ∣ t * s - 1) : t = invQ s Q := by
  have h2 := invQ_mul h h1
  have hi := invQ_lt (s := s) h
  obtain ⟨c, hc⟩ := hd
  have hk : (Q : Int) ∣ ((t : Int) - invQ s Q) * s := by
    have e1 := Nat.div_add_mod (invQ s Q * s) Q
    rw [h2] at e1
    refine ⟨c - ((invQ s Q * s / Q : Nat) : Int), ?_⟩
    have e2 : ((invQ s Q : Nat) : Int) * s = Q * ((invQ s Q * s / Q : Nat) : Int) + 1 := by
      rw [← Int.natCast_mul, ← Int.natCast_mul, ← e1]; rw [e1]; omega
    rw [Int.sub_mul, e2, Int.mul_sub]
    omega
  rcases h.int _ _ hk with hk | hk
  · obtain ⟨c', hc'⟩ := hk
    have : c' = 0 := by
      rcases Int.lt_trichotomy c' 0 with h0 | h0 | h0
      · have := Int.mul_le_mul_of_nonneg_left (show c' ≤ -1 by omega) (show (0 : Int) ≤ Q by omega); omega
      · exact h0
      · have := Int.mul_le_mul_of_nonneg_left (show 1 ≤ c' by omega) (show (0 : Int) ≤ Q by omega); omega
    subst this
    omega
  · exact absurd (Int.natCast_dvd_natCast.1 hk) h1
/-- what both verifications come to -/
def verB (P Q G Y z r s : Nat) : Bool := decide (1 ≤ r ∧ r < Q ∧ 1 ≤ s ∧ s < Q ∧ ((G ^ (z * invQ s Q % Q) % P) * (Y ^ (r * invQ s Q % Q) % P) % P % Q : Nat) = r)
/-- the numbers, small as they are -/
structure VerN (P Q G Y z r s : Nat) : Prop where
  r1 : 1 ≤ r
  rq : r < Q
  s0 : 0 < s
  sq : s < Q
  q : 32768 ≤ Q ∧ Q < 65536
  q0 : 0 < Q
  q64 : Q < B64
  p64 : P < B64
  p0 : 0 < P
  p2 : 2 ≤ P
  g64 : G < B64
  y64 : Y < B64
  z64 : z < B64
  i64 : invQ s Q < B64
  r64 : r < B64
  zi : z * invQ s Q < B64
  ri : r * invQ s Q < B64
  u1 : z * invQ s Q % Q < B64
  u2 : r * invQ s Q % Q < B64
  a64 : G ^ (z * invQ s Q % Q) % P < B64
  b64 : Y ^ (r * invQ s Q % Q) % P < B64
  ab64 : (G ^ (z * invQ s Q % Q) % P) * (Y ^ (r * invQ s Q % Q) % P) < B64
  abp : (G ^ (z * invQ s Q % Q) % P) * (Y ^ (r * invQ s Q % Q) % P) % P < B64
  abq : (G ^ (z * invQ s Q % Q) % P) * (Y ^ (r * invQ s Q % Q) % P) % P % Q < B64
  cop : Int.gcd s Q = 1
  inv : ∀ t, t < Q → (Q : Int) ∣ t * s - 1 → t = invQ s Q
theorem VerN.of {P Q G Y X z r s : Nat} (h : KeyN P Q G Y X) (hz : z < 65536) (r1 : 1 ≤ r) (rq : r < Q) (s1 : 1 ≤ s) (sq : s < Q) : VerN P Q G Y z r s := by
  have hq16 := h.q16
  have hp31 := h.p31
  have hqp := h.qp
  have hB : B64 = 18446744073709551616 := rfl
  have q0 : 0 < Q := by omega
  have p0 : 0 < P := by omega
  have hi := invQ_lt (s := s) h.q
  have hnd : ¬ Q ∣ s := fun e => by have := Nat.le_of_dvd (by omega) e; omega
  have hy : Y < P := by rw [h.y]; exact Nat.mod_lt _ p0
  have ha := Nat.mod_lt (G ^ (z * invQ s Q % Q)) p0
  have hb := Nat.mod_lt (Y ^ (r * invQ s Q % Q)) p0
  have hgp := h.gp
  have h15 := h.q15
  have m1 : z * invQ s Q ≤ 65536 * 65536 := Nat.mul_le_mul (by omega) (by omega)
  have m2 : r * invQ s Q ≤ 65536 * 65536 := Nat.mul_le_mul (by omega) (by omega)
  have m3 : (G ^ (z * invQ s Q % Q) % P) * (Y ^ (r * invQ s Q % Q) % P) ≤ 2147483648 * 2147483648 := Nat.mul_le_mul (by omega) (by omega)
  have m4 := Nat.mod_lt ((G ^ (z * invQ s Q % Q) % P) * (Y ^ (r * invQ s Q % Q) % P)) p0
  have m5 := Nat.mod_lt ((G ^ (z * invQ s Q % Q) % P) * (Y ^ (r * invQ s Q % Q) % P) % P) q0
  have m6 := Nat.mod_lt (z * invQ s Q) q0
  have m7 := Nat.mod_lt (r * invQ s Q) q0
  refine ⟨r1, rq, s1, sq, ⟨h15, hq16⟩, q0, by omega, by omega, p0, by omega, by omega, by omega, by omega, by omega, by omega, by omega, by omega, by omega, by omega, by omega, by omega, by omega, by omega, by omega, ?_, fun t ht hd => invQ_one h.q hnd ht hd⟩
  rw [Int.gcd_comm]
  exact h.q.coprime hnd
section
variable {R : Nat → Prop} {w0 w w' : World} {L L' : List (Nat × Int)}
set_option maxHeartbeats 16000000 in
set_option maxRecDepth 100000 in
theorem verO (b zP zQ zG zY zX zr zs gb go gc : Nat) (P Q G Y X z r s : Nat) (ks : List Nat) (h : Own R w w ((zs, (s : Int)) :: (zr, (r : Int)) :: (zY, (Y : Int)) :: (zG, (G : Int)) :: (zQ, (Q : Int)) :: (zP, (P : Int)) :: (zX, (X : Int)) :: L)) (hb : w.heap[b]? = some (.cells #[ptr zP, ptr zQ, ptr zG, ptr zY, ptr zX] 141)) (hRb : R b) (HK : KeyN P Q G Y X) (hB : BytesOf R w gb go gc ks z) (hz : z < 65536) (hr : r < 4294967296) (hs : s < 4294967296) :
    Calls Tryz.prog 83 #[ptr b, .slice (some ⟨gb, go, .none⟩) ks.length gc, ptr zr, ptr zs] w (fun e w' => e = .returned (.bool (verB P Q G Y z r s)) ∧ Own R w w' []) := by
  have K0 := Lib.hid (fun (w' : World) (k : Kept R w w') => (⟨k.cell hRb (block_cell (k := 0) hb rfl), k.cell hRb (block_cell (k := 1) hb rfl), k.cell hRb (block_cell (k := 2) hb rfl), k.cell hRb (block_cell (k := 3) hb rfl)⟩ : w'.cell? ⟨b, 0, .none⟩ = some (ptr zP) ∧ w'.cell? ⟨b, 1, .none⟩ = some (ptr zQ) ∧ w'.cell? ⟨b, 2, .none⟩ = some (ptr zG) ∧ w'.cell? ⟨b, 3, .none⟩ = some (ptr zY)))
  have HB := Lib.hid hB
  have SGP := Lib.hid (signO h 5 rfl)
  have SGR := Lib.hid (signO h 1 rfl)
  have sgp : (P : Int).sign = 1 := Int.sign_eq_one_of_pos (by have := HK.qp; omega)
  rw [sgp] at SGP
  clear sgp
  obtain ⟨cP, cQ, cG, cY⟩ := K0.out w (Kept.refl _ _)
  have O0 := Lib.hid h
  have HKN := Lib.hid HK
  have HQ := Lib.hid HK.q16
  clear h hb hRb hB HK
  rcases Nat.eq_zero_or_pos r with r0 | r0
  · subst r0
    have hd : verB P Q G Y z 0 s = false := decide_eq_false (fun h => by omega)
    rw [hd]
    clear hd
    unfold ptr at *
    go_enter Tryz.func83, Tryz.ntmps83
    go_wp2_with fail
    refine SGP.out.mono ?_
    rintro en wq ⟨rfl, rfl⟩
    go_wp2_with fail
    refine SGR.out.mono ?_
    rintro en wq ⟨rfl, rfl⟩
    go_wp2_with fail
    go_ret
    exact ⟨rfl, O0.out.narrow (fun _ h => h) O0.out⟩
  have sgr : (r : Int).sign = 1 := Int.sign_eq_one_of_pos (by omega)
  rw [sgr] at SGR
  clear sgr
  have CR := Lib.hid (cmpO O0.out 1 4 rfl rfl (szN (n := r) (show r < 18446744073709551616 by omega) (by decide)))
  rcases Nat.lt_or_ge r Q with rq | rq
  case inr =>
    have hd : verB P Q G Y z r s = false := decide_eq_false (fun h => by omega)
    rw [hd]
    clear hd
    rcases cmpD_ge (a := (r : Int)) (b := (Q : Int)) (by omega) with hc | hc
    all_goals
      rw [hc] at CR
      clear hc rq hr hs hz r0
      unfold ptr at *
      go_enter Tryz.func83, Tryz.ntmps83
      go_wp2_with fail
      refine SGP.out.mono ?_
      rintro en wq ⟨rfl, rfl⟩
      go_wp2_with fail
      refine SGR.out.mono ?_
      rintro en wq ⟨rfl, rfl⟩
      go_wp2_with fail
      refine CR.out.mono ?_
      rintro en wq ⟨rfl, n1, rfl⟩
      go_wp2_with fail
      go_ret
      exact ⟨rfl, O0.out.narrow (fun _ h => h) (O0.out.drew n1)⟩
  rw [cmpD_lt (a := (r : Int)) (b := (Q : Int)) (by omega)] at CR
  have SGS := Lib.hid (fun n => signO (O0.out.drew n) 0 rfl)
  rcases Nat.eq_zero_or_pos s with s0 | s0
  · subst s0
    have hd : verB P Q G Y z r 0 = false := decide_eq_false (fun h => by omega)
    rw [hd]
    clear hd hr hs hz r0 rq
    unfold ptr at *
    go_enter Tryz.func83, Tryz.ntmps83
    go_wp2_with fail
    refine SGP.out.mono ?_
    rintro en wq ⟨rfl, rfl⟩
    go_wp2_with fail
    refine SGR.out.mono ?_
    rintro en wq ⟨rfl, rfl⟩
    go_wp2_with fail
    refine CR.out.mono ?_
    rintro en wq ⟨rfl, n1, rfl⟩
    go_wp2_with fail
    refine (SGS.out n1).mono ?_
    rintro en wq ⟨rfl, rfl⟩
    go_wp2_with fail
    go_ret
    exact ⟨rfl, O0.out.narrow (fun _ h => h) (O0.out.drew n1)⟩
  have sgs : (s : Int).sign = 1 := Int.sign_eq_one_of_pos (by omega)
  rw [sgs] at SGS
  clear sgs
  have CS := Lib.hid (fun n => cmpO (O0.out.drew n) 0 4 rfl rfl (szN (n := s) (show s < 18446744073709551616 by omega) (by decide)))
  rcases Nat.lt_or_ge s Q with sq | sq
  case inr =>
    have hd : verB P Q G Y z r s = false := decide_eq_false (fun h => by omega)
    rw [hd]
    clear hd
    rcases cmpD_ge (a := (s : Int)) (b := (Q : Int)) (by omega) with hc | hc
    all_goals
      rw [hc] at CS
      clear hc rq hr hs hz r0 sq s0
      unfold ptr at *
      go_enter Tryz.func83, Tryz.ntmps83
      go_wp2_with fail
      refine SGP.out.mono ?_
      rintro en wq ⟨rfl, rfl⟩
      go_wp2_with fail
      refine SGR.out.mono ?_
      rintro en wq ⟨rfl, rfl⟩
      go_wp2_with fail
      refine CR.out.mono ?_
      rintro en wq ⟨rfl, n1, rfl⟩
      go_wp2_with fail
      refine (SGS.out n1).mono ?_
      rintro en wq ⟨rfl, rfl⟩
      go_wp2_with fail
      refine (CS.out n1).mono ?_
      rintro en wq ⟨rfl, n2, rfl⟩
      go_wp2_with fail
      go_ret
      exact ⟨rfl, O0.out.narrow (fun _ h => h) (O0.out.drew (n1 + n2))⟩
  rw [cmpD_lt (a := (s : Int)) (b := (Q : Int)) (by omega)] at CS
  have N := Lib.hid (VerN.of HKN.out hz r0 rq s0 sq)
  obtain ⟨d, hd⟩ : ∃ d, d = verB P Q G Y z r s := ⟨_, rfl⟩
  rw [← hd]
  have DD := Lib.hid (hd.trans rfl : d = decide (1 ≤ r ∧ r < Q ∧ 1 ≤ s ∧ s < Q ∧ ((G ^ (z * invQ s Q % Q) % P) * (Y ^ (r * invQ s Q % Q) % P) % P % Q : Nat) = r))
  clear hd hr hs hz r0 rq s0 sq
  unfold ptr at *
  go_enter Tryz.func83, Tryz.ntmps83
  go_wp2_with fail
  refine SGP.out.mono ?_
  rintro en wq ⟨rfl, rfl⟩
  go_wp2_with fail
  refine SGR.out.mono ?_
  rintro en wq ⟨rfl, rfl⟩
  go_wp2_with fail
  refine CR.out.mono ?_
  rintro en wq ⟨rfl, n1, rfl⟩
  go_wp2_with fail
  refine (SGS.out n1).mono ?_
  rintro en wq ⟨rfl, rfl⟩
  go_wp2_with fail
  refine (CS.out n1).mono ?_
  rintro en wq ⟨rfl, n2, rfl⟩
  obtain ⟨wA, hwA⟩ : ∃ wA, wA = (w.drewN n1).drewN n2 := ⟨_, rfl⟩
  have OA := Lib.hid (show Own R w wA ((zs, (s : Int)) :: (zr, (r : Int)) :: (zY, (Y : Int)) :: (zG, (G : Int)) :: (zQ, (Q : Int)) :: (zP, (P : Int)) :: (zX, (X : Int)) :: L) from by rw [hwA]; exact (O0.out.drew n1).drew n2)
  rw [← hwA]
  clear hwA cP cQ cG cY CR CS SGP SGR SGS
  obtain ⟨cP, cQ, cG, cY⟩ := K0.out wA OA.out.kept
  obtain ⟨hN, hR⟩ := OA.out.new
  have HNw := Lib.hid hN
  have NRw := Lib.hid hR
  obtain ⟨dP, dQ, dG, dY⟩ := K0.out _ HNw.out.kept
  clear hN hR
  go_wp2_with fail
  refine (modInverse_word HNw.out 0 1 5 s Q rfl rfl rfl NRw.out N.out.s0 N.out.sq N.out.q64 N.out.cop).mono ?_
  rintro en w1 ⟨t, rfl, hq, ht1, ht2⟩
  have O1 := Lib.hid (show Own R w w1 ((wA.heap.size, (t : Int)) :: (zs, (s : Int)) :: (zr, (r : Int)) :: (zY, (Y : Int)) :: (zG, (G : Int)) :: (zQ, (Q : Int)) :: (zP, (P : Int)) :: (zX, (X : Int)) :: L) from hq)
  obtain rfl := N.out.inv t ht1 ht2
  clear hq ht1 ht2
  try clear dP dQ dG dY
  clear cP cQ cG cY
  obtain ⟨cP, cQ, cG, cY⟩ := K0.out w1 O1.out.kept
  go_wp2_with fail
  refine (bitLen16O O1.out 5 Q rfl N.out.q).mono ?_
  rintro en wq ⟨rfl, rfl⟩
  obtain ⟨hN, hR⟩ := O1.out.new
  have HNz := Lib.hid hN
  have NRz := Lib.hid hR
  obtain ⟨dP, dQ, dG, dY⟩ := K0.out _ HNz.out.kept
  clear hN hR
  go_wp2_with fail
  refine (setBytesO HNz.out 0 gb go gc ks rfl NRz.out HB.out.kept (fun i hi => HNz.out.kept.cell HB.out.kept (HB.out.cell i hi)) HB.out.lt (by have := HB.out.len; omega) HB.out.cap).mono ?_
  rw [HB.out.val]
  rintro en w2 ⟨rfl, hq⟩
  have O2 := Lib.hid (show Own R w w2 ((w1.heap.size, (z : Int)) :: (wA.heap.size, (invQ s Q : Int)) :: (zs, (s : Int)) :: (zr, (r : Int)) :: (zY, (Y : Int)) :: (zG, (G : Int)) :: (zQ, (Q : Int)) :: (zP, (P : Int)) :: (zX, (X : Int)) :: L) from hq)
  clear hq
  clear cP cQ cG cY
  try clear dP dQ dG dY
  obtain ⟨cP, cQ, cG, cY⟩ := K0.out w2 O2.out.kept
  obtain ⟨hN, hR⟩ := O2.out.new
  have HNu := Lib.hid hN
  have NRu := Lib.hid hR
  obtain ⟨dP, dQ, dG, dY⟩ := K0.out _ HNu.out.kept
  clear hN hR
  go_wp2_with fail
  refine (mulO HNu.out 0 1 2 rfl rfl rfl NRu.out (szN N.out.z64 (by decide)) (szN N.out.i64 (by decide))).mono ?_
  rintro en w3 ⟨rfl, hq⟩
  have O3 := Lib.hid (show Own R w w3 ((w2.heap.size, (((z * invQ s Q : Nat) : Int) : Int)) :: (w1.heap.size, (z : Int)) :: (wA.heap.size, (invQ s Q : Int)) :: (zs, (s : Int)) :: (zr, (r : Int)) :: (zY, (Y : Int)) :: (zG, (G : Int)) :: (zQ, (Q : Int)) :: (zP, (P : Int)) :: (zX, (X : Int)) :: L) from by rw [Int.natCast_mul]; exact hq)
  clear hq
  clear cP cQ cG cY
  try clear dP dQ dG dY
  obtain ⟨cP, cQ, cG, cY⟩ := K0.out w3 O3.out.kept
  go_wp2_with fail
  refine (modO O3.out 0 0 7 rfl rfl rfl (by decide) NRu.out (szN N.out.zi (by decide)) (szN N.out.q64 (by decide)) (divOK_nat N.out.q64 N.out.q0) (Int.natCast_ne_zero.2 (Nat.ne_of_gt N.out.q0))).mono ?_
  rintro en w4 ⟨rfl, hq⟩
  have O4 := Lib.hid (show Own R w w4 ((w2.heap.size, (((z * invQ s Q % Q : Nat) : Int) : Int)) :: (w1.heap.size, (z : Int)) :: (wA.heap.size, (invQ s Q : Int)) :: (zs, (s : Int)) :: (zr, (r : Int)) :: (zY, (Y : Int)) :: (zG, (G : Int)) :: (zQ, (Q : Int)) :: (zP, (P : Int)) :: (zX, (X : Int)) :: L) from by rw [Int.natCast_emod]; exact hq)
  clear hq
  clear cP cQ cG cY
  try clear dP dQ dG dY
  obtain ⟨cP, cQ, cG, cY⟩ := K0.out w4 O4.out.kept
  go_wp2_with fail
  refine (mulO O4.out 2 4 2 rfl rfl rfl NRw.out (szN N.out.r64 (by decide)) (szN N.out.i64 (by decide))).mono ?_
  rintro en w5 ⟨rfl, hq⟩
  have O5 := Lib.hid (show Own R w w5 ((w2.heap.size, (((z * invQ s Q % Q : Nat) : Int) : Int)) :: (w1.heap.size, (z : Int)) :: (wA.heap.size, (((r * invQ s Q : Nat) : Int) : Int)) :: (zs, (s : Int)) :: (zr, (r : Int)) :: (zY, (Y : Int)) :: (zG, (G : Int)) :: (zQ, (Q : Int)) :: (zP, (P : Int)) :: (zX, (X : Int)) :: L) from by rw [Int.natCast_mul]; exact hq)
  clear hq
  clear cP cQ cG cY
  try clear dP dQ dG dY
  obtain ⟨cP, cQ, cG, cY⟩ := K0.out w5 O5.out.kept
  go_wp2_with fail
  refine (modO O5.out 2 2 7 rfl rfl rfl (by decide) NRw.out (szN N.out.ri (by decide)) (szN N.out.q64 (by decide)) (divOK_nat N.out.q64 N.out.q0) (Int.natCast_ne_zero.2 (Nat.ne_of_gt N.out.q0))).mono ?_
  rintro en w6 ⟨rfl, hq⟩
  have O6 := Lib.hid (show Own R w w6 ((w2.heap.size, (((z * invQ s Q % Q : Nat) : Int) : Int)) :: (w1.heap.size, (z : Int)) :: (wA.heap.size, (((r * invQ s Q % Q : Nat) : Int) : Int)) :: (zs, (s : Int)) :: (zr, (r : Int)) :: (zY, (Y : Int)) :: (zG, (G : Int)) :: (zQ, (Q : Int)) :: (zP, (P : Int)) :: (zX, (X : Int)) :: L) from by rw [Int.natCast_emod]; exact hq)
  clear hq
  clear cP cQ cG cY
  try clear dP dQ dG dY
  obtain ⟨cP, cQ, cG, cY⟩ := K0.out w6 O6.out.kept
  go_upto_region 18 with fail
  go_region_held3 (fun w' => w'.cell? ⟨b, 0, .none⟩ = some (.pointer (some ⟨zP, 0, .none⟩)) ∧ w'.cell? ⟨b, 1, .none⟩ = some (.pointer (some ⟨zQ, 0, .none⟩)) ∧ w'.cell? ⟨b, 2, .none⟩ = some (.pointer (some ⟨zG, 0, .none⟩)) ∧ w'.cell? ⟨b, 3, .none⟩ = some (.pointer (some ⟨zY, 0, .none⟩))) (go_keep) (first | (go_at_call 126; refine (ExpAnyO (O6.out.drew _) 0 6 0 8 G (z * invQ s Q % Q) P rfl rfl rfl rfl (by decide) NRu.out N.out.g64 N.out.u1 N.out.p64 N.out.p2).mono ?_; rintro en w7 ⟨rfl, hq⟩; have O7 := Lib.hid (show Own R w w7 ((w2.heap.size, (((G ^ (z * invQ s Q % Q) % P : Nat) : Int) : Int)) :: (w1.heap.size, (z : Int)) :: (wA.heap.size, (((r * invQ s Q % Q : Nat) : Int) : Int)) :: (zs, (s : Int)) :: (zr, (r : Int)) :: (zY, (Y : Int)) :: (zG, (G : Int)) :: (zQ, (Q : Int)) :: (zP, (P : Int)) :: (zX, (X : Int)) :: L) from hq); clear hq; obtain ⟨qP, qQ, qG, qY⟩ := K0.out w7 O7.out.kept))
  clear cP cQ cG cY
  try clear qP qQ qG qY
  obtain ⟨cP, cQ, cG, cY⟩ := K0.out w7 O7.out.kept
  go_upto_region 19 with fail
  go_region_held3 (fun w' => w'.cell? ⟨b, 0, .none⟩ = some (.pointer (some ⟨zP, 0, .none⟩)) ∧ w'.cell? ⟨b, 1, .none⟩ = some (.pointer (some ⟨zQ, 0, .none⟩)) ∧ w'.cell? ⟨b, 2, .none⟩ = some (.pointer (some ⟨zG, 0, .none⟩)) ∧ w'.cell? ⟨b, 3, .none⟩ = some (.pointer (some ⟨zY, 0, .none⟩))) (go_keep) (first | (go_at_call 126; refine (ExpAnyO (O7.out.drew _) 2 5 2 8 Y (r * invQ s Q % Q) P rfl rfl rfl rfl (by decide) NRw.out N.out.y64 N.out.u2 N.out.p64 N.out.p2).mono ?_; rintro en w8 ⟨rfl, hq⟩; have O8 := Lib.hid (show Own R w w8 ((w2.heap.size, (((G ^ (z * invQ s Q % Q) % P : Nat) : Int) : Int)) :: (w1.heap.size, (z : Int)) :: (wA.heap.size, (((Y ^ (r * invQ s Q % Q) % P : Nat) : Int) : Int)) :: (zs, (s : Int)) :: (zr, (r : Int)) :: (zY, (Y : Int)) :: (zG, (G : Int)) :: (zQ, (Q : Int)) :: (zP, (P : Int)) :: (zX, (X : Int)) :: L) from hq); clear hq; obtain ⟨qP, qQ, qG, qY⟩ := K0.out w8 O8.out.kept))
  clear cP cQ cG cY
  try clear qP qQ qG qY
  obtain ⟨cP, cQ, cG, cY⟩ := K0.out w8 O8.out.kept
  go_wp2_with fail
  refine (mulO O8.out 0 0 2 rfl rfl rfl NRu.out (szN N.out.a64 (by decide)) (szN N.out.b64 (by decide))).mono ?_
  rintro en w9 ⟨rfl, hq⟩
  have O9 := Lib.hid (show Own R w w9 ((w2.heap.size, (((G ^ (z * invQ s Q % Q) % P) * (Y ^ (r * invQ s Q % Q) % P) : Nat) : Int)) :: (w1.heap.size, (z : Int)) :: (wA.heap.size, (((Y ^ (r * invQ s Q % Q) % P : Nat) : Int) : Int)) :: (zs, (s : Int)) :: (zr, (r : Int)) :: (zY, (Y : Int)) :: (zG, (G : Int)) :: (zQ, (Q : Int)) :: (zP, (P : Int)) :: (zX, (X : Int)) :: L) from by rw [Int.natCast_mul]; exact hq)
  clear hq
  clear cP cQ cG cY
  try clear dP dQ dG dY
  obtain ⟨cP, cQ, cG, cY⟩ := K0.out w9 O9.out.kept
  go_wp2_with fail
  refine (modO O9.out 0 0 8 rfl rfl rfl (by decide) NRu.out (szN N.out.ab64 (by decide)) (szN N.out.p64 (by decide)) (divOK_nat N.out.p64 N.out.p0) (Int.natCast_ne_zero.2 (Nat.ne_of_gt N.out.p0))).mono ?_
  rintro en w10 ⟨rfl, hq⟩
  have O10 := Lib.hid (show Own R w w10 ((w2.heap.size, (((G ^ (z * invQ s Q % Q) % P) * (Y ^ (r * invQ s Q % Q) % P) % P : Nat) : Int)) :: (w1.heap.size, (z : Int)) :: (wA.heap.size, (((Y ^ (r * invQ s Q % Q) % P : Nat) : Int) : Int)) :: (zs, (s : Int)) :: (zr, (r : Int)) :: (zY, (Y : Int)) :: (zG, (G : Int)) :: (zQ, (Q : Int)) :: (zP, (P : Int)) :: (zX, (X : Int)) :: L) from by rw [Int.natCast_emod]; exact hq)
  clear hq
  clear cP cQ cG cY
  try clear dP dQ dG dY
  obtain ⟨cP, cQ, cG, cY⟩ := K0.out w10 O10.out.kept
  go_wp2_with fail
  refine (modO O10.out 0 0 7 rfl rfl rfl (by decide) NRu.out (szN N.out.abp (by decide)) (szN N.out.q64 (by decide)) (divOK_nat N.out.q64 N.out.q0) (Int.natCast_ne_zero.2 (Nat.ne_of_gt N.out.q0))).mono ?_
  rintro en w11 ⟨rfl, hq⟩
  have O11 := Lib.hid (show Own R w w11 ((w2.heap.size, (((G ^ (z * invQ s Q % Q) % P) * (Y ^ (r * invQ s Q % Q) % P) % P % Q : Nat) : Int)) :: (w1.heap.size, (z : Int)) :: (wA.heap.size, (((Y ^ (r * invQ s Q % Q) % P : Nat) : Int) : Int)) :: (zs, (s : Int)) :: (zr, (r : Int)) :: (zY, (Y : Int)) :: (zG, (G : Int)) :: (zQ, (Q : Int)) :: (zP, (P : Int)) :: (zX, (X : Int)) :: L) from by rw [Int.natCast_emod]; exact hq)
  clear hq
  clear cP cQ cG cY
  try clear dP dQ dG dY
  obtain ⟨cP, cQ, cG, cY⟩ := K0.out w11 O11.out.kept
  have CV := Lib.hid (cmpO O11.out 0 4 rfl rfl (szN N.out.abq (by decide)))
  have hb : (cmpI (((G ^ (z * invQ s Q % Q) % P) * (Y ^ (r * invQ s Q % Q) % P) % P % Q : Nat) : Int) (r : Int) == 0) = d := by rw [DD.out, cmpD_eq]; exact decide_eq_decide.2 ⟨fun h => ⟨N.out.r1, N.out.rq, N.out.s0, N.out.sq, Int.ofNat_inj.1 h⟩, fun h => by rw [h.2.2.2.2]⟩
  obtain ⟨cv, hcv⟩ : ∃ cv, cv = cmpI (((G ^ (z * invQ s Q % Q) % P) * (Y ^ (r * invQ s Q % Q) % P) % P % Q : Nat) : Int) (r : Int) := ⟨_, rfl⟩
  rw [← hcv] at CV hb
  clear hcv
  go_wp2_with fail
  refine CV.out.mono ?_
  rintro en wq ⟨rfl, n2, rfl⟩
  go_wp2_with fail
  go_ret
  exact ⟨rfl, O11.out.narrow (fun _ h => h) (O11.out.since.drew n2)⟩
end
end Go.Proofs.YtohhkjamddojmaaGreatDoor.Big
