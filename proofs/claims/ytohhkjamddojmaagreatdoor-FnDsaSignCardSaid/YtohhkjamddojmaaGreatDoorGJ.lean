/- For the package's Sign: the inverse by a power. Random bytes from a source: read. Random bytes from a source: io.ReadFull. Bytes of a number of one word. A signature made is a signature taken; one of two attempts has an s. Blocks held that are no Ints'; many blocks turned. The package's Sign over a source of fresh bytes. -/
import Derived.Test.YtohhkjamddojmaaGreatDoorDE
import Derived.Test.YtohhkjamddojmaaGreatDoorLA
import Derived.Test.YtohhkjamddojmaaGreatDoorDC
namespace Go.Proofs.YtohhkjamddojmaaGreatDoor.Big
open Go.RowKit NumLaw
attribute [local go_sem] ptr
attribute [local irreducible] Sz

section
variable {R : Nat → Prop} {w0 w w' : World} {L L' : List (Nat × Int)}
set_option maxHeartbeats 4000000 in
set_option maxRecDepth 100000 in
theorem fermO (h : Own R w0 w L) (i j : Nat) {zk zq : Nat} (K Q : Nat) (hi : L[i]? = some (zk, (K : Int))) (hj : L[j]? = some (zq, (Q : Int))) (hK : K < B64) (hQ : Q < B64) (hQ2 : 2 ≤ Q) :
    Calls Tryz.prog 129 #[ptr zk, ptr zq] w (NewO R w0 (invQ K Q : Nat) L) := by
  have H2 := Lib.hid (newIntO h.since 2 (by decide))
  have HI := Lib.hid hi
  have HJ := Lib.hid hj
  have HB := Lib.hid (And.intro hK (And.intro hQ hQ2))
  have HS := Lib.hid h
  clear h hi hj hK hQ hQ2
  unfold ptr at *
  go_enter Tryz.func129, Tryz.ntmps129
  go_wp2_with fail
  refine H2.out.mono ?_
  rintro en w1 ⟨z, rfl, h1, hR1⟩
  obtain ⟨hN, hR⟩ := h1.new
  have NR1 := Lib.hid hR1
  have NR2 := Lib.hid hR
  have HN := Lib.hid hN
  clear h1 hR1 hN hR H2
  go_wp2_with fail
  refine (subO HN.out 0 (j + 2) 1 rfl HJ.out rfl NR2.out (szN HB.out.2.1 (by decide)) (Sz.le (m := 64) (show Sz 64 ((2 : Nat) : Int) from szN (by decide) (Nat.le_refl _)) (by decide))).mono ?_
  rintro en w2 ⟨rfl, h2⟩
  have e : (Q : Int) - ((2 : Nat) : Int) = ((Q - 2 : Nat) : Int) := by have := HB.out.2.2; omega
  have O2 := Lib.hid (show Own R w w2 ((w1.heap.size, ((Q - 2 : Nat) : Int)) :: (z, ((2 : Nat) : Int)) :: L) from by rw [← e]; exact h2)
  obtain ⟨hN, hR⟩ := O2.out.new
  have NR3 := Lib.hid hR
  have HN2 := Lib.hid hN
  clear h2 e hN hR HN
  go_wp2_with fail
  refine (ExpAnyO HN2.out 0 (i + 3) 1 (j + 3) K (Q - 2) Q rfl HI.out rfl HJ.out (by omega) NR3.out HB.out.1 (Nat.lt_of_le_of_lt (Nat.sub_le _ _) HB.out.2.1) HB.out.2.1 HB.out.2.2).mono ?_
  rintro en w3 ⟨rfl, h3⟩
  have O3 := Lib.hid (show Own R w w3 ((w2.heap.size, ((K ^ (Q - 2) % Q : Nat) : Int)) :: L) from Own.choose (L := L) (A := [(w2.heap.size, ((K ^ (Q - 2) % Q : Nat) : Int)), (w1.heap.size, ((Q - 2 : Nat) : Int)), (z, ((2 : Nat) : Int))]) h3 [0] (by decide) (by simp))
  clear h3
  go_wp2_with fail
  go_ret
  exact ⟨_, rfl, HS.out.after O3.out, NR3.out⟩
end
end Go.Proofs.YtohhkjamddojmaaGreatDoor.Big

namespace Go.Proofs.YtohhkjamddojmaaGreatDoor.Big
open Go.RowKit NumLaw
attribute [local go_sem] ptr

section
variable {R : Nat → Prop} {w0 w w' : World} {L L' : List (Nat × Int)}
def ReadP (sb bb rb o n c a0 a1 : Nat) (w : World) (e : Ending) (w' : World) : Prop :=
  e = .returned (.tuple #[.int .i64 2, Value.nilIface]) ∧ w'.heap[sb]? = some (.cells #[.slice (some ⟨rb, o + 2, .none⟩) (n - 2) (c - 2), .int .i64 0] 155) ∧ w'.heap[bb]? = some (.cells #[.int .u8 a0, .int .u8 a1] 5) ∧ Grow w w' (fun k => k = sb ∨ k = bb)
set_option maxHeartbeats 4000000 in
set_option maxRecDepth 100000 in
theorem readS (sb bb rb o n c x y a0 a1 : Nat) (hs : w.heap[sb]? = some (.cells #[.slice (some ⟨rb, o, .none⟩) n c, .int .i64 0] 155)) (hb : w.heap[bb]? = some (.cells #[.int .u8 x, .int .u8 y] 5))
    (c0 : w.cell? ⟨rb, o, .none⟩ = some (.int .u8 a0)) (c1 : w.cell? ⟨rb, o + 1, .none⟩ = some (.int .u8 a1)) (h1 : sb ≠ bb) (hn : 2 < n) (hc : n ≤ c) :
    Calls Tryz.prog 303 #[ptr sb, .slice (some ⟨bb, 0, .none⟩) 2 2] w (ReadP sb bb rb o n c a0 a1 w) := by
  have s0 := block_cell (k := 0) hs rfl
  have s1 := block_cell (k := 1) hs rfl
  have f0 := block_free (o := 0) hs
  have b0 := block_cell (k := 0) hb rfl
  have b1 := block_cell (k := 1) hb rfl
  have g0 := block_free (o := 0) hb
  have g1 := block_free (o := 1) hb
  obtain ⟨w1, hw1, hb1, hg1⟩ : ∃ w1, Sem.run Tryz.prog (Builtin.copy_ #[25, 25] 3 #[.slice (some ⟨bb, 0, .none⟩) 2 2, .slice (some ⟨rb, o, .none⟩) n c]) w = .ok (.int .i64 2) w1 ∧ w1.heap[bb]? = some (.cells #[.int .u8 a0, .int .u8 a1] 5) ∧ w.grownBy w1 (some bb) := by
    refine ⟨w.setRow bb #[.int .u8 a0, .int .u8 a1], ?_, setRow_heap w bb _ _ 5 (0, 0) hb, grown_setRow _ _ _⟩
    exact run_copy_row (P := Tryz.prog) w 25 25 3 5 bb 0 2 2 ⟨rb, o, .none⟩ n c #[.int .u8 x, .int .u8 y] 5 [.int .u8 a0, .int .u8 a1] (by kernel_rfl) (by kernel_rfl) hb (show (2 : Nat) = Nat.min n 2 from (Nat.min_eq_right (by omega)).symm)
      (fun j v hj => by
        match j, hj with
        | 0, hj => cases hj; exact c0
        | 1, hj => cases hj; exact c1) (by simp) (by intro v hv; simp at hv; rcases hv with rfl | rfl <;> rfl)
  have HC := Lib.hid hw1
  have t0 := (hg1.block sb (Array.getElem?_eq_some_iff.1 hs).1 (fun e => h1 (Option.some.inj e))).trans hs
  have s0' := block_cell (k := 0) t0 rfl
  have s1' := block_cell (k := 1) t0 rfl
  have f0' := block_free (o := 0) t0
  have HB := Lib.hid (And.intro hb1 (And.intro hg1 t0))
  have d1 : ¬ n < 2 := by omega
  clear hw1 hb1 hg1 t0
  have n1 : ¬ n = 0 := by omega
  have n2 : ¬ (n : Int) = 0 := by omega
  unfold ptr at *
  go_enter Tryz.func303, Tryz.ntmps303
  go_wp2_with fail
  rw [show Sem.run Tryz.prog (Builtin.copy_ #[25, 25] 3 #[.slice (some ⟨bb, 0, .none⟩) 2 2, .slice (some ⟨rb, o, .none⟩) n c]) w = _ from HC.out]
  go_wp2_with fail
  have h2 := setc HB.out.2.2 0 (.slice (some ⟨rb, o + 2, .none⟩) (n - 2) (c - 2))
  have g2 := grown_set w1 sb 0 (.slice (some ⟨rb, o + 2, .none⟩) (n - 2) (c - 2))
  have hb2 := (g2.block bb (Array.getElem?_eq_some_iff.1 HB.out.1).1 (fun e => h1 (Option.some.inj e).symm)).trans HB.out.1
  have hG : Grow w (w1.setCell ⟨sb, 0, .none⟩ (.slice (some ⟨rb, o + 2, .none⟩) (n - 2) (c - 2))) (fun k => k = sb ∨ k = bb) :=
    ((Grow.of HB.out.2.1).weaken (fun k _ e => .inr (Option.some.inj e).symm)).trans ((Grow.of g2).weaken (fun k _ e => .inl (Option.some.inj e).symm))
  simp [bodyPost, results, Tryz.results303, go_sem, ReadP]
  exact ⟨h2, hb2, hG⟩
end
end Go.Proofs.YtohhkjamddojmaaGreatDoor.Big

namespace Go.Proofs.YtohhkjamddojmaaGreatDoor.Big
open Go.RowKit NumLaw
attribute [local go_sem] ptr

theorem method_read (a : Addr) (w : World) : (method 437 153 (.pointer (some a)) "Read").run Tryz.prog w = .ok (303, .pointer (some a)) w := by kernel_rfl
theorem ahead_read (a : Addr) (w : World) : (nilAhead 437 153 (.pointer (some a)) "Read").run Tryz.prog w = .ok (some false) w := by kernel_rfl
section
variable {R : Nat → Prop} {w0 w w' : World} {L L' : List (Nat × Int)}
set_option maxHeartbeats 4000000 in
set_option maxRecDepth 100000 in
theorem readAtS (sb bb rb o n c x y a0 a1 : Nat) (hs : w.heap[sb]? = some (.cells #[.slice (some ⟨rb, o, .none⟩) n c, .int .i64 0] 155)) (hb : w.heap[bb]? = some (.cells #[.int .u8 x, .int .u8 y] 5))
    (c0 : w.cell? ⟨rb, o, .none⟩ = some (.int .u8 a0)) (c1 : w.cell? ⟨rb, o + 1, .none⟩ = some (.int .u8 a1)) (h1 : sb ≠ bb) (hn : 2 < n) (hc : n ≤ c) :
    Calls Tryz.prog 159 #[.iface 153 (ptr sb), .slice (some ⟨bb, 0, .none⟩) 2 2, .int .i64 2] w (ReadP sb bb rb o n c a0 a1 w) := by
  have HC := Lib.hid (fun k => (show Calls Tryz.prog 303 #[ptr sb, .slice (some ⟨bb, 0, .none⟩) 2 2] (w.drewN k) (ReadP sb bb rb o n c a0 a1 (w.drewN k)) from readS sb bb rb o n c x y a0 a1 hs hb c0 c1 h1 hn hc))
  clear hs hb c0 c1 hn hc
  have hm := method_read
  have hna := ahead_read
  unfold ptr at *
  go_enter Tryz.func159, Tryz.ntmps159
  go_wp2_with fail
  go_loopw [6, 7] (fun a b wr => (a = .int .i64 0 ∧ b = .nilIface ∧ wr = w) ∨ (a = .int .i64 2 ∧ b = .nilIface ∧ RowKit.Hid (ReadP sb bb rb o n c a0 a1 w (.returned (.tuple #[.int .i64 2, Value.nilIface])) wr))) (fun a _ _ => (2 - intOf a).toNat)
  case atStart => exact .inl ⟨rfl, rfl, rfl⟩
  case round =>
    rcases hrel with ⟨rfl, rfl, rfl⟩ | ⟨rfl, rfl, HR⟩
    · go_upto_region 5 with fail
      go_region_with ((go_at_call 303; refine (HC.out _).mono ?_; rintro e w1 ⟨rfl, x1, x2, x3⟩; have X := Lib.hid (And.intro x1 (And.intro x2 x3)); clear x1 x2 x3))
      all_goals
        go_wp2_with fail
        exact ⟨.inr ⟨rfl, rfl, ⟨rfl, X.out.1, X.out.2.1, (Grow.none (grown_drewN _ _ .none) _).trans X.out.2.2⟩⟩, by decide⟩
    · go_wp2_with fail
      go_ret2
      exact HR.out
set_option maxHeartbeats 4000000 in
set_option maxRecDepth 100000 in
theorem readFullS (sb bb rb o n c x y a0 a1 : Nat) (hs : w.heap[sb]? = some (.cells #[.slice (some ⟨rb, o, .none⟩) n c, .int .i64 0] 155)) (hb : w.heap[bb]? = some (.cells #[.int .u8 x, .int .u8 y] 5))
    (c0 : w.cell? ⟨rb, o, .none⟩ = some (.int .u8 a0)) (c1 : w.cell? ⟨rb, o + 1, .none⟩ = some (.int .u8 a1)) (h1 : sb ≠ bb) (hn : 2 < n) (hc : n ≤ c) :
    Calls Tryz.prog 128 #[.iface 153 (ptr sb), .slice (some ⟨bb, 0, .none⟩) 2 2] w (ReadP sb bb rb o n c a0 a1 w) := by
  have HC := Lib.hid (readAtS sb bb rb o n c x y a0 a1 hs hb c0 c1 h1 hn hc)
  clear hs hb c0 c1 hn hc
  unfold ptr at *
  go_enter Tryz.func128, Tryz.ntmps128
  go_wp2_with fail
  refine HC.out.mono ?_
  rintro e w1 ⟨rfl, x1, x2, x3⟩
  have X := Lib.hid (And.intro x1 (And.intro x2 x3))
  clear x1 x2 x3
  go_wp2_with fail
  go_ret2
  exact ⟨rfl, X.out⟩
end
end Go.Proofs.YtohhkjamddojmaaGreatDoor.Big

namespace Go.Proofs.YtohhkjamddojmaaGreatDoor.Big
open Go.RowKit NumLaw
attribute [local go_sem] ptr

/-- the row of eight bytes, the last two of them hi and lo -/
def row8 (hi lo : Nat) : Array Value := #[.int .u8 0, .int .u8 0, .int .u8 0, .int .u8 0, .int .u8 0, .int .u8 0, .int .u8 (hi : Nat), .int .u8 (lo : Nat)]
/-- how far it is written -/
def RowAt (w : World) (g n : Nat) (j : Nat) (wr : World) : Prop :=
  wr.heap[g]? = some (.cells (row8 (if 2 ≤ j then n / 256 else 0) (if 1 ≤ j then n % 256 else 0)) 5) ∧ w.grownBy wr (some g)
theorem RowAt.next {w wr : World} {g n j : Nat} (hn2 : n < 65536) (h : RowAt w g n j wr) (hj : j < 8) : RowAt w g n (j + 1) (wr.setCell ⟨g, 7 - j, .none⟩ (.int .u8 (n / 256 ^ j % 256 : Nat))) := by
  refine ⟨?_, grown_trans h.2 (grown_set _ _ _ _)⟩
  rw [setc h.1]
  congr 2
  match j, hj with
  | 0, _ => simp [row8]
  | 1, _ =>
    have e : n / 256 ^ 1 % 256 = n / 256 := by rw [Nat.pow_one, Nat.mod_eq_of_lt (by omega)]
    rw [e]
    simp [row8]
  | 2, _ | 3, _ | 4, _ | 5, _ | 6, _ | 7, _ =>
    have e : n / 256 ^ 2 = 0 := Nat.div_eq_of_lt (by omega)
    simp [row8]
    try omega
set_option maxHeartbeats 4000000 in
set_option maxRecDepth 100000 in
theorem bytesS (p : Option Addr) (ds : List Nat) (g n : Nat) (w : World) (hn : 0 < n) (hn2 : n < 65536) (hx : Num w p (dg n) ds)
    (hg : w.heap[g]? = some (.cells (row8 0 0) 5)) :
    Calls Tryz.prog 102 #[.slice p (dg n).length ds.length, .slice (some ⟨g, 0, .none⟩) 8 8] w (fun e w' => e = .returned (.int .i64 (if n < 256 then 7 else 6 : Nat)) ∧ RowAt w g n 8 w') := by
  have hd : dg n = [n] := by
    rw [dg_one (by unfold B64; omega)]; unfold word1; rw [if_neg (by omega)]
  rw [hd] at hx ⊢
  obtain ⟨b, tl, rfl, rfl, hN⟩ : ∃ b tl, p = some ⟨b, 0, .none⟩ ∧ ds = n :: tl ∧ NatB w b (n :: tl) := by
    have ht := hx.take
    match ds, ht with
    | k :: tl, ht =>
      obtain rfl : k = n := by simpa using ht
      rcases hx.buf.1 with ⟨_, e⟩ | ⟨b, e, hN⟩
      · cases e
      · exact ⟨b, tl, e, rfl, hN⟩
  have c0 : w.cell? ⟨b, 0, .none⟩ = some (.int .u64 (n : Nat)) := block_cell (k := 0) hN rfl
  have R0 := Lib.hid (show RowAt w g n 0 w from ⟨hg, grown_refl _ _⟩)
  have HN := Lib.hid (And.intro hn hn2)
  obtain ⟨v, hv⟩ : ∃ v, v = (if n < 256 then 7 else 6 : Nat) := ⟨_, rfl⟩
  rw [← hv]
  have HV := Lib.hid hv
  clear hx hg hd hN hn hn2 hv
  have hl : [n].length = 1 := rfl
  rw [hl]
  clear hl
  generalize (n :: tl).length = cap
  go_enter Tryz.func102, Tryz.ntmps102
  go_wp2_with fail
  go_loopw [4, 12] (fun a b wr => (a = .int .i64 8 ∧ b = .int .i64 0 ∧ wr = w) ∨ (a = .int .i64 0 ∧ b = .int .i64 1 ∧ RowKit.Hid (RowAt w g n 8 wr))) (fun _ b _ => (1 - intOf b).toNat)
  case atStart => exact .inl ⟨rfl, rfl, rfl⟩
  case round =>
    rcases hrel with ⟨rfl, rfl, rfl⟩ | ⟨rfl, rfl, HR⟩
    · go_wp2_with fail
      go_loopw [4, 6, 7] (fun a b c wr2 => ∃ j : Nat, j ≤ 8 ∧ a = .int .i64 (8 - j : Nat) ∧ b = .int .u64 (n / 256 ^ j : Nat) ∧ c = .int .i64 j ∧ RowKit.Hid (RowAt wr g n j wr2)) (fun a _ _ _ => (intOf a).toNat)
      case atStart => exact ⟨0, by decide, rfl, by rw [Nat.pow_zero, Nat.div_one], rfl, R0⟩
      case round =>
        obtain ⟨j, hj, rfl, rfl, rfl, HR⟩ := hrel
        by_cases h8 : j = 8
        · subst h8
          go_wp2_with fail
          exact ⟨.inr ⟨rfl, rfl, HR⟩, by decide⟩
        · have j1 : (j : Int) < 8 := by omega
          obtain ⟨k, hk⟩ : ∃ k, 8 - j = k + 1 := ⟨7 - j, by omega⟩
          have k8 : k < 8 := by omega
          have k0 : (0 : Int) ≤ k := by omega
          have kI : (k : Int) < 8 := by omega
          rw [hk]
          obtain ⟨D, hD⟩ : ∃ D, D = n / 256 ^ j := ⟨_, rfl⟩
          rw [← hD]
          obtain ⟨z, hz⟩ : ∃ z, wr.cell? ⟨g, k, .none⟩ = some z := by
            have h := HR.out.1
            match k, k8 with
            | 0, _ | 1, _ | 2, _ | 3, _ | 4, _ | 5, _ | 6, _ | 7, _ => exact ⟨_, block_cell h rfl⟩
          have fz := block_free (o := k) HR.out.1
          have ND := Lib.hid (show n / 256 ^ (j + 1) = D / 256 by rw [hD, Nat.pow_succ, Nat.div_div_eq_div_mul])
          have NR := Lib.hid (show RowAt _ g n (j + 1) (wr.setCell ⟨g, k, .none⟩ (.int .u8 (D % 256 : Nat))) from by
            have := HR.out.next HN.out.2 (show j < 8 by omega)
            rw [← hD, show 7 - j = k by omega] at this
            exact this)
          have HJ := Lib.hid (And.intro hk (And.intro h8 hj))
          clear hk h8 hD hj
          go_wp2_with fail
          exact ⟨⟨j + 1, by have := HJ.out.2; omega, by rw [show 8 - (j + 1) = k by have := HJ.out.1; omega], by rw [ND.out]; rfl, rfl, NR.out⟩, by simp [intOf]⟩
    · go_wp2_with fail
      go_loop [4] (fun a => ∃ i : Nat, i ≤ v ∧ a = .int .i64 i) (fun a => (v - intOf a).toNat)
      case atStart => exact ⟨0, Nat.zero_le _, rfl⟩
      case round =>
        obtain ⟨i, hi, rfl⟩ := hrel
        have hrow : wr.heap[g]? = some (.cells (row8 (n / 256) (n % 256)) 5) := HR.out.1
        have v8 : v < 8 := by rw [HV.out]; split <;> omega
        have i8 : i < 8 := by omega
        have iI : (i : Int) < 8 := by omega
        rcases Nat.lt_or_ge i v with h | h
        · have zc : wr.cell? ⟨g, i, .none⟩ = some (.int .u8 0) := by
            have e6 : i = 6 → n / 256 = 0 := fun e => by
              have := HV.out
              split at this <;> omega
            have i7 : i < 7 := by omega
            clear h hi iI i8
            match i, i7, e6 with
            | 0, _, _ | 1, _, _ | 2, _, _ | 3, _, _ | 4, _, _ | 5, _, _ => exact block_cell hrow rfl
            | 6, _, e6 =>
              have := block_cell (k := 6) hrow rfl
              rw [this]
              simp [row8, e6 rfl]
          have HH := Lib.hid h
          clear hrow h hi
          go_wp2_with fail
          exact ⟨⟨i + 1, HH.out, rfl⟩, by have := HH.out; simp only [intOf]; omega⟩
        · obtain rfl : i = v := by omega
          obtain ⟨m, hm, hm0⟩ : ∃ m : Nat, wr.cell? ⟨g, i, .none⟩ = some (.int .u8 (m : Nat)) ∧ ¬ m = 0 := by
            have hv := HV.out
            have := HN.out
            split at hv
            · subst hv
              exact ⟨n % 256, block_cell hrow rfl, by omega⟩
            · subst hv
              exact ⟨n / 256, block_cell hrow rfl, by omega⟩
          have hmI : ¬ (m : Int) = 0 := by omega
          clear hrow h hi v8
          go_wp2_with fail
          go_ret
          exact ⟨rfl, HR.out⟩
section
variable {R : Nat → Prop} {w0 w w' : World} {L L' : List (Nat × Int)}
/-- the bytes of a number below 65536, without a nought ahead: one or two -/
def BytP (R : Nat → Prop) (w0 : World) (L : List (Nat × Int)) (n : Nat) (e : Ending) (w' : World) : Prop :=
  ∃ (g o : Nat) (ks : List Nat), e = .returned (.slice (some ⟨g, o, .none⟩) ks.length ks.length) ∧ ks.length ≤ 2 ∧ Own R w0 w' L ∧ Own (RO R g) w' w' L ∧ BytesOf (RO R g) w' g o ks.length ks n
/-- behind what turns one block alone, which is no Int's and no number's -/
theorem Own.pokeG (h : Own R w0 w L) {c : Nat} {cs : Array Value} {T : TypeId} (hc : w.heap[c]? = some (.cells cs T)) (h1 : T ≠ 172) (h2 : T ≠ 199) (h8 : 8 ≤ c) (hg : w.grownBy w' (some c)) :
    Own R w' w' L := by
  obtain ⟨ps, qs, hf⟩ := h.ints
  refine ⟨⟨ps, qs, ⟨fun k hk => Nat.lt_of_lt_of_le (hf.old k hk) hg.size, hf.lenV, hf.lenP, hf.lenQ, fun i z v p q e1 e2 e3 e4 => ?_, hf.own, hf.zz, hf.pp, hf.zp⟩⟩, Kept.refl _ _, h.tab.kept hg (fun b e => by have := Option.some.inj e; omega), h.low⟩
  have one := hf.one i z v p q e1 e2 e3 e4
  refine one.grow (Grow.of hg) ?_ ?_
  · intro e
    have e := Option.some.inj e
    subst e
    have := one.str
    unfold StrB at this
    rw [hc] at this
    have := Option.some.inj this
    injection this with _ e2 _
    exact h1 e2
  · intro b hb e
    have e := Option.some.inj e
    subst e
    rcases one.num.buf.1 with ⟨e3, _⟩ | ⟨b', e3, hN⟩
    · rw [e3] at hb; cases hb
    · rw [e3] at hb
      have := Option.some.inj hb
      subst this
      unfold NatB at hN
      rw [hc] at hN
      have := Option.some.inj hN
      injection this with _ e2 _
      exact h2 e2
theorem Own.pokeN (h : Own R w0 w L) {c : Nat} {cs : Array Value} {T : TypeId} (hc : w.heap[c]? = some (.cells cs T)) (h1 : T ≠ 172) (h2 : T ≠ 199) (hR : ¬ R c) (hg : w.grownBy w' (some c)) :
    Own R w0 w' L := by
  have h8 : 8 ≤ c := Nat.le_of_not_lt (fun e => hR (h.low c e))
  have p := h.pokeG hc h1 h2 h8 hg
  exact ⟨p.ints, h.kept.trans ((Grow.of hg).weaken (fun k _ e hk => hR (by have := Option.some.inj e; exact this ▸ hk))), p.tab, h.low⟩
theorem mk8 (w : World) : (Instr.makeSlice 25 (.int .i64 8) (.int .i64 8)).run Tryz.prog w = .ok (.slice (some ⟨w.heap.size, 0, .none⟩) 8 8) (w.alloc (.cells #[.int .u8 0, .int .u8 0, .int .u8 0, .int .u8 0, .int .u8 0, .int .u8 0, .int .u8 0, .int .u8 0] 5)) := by
  obtain ⟨i0, hi, hz0, hz1, hz2⟩ := info_parts info5
  have := run_make (P := Tryz.prog) w 25 5 i0 (.int .u8 0) Tryz.underlying25 hi hz0 .i64 .i64 8 8 (by decide) (by decide) (by rw [hz2]; decide) (by decide)
  rw [this, hz1, show madeCells (Value.int .u8 0).cells (Int.toNat 8 * 1) = #[.int .u8 0, .int .u8 0, .int .u8 0, .int .u8 0, .int .u8 0, .int .u8 0, .int .u8 0, .int .u8 0] by kernel_rfl]
  rfl
theorem mk2 (w : World) : (Instr.makeSlice 25 (.int .i64 2) (.int .i64 2)).run Tryz.prog w = .ok (.slice (some ⟨w.heap.size, 0, .none⟩) 2 2) (w.alloc (.cells #[.int .u8 0, .int .u8 0] 5)) := by
  obtain ⟨i0, hi, hz0, hz1, hz2⟩ := info_parts info5
  have := run_make (P := Tryz.prog) w 25 5 i0 (.int .u8 0) Tryz.underlying25 hi hz0 .i64 .i64 2 2 (by decide) (by decide) (by rw [hz2]; decide) (by decide)
  rw [this, hz1, show madeCells (Value.int .u8 0).cells (Int.toNat 2 * 1) = #[.int .u8 0, .int .u8 0] by kernel_rfl]
  rfl
set_option maxHeartbeats 4000000 in
set_option maxRecDepth 100000 in
theorem intBytesO (h : Own R w0 w L) (j : Nat) {x : Nat} (n : Nat) (hj : L[j]? = some (x, (n : Int))) (hn : 0 < n) (hn2 : n < 65536) :
    Calls Tryz.prog 57 #[ptr x] w (BytP R w0 L n) := by
  have hb := h.box (.cells #[.int .u8 0, .int .u8 0, .int .u8 0, .int .u8 0, .int .u8 0, .int .u8 0, .int .u8 0, .int .u8 0] 5)
  have n0 := heap_alloc_new w (.cells #[.int .u8 0, .int .u8 0, .int .u8 0, .int .u8 0, .int .u8 0, .int .u8 0, .int .u8 0, .int .u8 0] 5)
  have g1 := h.guard (.cells #[.int .u8 0, .int .u8 0, .int .u8 0, .int .u8 0, .int .u8 0, .int .u8 0, .int .u8 0, .int .u8 0] 5)
  have hRg : ¬ R w.heap.size := fun e => by have := h.old e; omega
  have hg8 : 8 ≤ w.heap.size := Nat.le_of_not_lt (fun e => hRg (h.low _ e))
  obtain ⟨ps, qs, hf⟩ := hb.ints
  obtain ⟨a', px, dx, ha', hpx, hqx, ox⟩ := hf.at (at1 hj)
  obtain rfl : (n : Int) = a' := by rw [at2 hj] at ha'; exact Option.some.inj ha'
  have hx1 := ox.str.cell1
  have hN := ox.num
  obtain ⟨-, -, p1, c1, hc1⟩ := h.cells hj
  rw [Int.natAbs_natCast] at hx1 hN hc1
  have hl : (dg n).length = 1 := by rw [dg_one (by unfold B64; omega)]; unfold word1; rw [if_neg (by omega)]; rfl
  have HB := Lib.hid (bytesS px dx w.heap.size n _ hn hn2 hN n0)
  rw [hl] at HB hx1 hc1
  have HH := Lib.hid (And.intro hb (And.intro n0 (And.intro g1 (And.intro hRg (And.intro hg8 (And.intro hn hn2))))))
  obtain ⟨v, hv⟩ : ∃ v, v = (if n < 256 then 7 else 6 : Nat) := ⟨_, rfl⟩
  rw [← hv] at HB
  have v8 : v < 8 := by rw [hv]; split <;> omega
  have HV := Lib.hid hv
  clear h hf hj ha' hpx hqx ox hN hn hn2 hb n0 g1 hRg hg8 hl hv
  unfold ptr
  have hm := mk8 w
  go_enter Tryz.func57, Tryz.ntmps57
  go_wp2_with fail
  refine HB.out.mono ?_
  rintro e w1 ⟨rfl, h1⟩
  have H1 := Lib.hid h1
  clear h1
  have v8I : (v : Int) ≤ 8 := by omega
  have v8n : ¬ v = 8 := by omega
  have v8m : ¬ 8 = v := by omega
  go_wp2_with fail
  go_ret
  have hO := HH.out.1.pokeN HH.out.2.1 (by decide) (by decide) HH.out.2.2.2.1 H1.out.2
  have hP := HH.out.2.2.1.pokeG HH.out.2.1 (by decide) (by decide) HH.out.2.2.2.2.1 H1.out.2
  have hrow : w1.heap[w.heap.size]? = some (.cells (row8 (n / 256) (n % 256)) 5) := H1.out.1
  have hn := HH.out.2.2.2.2.2
  have hv := HV.out
  by_cases h : n < 256
  · rw [if_pos h] at hv
    subst hv
    refine ⟨w.heap.size, 7, [n], rfl, by simp, hO, hP, ⟨RO.self _ _, fun i hi => ?_, fun i => ?_, by simp, Nat.le_refl _, by simp [bev]⟩⟩
    · match i, hi with
      | 0, _ =>
        have := block_cell (k := 7) hrow rfl
        rw [show 7 + 0 = 7 from rfl, this]
        simp [row8, Nat.mod_eq_of_lt h]
    · match i with
      | 0 => exact h
      | i + 1 => simp
  · rw [if_neg h] at hv
    subst hv
    refine ⟨w.heap.size, 6, [n / 256, n % 256], rfl, by simp, hO, hP, ⟨RO.self _ _, fun i hi => ?_, fun i => ?_, by simp, Nat.le_refl _, by simp [bev]; omega⟩⟩
    · match i, hi with
      | 0, _ => exact block_cell (k := 6) hrow rfl
      | 1, _ => exact block_cell (k := 7) hrow rfl
    · match i with
      | 0 => show n / 256 < 256; omega
      | 1 => show n % 256 < 256; omega
      | i + 2 => simp
end
end Go.Proofs.YtohhkjamddojmaaGreatDoor.Big

namespace Go.Proofs.YtohhkjamddojmaaGreatDoor.Big
open Go.RowKit NumLaw

theorem mulc {a b Q : Nat} (c : Nat) (h : a % Q = b % Q) : a * c % Q = b * c % Q := by rw [Nat.mul_mod, h, ← Nat.mul_mod]
theorem pow_ord {G Q P : Nat} (hP : 2 ≤ P) (h : G ^ Q % P = 1) (E : Nat) : G ^ E % P = G ^ (E % Q) % P := by
  have e : G ^ E = (G ^ Q) ^ (E / Q) * G ^ (E % Q) := by rw [← Nat.pow_mul, ← Nat.pow_add, Nat.div_add_mod]
  rw [e, Nat.mul_mod, Nat.pow_mod, h, Nat.one_pow, Nat.mod_eq_of_lt (show 1 < P by omega), Nat.one_mul, Nat.mod_mod]
/-- the s of a secret number k -/
def sOf (Q X z k r : Nat) : Nat := (X * r + z) % Q * invQ k Q % Q
theorem dsa_ok {P Q G Y X z k r s : Nat} (h : KeyN P Q G Y X) (k0 : 0 < k) (kQ : k < Q) (hr : r = G ^ k % P % Q) (r0 : 0 < r) (hs : s = sOf Q X z k r) (s0 : 0 < s) : verB P Q G Y z r s = true := by
  have hQ0 : 0 < Q := by omega
  have rQ : r < Q := by rw [hr]; exact Nat.mod_lt _ hQ0
  have sQ : s < Q := by rw [hs]; exact Nat.mod_lt _ hQ0
  have dk : ¬ Q ∣ k := fun e => by have := Nat.le_of_dvd k0 e; omega
  have ds : ¬ Q ∣ s := fun e => by have := Nat.le_of_dvd s0 e; omega
  have hk := invQ_mul h.q dk
  have hw := invQ_mul h.q ds
  have hP2 : 2 ≤ P := h.p.1
  unfold verB
  rw [decide_eq_true_eq]
  refine ⟨r0, rQ, s0, sQ, ?_⟩
  have e1 : s * k % Q = (X * r + z) % Q := by
    rw [hs]; unfold sOf
    rw [Nat.mod_mul_mod, Nat.mul_assoc, Nat.mul_mod, hk, Nat.mul_one, Nat.mod_mod, Nat.mod_mod]
  have e2 : (z * invQ s Q % Q + X * (r * invQ s Q % Q)) % Q = k := by
    rw [Nat.add_mod, Nat.mod_mod, Nat.mul_mod X, Nat.mod_mod, ← Nat.mul_mod, ← Nat.add_mod]
    rw [show z * invQ s Q + X * (r * invQ s Q) = (X * r + z) * invQ s Q by rw [Nat.add_mul, Nat.mul_assoc, Nat.add_comm]]
    rw [← mulc (invQ s Q) e1, show s * k * invQ s Q = k * (invQ s Q * s) by rw [Nat.mul_comm s k, Nat.mul_assoc, Nat.mul_comm s], Nat.mul_mod, hw, Nat.mul_one, Nat.mod_mod, Nat.mod_eq_of_lt kQ]
  have e3 : Y ^ (r * invQ s Q % Q) % P = G ^ (X * (r * invQ s Q % Q)) % P := by rw [h.y, ← Nat.pow_mod, ← Nat.pow_mul]
  rw [e3, ← Nat.mul_mod, ← Nat.pow_add, pow_ord hP2 h.gq, e2, ← hr]
theorem sOf_zero {Q X z k r : Nat} (hq : IsP Q) (k0 : 0 < k) (kQ : k < Q) (h : sOf Q X z k r = 0) : (X * r + z) % Q = 0 := by
  have dk : ¬ Q ∣ k := fun e => by have := Nat.le_of_dvd k0 e; omega
  have hk := invQ_mul hq dk
  have hQ := hq.1
  rcases hq.dvd_mul (Nat.dvd_of_mod_eq_zero h) with h | h
  · have := Nat.mod_lt (X * r + z) (show 0 < Q by omega)
    rcases Nat.eq_zero_or_pos ((X * r + z) % Q) with e | e
    · exact e
    · have := Nat.le_of_dvd e h; omega
  · rw [Nat.mod_eq_zero_of_dvd (Nat.dvd_trans h (Nat.dvd_mul_right _ _))] at hk
    cases hk
theorem dsa_two {Q X z k0 k1 r0 r1 : Nat} (hq : IsP Q) (a0 : 0 < k0) (a1 : k0 < Q) (b0 : 0 < k1) (b1 : k1 < Q) (x0 : 0 < X) (xq : X < Q) (h0 : r0 < Q) (h1 : r1 < Q) (hne : r0 ≠ r1) (e0 : sOf Q X z k0 r0 = 0) (e1 : sOf Q X z k1 r1 = 0) : False := by
  have f0 := Nat.dvd_of_mod_eq_zero (sOf_zero hq a0 a1 e0)
  have f1 := Nat.dvd_of_mod_eq_zero (sOf_zero hq b0 b1 e1)
  have g0 : (Q : Int) ∣ ((X * r0 + z : Nat) : Int) := Int.natCast_dvd_natCast.2 f0
  have g1 : (Q : Int) ∣ ((X * r1 + z : Nat) : Int) := Int.natCast_dvd_natCast.2 f1
  have g := Int.dvd_sub g0 g1
  have e : ((X * r0 + z : Nat) : Int) - ((X * r1 + z : Nat) : Int) = (X : Int) * ((r0 : Int) - r1) := by
    rw [Int.natCast_add, Int.natCast_add, Int.natCast_mul, Int.natCast_mul, Int.mul_sub]; omega
  rw [e] at g
  rcases hq.int _ _ g with g | g
  · have := Nat.le_of_dvd x0 (Int.natCast_dvd_natCast.1 g); omega
  · obtain ⟨c, hc⟩ := g
    have : c = 0 := by
      rcases Int.lt_trichotomy c 0 with h | h | h
      · have := Int.mul_le_mul_of_nonneg_left (show c ≤ -1 by omega) (show (0 : Int) ≤ Q by omega); omega
      · exact h
      · have := Int.mul_le_mul_of_nonneg_left (show 1 ≤ c by omega) (show (0 : Int) ≤ Q by omega); omega
    subst this
    omega
end Go.Proofs.YtohhkjamddojmaaGreatDoor.Big

namespace Go.Proofs.YtohhkjamddojmaaGreatDoor.Big
open Go.RowKit NumLaw
attribute [local go_sem] ptr

section
variable {R : Nat → Prop} {w0 w w' : World} {L L' : List (Nat × Int)}
/-- a block that is no Int's and no number's is held from here on -/
theorem Own.hold (h : Own R w0 w L) {c : Nat} {cs : Array Value} {T : TypeId} (hc : w.heap[c]? = some (.cells cs T)) (h2 : T ≠ 199) : Own (RO R c) w w L := by
  obtain ⟨ps, qs, hf⟩ := h.ints
  have hlt : c < w.heap.size := (Array.getElem?_eq_some_iff.1 hc).1
  refine ⟨⟨ps, qs, ⟨?_, hf.lenV, hf.lenP, hf.lenQ, hf.one, ?_, hf.zz, hf.pp, hf.zp⟩⟩, Kept.refl _ _, h.tab, fun k hk => .inl (h.low k hk)⟩
  · rintro k (hk | rfl)
    · exact hf.old k hk
    · exact hlt
  · intro i z p e1 e2 hz b hbb
    rintro (hr | rfl)
    · exact hf.own i z p e1 e2 (RO.no hz) b hbb hr
    · obtain ⟨v, p', q, hv, hp, hq, one⟩ := hf.at e1
      obtain rfl : p = p' := by rw [e2] at hp; exact Option.some.inj hp
      rcases one.num.buf.1 with ⟨e3, _⟩ | ⟨b', e3, hN⟩
      · rw [e3] at hbb; cases hbb
      · rw [e3] at hbb
        have := Option.some.inj hbb
        subst this
        unfold NatB at hN
        rw [hc] at hN
        have := Option.some.inj hN
        injection this with _ e4 _
        exact h2 e4
/-- blocks turn that are no Ints', no numbers' and not kept -/
theorem Own.pokeS (h : Own R w0 w L) {S : Nat → Prop} (hS : ∀ c, S c → ¬ R c ∧ ∃ cs T, w.heap[c]? = some (.cells cs T) ∧ T ≠ 172 ∧ T ≠ 199) (hg : Grow w w' S) :
    Own R w0 w' L := by
  obtain ⟨ps, qs, hf⟩ := h.ints
  have hk : Kept R w w' := hg.weaken (fun k _ e hk => (hS k e).1 hk)
  refine ⟨⟨ps, qs, ⟨fun k hk => Nat.lt_of_lt_of_le (hf.old k hk) hg.size, hf.lenV, hf.lenP, hf.lenQ, fun i z v p q e1 e2 e3 e4 => ?_, hf.own, hf.zz, hf.pp, hf.zp⟩⟩, h.kept.trans hk, h.tab.keptR hk h.low, h.low⟩
  have one := hf.one i z v p q e1 e2 e3 e4
  refine one.grow hg ?_ ?_
  · intro e
    obtain ⟨-, cs, T, hc, h1, h2⟩ := hS _ e
    have := one.str
    unfold StrB at this
    rw [hc] at this
    have := Option.some.inj this
    injection this with _ e2 _
    exact h1 e2
  · intro b hb e
    obtain ⟨-, cs, T, hc, h1, h2⟩ := hS _ e
    rcases one.num.buf.1 with ⟨e3, _⟩ | ⟨b', e3, hN⟩
    · rw [e3] at hb; cases hb
    · rw [e3] at hb
      have := Option.some.inj hb
      subst this
      unfold NatB at hN
      rw [hc] at hN
      have := Option.some.inj hN
      injection this with _ e2 _
      exact h2 e2
end
end Go.Proofs.YtohhkjamddojmaaGreatDoor.Big

namespace Go.Proofs.YtohhkjamddojmaaGreatDoor.Big
open Go.RowKit NumLaw
attribute [local go_sem] ptr
attribute [local irreducible] Sz

/-- what the bytes of the source must be -/
structure FreshN (P Q G : Nat) (a : Nat → Nat) : Prop where
  lo : ∀ i, i < 4 → 1 ≤ a i
  hi : ∀ i, i < 4 → a i ≤ 127
  r0 : 0 < G ^ (a 0 * 256 + a 1) % P % Q
  r1 : 0 < G ^ (a 2 * 256 + a 3) % P % Q
  ne : G ^ (a 0 * 256 + a 1) % P % Q ≠ G ^ (a 2 * 256 + a 3) % P % Q
/-- the i-th secret number -/
def kOf (a : Nat → Nat) (i : Nat) : Nat := a (2 * i) * 256 + a (2 * i + 1)
section
variable {R : Nat → Prop} {w0 w w' : World} {L L' : List (Nat × Int)}
def SignP (R : Nat → Prop) (w : World) (M : List (Nat × Int)) (P Q G X z : Nat) (e : Ending) (w' : World) : Prop :=
  ∃ zr zs r s k : Nat, e = .returned (.tuple #[ptr zr, ptr zs, Value.nilIface]) ∧ 0 < k ∧ k < Q ∧ r = G ^ k % P % Q ∧ 0 < r ∧ s = sOf Q X z k r ∧ 0 < s ∧ Own R w w' ((zs, (s : Int)) :: (zr, (r : Int)) :: M)
set_option maxHeartbeats 16000000 in
set_option maxRecDepth 100000 in
theorem signIt (b zP zQ zG zY zX sb rb o n c gh oh ch : Nat) (P Q G Y X z : Nat) (kh : List Nat) (a : Nat → Nat) (h : Own R w w ((zY, (Y : Int)) :: (zG, (G : Int)) :: (zQ, (Q : Int)) :: (zP, (P : Int)) :: (zX, (X : Int)) :: L)) (hb : w.heap[b]? = some (.cells #[ptr zP, ptr zQ, ptr zG, ptr zY, ptr zX] 141)) (hRb : R b) (HK : KeyN P Q G Y X) (hF : FreshN P Q G a)
    (hs : w.heap[sb]? = some (.cells #[.slice (some ⟨rb, o, .none⟩) n c, .int .i64 0] 155)) (hRs : ¬ R sb) (hRr : R rb) (hr : ∀ i, i < 4 → w.cell? ⟨rb, o + i, .none⟩ = some (.int .u8 (a i : Nat))) (hn : 8 ≤ n) (hc : n ≤ c) (hB : BytesOf R w gh oh ch kh z) (hz : z < 65536) :
    Calls Tryz.prog 90 #[.iface 153 (ptr sb), ptr b, .slice (some ⟨gh, oh, .none⟩) kh.length ch] w (SignP R w ((zY, (Y : Int)) :: (zG, (G : Int)) :: (zQ, (Q : Int)) :: (zP, (P : Int)) :: (zX, (X : Int)) :: L) P Q G X z) := by
  have K0 := Lib.hid (fun (w' : World) (k : Kept R w w') => (⟨k.cell hRb (block_cell (k := 0) hb rfl), k.cell hRb (block_cell (k := 1) hb rfl), k.cell hRb (block_cell (k := 2) hb rfl), k.cell hRb (block_cell (k := 3) hb rfl), k.cell hRb (block_cell (k := 4) hb rfl)⟩ : w'.cell? ⟨b, 0, .none⟩ = some (ptr zP) ∧ w'.cell? ⟨b, 1, .none⟩ = some (ptr zQ) ∧ w'.cell? ⟨b, 2, .none⟩ = some (ptr zG) ∧ w'.cell? ⟨b, 3, .none⟩ = some (ptr zY) ∧ w'.cell? ⟨b, 4, .none⟩ = some (ptr zX)))
  have HB := Lib.hid hB
  have HRb := Lib.hid hRb
  have HR := Lib.hid (And.intro hRs (And.intro hRr (And.intro hr (And.intro hn hc))))
  have HN := Lib.hid (And.intro HK (And.intro hF hz))
  have q1 : (Q : Int).sign = 1 := Int.sign_eq_one_of_pos (by have := HK.q15; omega)
  have p1 : (P : Int).sign = 1 := Int.sign_eq_one_of_pos (by have := HK.qp; omega)
  have g1 : (G : Int).sign = 1 := Int.sign_eq_one_of_pos (by have := HK.g2; omega)
  have x1 : (X : Int).sign = 1 := Int.sign_eq_one_of_pos (by have := HK.x1; omega)
  have BL := Lib.hid (bitLen16O h 2 Q rfl ⟨HK.q15, HK.q16⟩)
  have SGQ := Lib.hid (q1 ▸ signO h 2 rfl)
  have SGP := Lib.hid (p1 ▸ signO h 3 rfl)
  have SGG := Lib.hid (g1 ▸ signO h 1 rfl)
  have SGX := Lib.hid (x1 ▸ signO h 4 rfl)
  obtain ⟨cP, cQ, cG, cY, cX⟩ := K0.out w (Kept.refl _ _)
  have O0 := Lib.hid (And.intro h hs)
  clear h hb hRb HK hF hs hRs hRr hr hn hc hB hz q1 p1 g1 x1
  unfold ptr at *
  go_enter Tryz.func90, Tryz.ntmps90
  go_wp2_with fail
  refine BL.out.mono ?_
  rintro en wq ⟨rfl, rfl⟩
  go_wp2_with fail
  refine SGQ.out.mono ?_
  rintro en wq ⟨rfl, rfl⟩
  go_wp2_with fail
  refine SGP.out.mono ?_
  rintro en wq ⟨rfl, rfl⟩
  go_wp2_with fail
  refine SGG.out.mono ?_
  rintro en wq ⟨rfl, rfl⟩
  go_wp2_with fail
  refine SGX.out.mono ?_
  rintro en wq ⟨rfl, rfl⟩
  clear BL SGQ SGP SGG SGX cP cQ cG cY cX
  go_wp2_with fail
  go_loopw [10] (fun v wr => ∃ i : Nat, i ≤ 1 ∧ v = .int .i64 (10 - i : Nat) ∧ RowKit.Hid ((i = 1 → sOf Q X z (kOf a 0) (G ^ kOf a 0 % P % Q) = 0) ∧ Own R w wr ((zY, (Y : Int)) :: (zG, (G : Int)) :: (zQ, (Q : Int)) :: (zP, (P : Int)) :: (zX, (X : Int)) :: L) ∧ wr.heap[sb]? = some (.cells #[.slice (some ⟨rb, o + 2 * i, .none⟩) (n - 2 * i) (c - 2 * i), .int .i64 0] 155))) (fun v _ => (intOf v).toNat)
  case atStart => exact ⟨0, by decide, rfl, (fun e => by cases e), O0.out⟩
  case round =>
    obtain ⟨i, hi, rfl, HI⟩ := hrel
    have i0 : (0 : Int) < (10 - i : Nat) := by omega
    have hOi := HI.out.2.1
    have hsi := HI.out.2.2
    obtain ⟨hN, hRk⟩ := hOi.new
    have hlt : sb < wr.heap.size := (Array.getElem?_eq_some_iff.1 hsi).1
    have s1 : (wr.alloc (.cells #[.bool false, .slice .none 0 0] 172)).heap.size = wr.heap.size + 1 := Array.size_push _
    have hNB := hN.box (.cells #[.int .u8 0, .int .u8 0] 5)
    have row := heap_alloc_new (wr.alloc (.cells #[.bool false, .slice .none 0 0] 172)) (.cells #[.int .u8 0, .int .u8 0] 5)
    rw [s1] at row
    have sA := ((grown_alloc wr (.cells #[.bool false, .slice .none 0 0] 172) .none).block sb hlt (by simp)).trans hsi
    have sB := ((grown_alloc (wr.alloc (.cells #[.bool false, .slice .none 0 0] 172)) (.cells #[.int .u8 0, .int .u8 0] 5) .none).block sb (by omega) (by simp)).trans sA
    have hRb : ¬ R (wr.heap.size + 1) := fun e => by have := hN.old e; omega
    have hn' := HR.out.2.2.2.1
    have hc' := HR.out.2.2.2.2
    have RD := Lib.hid (readFullS sb (wr.heap.size + 1) rb (o + 2 * i) (n - 2 * i) (c - 2 * i) 0 0 (a (2 * i)) (a (2 * i + 1)) sB row (hNB.kept.cell HR.out.2.1 (HR.out.2.2.1 (2 * i) (by omega))) (hNB.kept.cell HR.out.2.1 (HR.out.2.2.1 (2 * i + 1) (by omega))) (by omega) (by omega) (by omega))
    have PB := Lib.hid (And.intro hNB (And.intro sB (And.intro row (And.intro hRb (And.intro hRk hlt)))))
    have hm := mk2 (wr.alloc (.cells #[.bool false, .slice .none 0 0] 172))
    rw [s1] at hm
    clear hOi hsi hN hRk hlt hNB row sA sB hRb hn' hc' s1
    go_wp2_with fail
    go_loopw [8] (fun _ wr2 => wr2 = ((wr.alloc (.cells #[.bool false, .slice .none 0 0] 172)).alloc (.cells #[.int .u8 0, .int .u8 0] 5))) (fun _ _ => 0)
    case atStart => rfl
    case round =>
      obtain rfl := hrel
      go_wp2_with fail
      refine RD.out.mono ?_
      rintro en W1 ⟨rfl, x1, x2, x3⟩
      have y1 := PB.out.1.pokeS (S := fun k => k = sb ∨ k = wr.heap.size + 1) (by
        rintro d (rfl | rfl)
        · exact ⟨HR.out.1, _, _, PB.out.2.1, by decide, by decide⟩
        · exact ⟨PB.out.2.2.2.1, _, _, PB.out.2.2.1, by decide, by decide⟩) x3
      have N1 := Lib.hid ((y1.hold x1 (by decide)).hold x2 (by decide))
      have NRk := Lib.hid (show ¬ (RO (RO R sb) (wr.heap.size + 1)) wr.heap.size from fun e => by
        rcases e with (e | e) | e
        · exact PB.out.2.2.2.2.1 e
        · have := PB.out.2.2.2.2.2; omega
        · omega)
      have E1 := Lib.hid (And.intro y1 (And.intro x1 x2))
      have KW := Lib.hid (fun W M (oo : Own (RO (RO R sb) (wr.heap.size + 1)) W1 W M) => (y1.narrow (fun k hk => .inl (.inl hk)) oo).kept)
      have KH := Lib.hid (fun W M (oo : Own (RO (RO R sb) (wr.heap.size + 1)) W1 W M) => K0.out W (y1.narrow (fun k hk => .inl (.inl hk)) oo).kept)
      clear x1 x2 x3 y1 RD
      have KN := Lib.hid (show 0 < kOf a i ∧ kOf a i < 32768 from by
        unfold kOf
        have := HN.out.2.1.lo (2 * i) (by omega)
        have := HN.out.2.1.hi (2 * i) (by omega)
        have := HN.out.2.1.hi (2 * i + 1) (by omega)
        omega)
      have hQ := HN.out.1.q15
      have hQ2 := HN.out.1.q16
      have hP := HN.out.1.p31
      have hQP := HN.out.1.qp
      have QN := Lib.hid (show Q < B64 ∧ P < B64 ∧ 2 ≤ Q ∧ 2 ≤ P ∧ G < B64 ∧ X < B64 ∧ kOf a i < B64 ∧ 0 < Q ∧ 0 < P from by have := HN.out.1.gp; have := HN.out.1.xq; have := KN.out; have e : B64 = 18446744073709551616 := rfl; omega)
      have ksg : ((kOf a i : Nat) : Int).sign = 1 := Int.sign_eq_one_of_pos (by have := KN.out; omega)
      have kcm : cmpI ((kOf a i : Nat) : Int) (Q : Int) = -1 := cmpD_lt (by have := KN.out; omega)
      clear hQ hQ2 hP hQP
      go_wp2_with fail
      refine (setBytesO N1.out 0 (wr.heap.size + 1) 0 2 [a (2 * i), a (2 * i + 1)] rfl NRk.out (RO.self _ _) (fun j hj => by
        match j, hj with
        | 0, _ => exact block_cell (k := 0) E1.out.2.2 rfl
        | 1, _ => exact block_cell (k := 1) E1.out.2.2 rfl) (fun j => by
        match j with
        | 0 => show a (2 * i) < 256; have := HN.out.2.1.hi (2 * i) (by omega); omega
        | 1 => show a (2 * i + 1) < 256; have := HN.out.2.1.hi (2 * i + 1) (by omega); omega
        | j + 2 => simp) (by simp) (by simp)).mono ?_
      rintro en W2 ⟨rfl, x1⟩
      have N2 := Lib.hid (show Own (RO (RO R sb) (wr.heap.size + 1)) W1 W2 ((wr.heap.size, ((kOf a i : Nat) : Int)) :: (zY, (Y : Int)) :: (zG, (G : Int)) :: (zQ, (Q : Int)) :: (zP, (P : Int)) :: (zX, (X : Int)) :: L) from by
        have e : bev [a (2 * i), a (2 * i + 1)] = kOf a i := by simp [bev, kOf]
        rw [← e]; exact x1)
      have SK := Lib.hid (ksg ▸ signO N2.out 0 rfl)
      have CK := Lib.hid (kcm ▸ cmpO N2.out 0 3 rfl rfl (szN QN.out.2.2.2.2.2.2.1 (by decide)))
      obtain ⟨cP, cQ, cG, cY, cX⟩ := KH.out _ _ N2.out
      clear x1 ksg kcm
      go_wp2_with fail
      refine SK.out.mono ?_
      rintro en wq ⟨rfl, rfl⟩
      go_wp2_with fail
      refine CK.out.mono ?_
      rintro en wq ⟨rfl, m1, rfl⟩
      obtain ⟨W3, hW3⟩ : ∃ W3, W3 = W2.drewN m1 := ⟨_, rfl⟩
      have N3 := Lib.hid (show Own (RO (RO R sb) (wr.heap.size + 1)) W1 W3 ((wr.heap.size, ((kOf a i : Nat) : Int)) :: (zY, (Y : Int)) :: (zG, (G : Int)) :: (zQ, (Q : Int)) :: (zP, (P : Int)) :: (zX, (X : Int)) :: L) from by rw [hW3]; exact N2.out.drew m1)
      rw [← hW3]
      clear hW3 SK CK cP cQ cG cY cX
      obtain ⟨cP, cQ, cG, cY, cX⟩ := KH.out _ _ N3.out
      have FE := Lib.hid (fermO N3.out 0 3 (kOf a i) Q rfl rfl QN.out.2.2.2.2.2.2.1 QN.out.1 QN.out.2.2.1)
      go_wp2_with fail
      refine FE.out.mono ?_
      rintro en W4 ⟨ki, rfl, x1, x2⟩
      have N4 := Lib.hid x1
      have NRi := Lib.hid x2
      clear x1 x2 FE cP cQ cG cY cX
      obtain ⟨cP, cQ, cG, cY, cX⟩ := KH.out _ _ N4.out
      have ne4 : ¬ b = W4.heap.size := fun e => by have := N4.out.old (.inl (.inl HRb.out)); omega
      go_upto_region 16 with fail
      go_region_held3 (fun w' => w'.cell? ⟨b, 0, .none⟩ = some (.pointer (some ⟨zP, 0, .none⟩)) ∧ w'.cell? ⟨b, 1, .none⟩ = some (.pointer (some ⟨zQ, 0, .none⟩)) ∧ w'.cell? ⟨b, 2, .none⟩ = some (.pointer (some ⟨zG, 0, .none⟩)) ∧ w'.cell? ⟨b, 3, .none⟩ = some (.pointer (some ⟨zY, 0, .none⟩)) ∧ w'.cell? ⟨b, 4, .none⟩ = some (.pointer (some ⟨zX, 0, .none⟩))) (go_keep) (first | (go_at_call 126; refine (ExpAnyO (N4.out.drew _).new.1 0 4 2 6 G (kOf a i) P rfl rfl rfl rfl (by decide) (N4.out.drew _).new.2 QN.out.2.2.2.2.1 QN.out.2.2.2.2.2.2.1 QN.out.2.1 QN.out.2.2.2.1).mono ?_; rintro en W5 ⟨rfl, x1⟩; have N5 := Lib.hid (show Own (RO (RO R sb) (wr.heap.size + 1)) W1 W5 ((W4.heap.size, ((G ^ kOf a i % P : Nat) : Int)) :: (ki, ((invQ (kOf a i) Q : Nat) : Int)) :: (wr.heap.size, ((kOf a i : Nat) : Int)) :: (zY, (Y : Int)) :: (zG, (G : Int)) :: (zQ, (Q : Int)) :: (zP, (P : Int)) :: (zX, (X : Int)) :: L) from x1); clear x1; obtain ⟨q0, q1, q2, q3, q4⟩ := KH.out _ _ N5.out))
      all_goals
        try clear q0 q1 q2 q3 q4
        clear cP cQ cG cY cX
        obtain ⟨cP, cQ, cG, cY, cX⟩ := KH.out _ _ N5.out
        have NRr := Lib.hid (show ¬ (RO (RO R sb) (wr.heap.size + 1)) W4.heap.size from (N4.out.drew 0).new.2)
        have HNR := Lib.hid (show 0 < G ^ kOf a i % P % Q from by
          have hi2 : i = 0 ∨ i = 1 := by omega
          rcases hi2 with rfl | rfl
          · exact HN.out.2.1.r0
          · exact HN.out.2.1.r1)
        have VN := Lib.hid (show G ^ kOf a i % P < B64 ∧ G ^ kOf a i % P % Q < B64 ∧ X * (G ^ kOf a i % P % Q) < B64 ∧ z < B64 ∧ X * (G ^ kOf a i % P % Q) + z < B64 ∧ (X * (G ^ kOf a i % P % Q) + z) % Q < B64 ∧ invQ (kOf a i) Q < B64 ∧ (X * (G ^ kOf a i % P % Q) + z) % Q * invQ (kOf a i) Q < B64 from by
          have h1 := Nat.mod_lt (G ^ kOf a i) QN.out.2.2.2.2.2.2.2.2
          have h2 := Nat.mod_lt (G ^ kOf a i % P) QN.out.2.2.2.2.2.2.2.1
          have h3 := Nat.mod_lt (X * (G ^ kOf a i % P % Q) + z) QN.out.2.2.2.2.2.2.2.1
          have h4 := invQ_lt (s := kOf a i) HN.out.1.q
          have hq := HN.out.1.q16
          have hx := HN.out.1.xq
          have hp := HN.out.1.p31
          have hz := HN.out.2.2
          have m1 : X * (G ^ kOf a i % P % Q) ≤ 65536 * 65536 := Nat.mul_le_mul (by omega) (by omega)
          have m2 : (X * (G ^ kOf a i % P % Q) + z) % Q * invQ (kOf a i) Q ≤ 65536 * 65536 := Nat.mul_le_mul (by omega) (by omega)
          have e : B64 = 18446744073709551616 := rfl
          omega)
        go_wp2_with fail
        refine (modO N5.out 0 0 5 rfl rfl rfl (by decide) NRr.out (szN VN.out.1 (by decide)) (szN QN.out.1 (by decide)) (divOK_nat QN.out.1 QN.out.2.2.2.2.2.2.2.1) (Int.natCast_ne_zero.2 (Nat.ne_of_gt QN.out.2.2.2.2.2.2.2.1))).mono ?_
        rintro en W6 ⟨rfl, hq⟩
        have N6 := Lib.hid (show Own (RO (RO R sb) (wr.heap.size + 1)) W1 W6 ((W4.heap.size, ((G ^ kOf a i % P % Q : Nat) : Int)) :: (ki, ((invQ (kOf a i) Q : Nat) : Int)) :: (wr.heap.size, ((kOf a i : Nat) : Int)) :: (zY, (Y : Int)) :: (zG, (G : Int)) :: (zQ, (Q : Int)) :: (zP, (P : Int)) :: (zX, (X : Int)) :: L) from by rw [Int.natCast_emod]; exact hq)
        clear hq cP cQ cG cY cX
        obtain ⟨cP, cQ, cG, cY, cX⟩ := KH.out _ _ N6.out
        have rsg : ((G ^ kOf a i % P % Q : Nat) : Int).sign = 1 := Int.sign_eq_one_of_pos (by have := HNR.out; omega)
        have SR := Lib.hid (rsg ▸ signO N6.out 0 rfl)
        clear rsg
        go_wp2_with fail
        refine SR.out.mono ?_
        rintro en wq ⟨rfl, rfl⟩
        clear SR
        go_wp2_with fail
        refine (setBytesO N6.out 2 gh oh ch kh rfl NRk.out (.inl (.inl HB.out.kept)) (fun j hj => (KW.out _ _ N6.out).cell HB.out.kept (HB.out.cell j hj)) HB.out.lt (by have := HB.out.len; omega) HB.out.cap).mono ?_
        rintro en W7 ⟨rfl, hq⟩
        have N7 := Lib.hid (show Own (RO (RO R sb) (wr.heap.size + 1)) W1 W7 ((W4.heap.size, ((G ^ kOf a i % P % Q : Nat) : Int)) :: (ki, ((invQ (kOf a i) Q : Nat) : Int)) :: (wr.heap.size, ((z : Nat) : Int)) :: (zY, (Y : Int)) :: (zG, (G : Int)) :: (zQ, (Q : Int)) :: (zP, (P : Int)) :: (zX, (X : Int)) :: L) from by rw [HB.out.val] at hq; exact hq)
        clear hq cP cQ cG cY cX
        obtain ⟨cP, cQ, cG, cY, cX⟩ := KH.out _ _ N7.out
        obtain ⟨hN2, hR2⟩ := N7.out.new
        have HN8 := Lib.hid hN2
        have NRs := Lib.hid hR2
        clear hN2 hR2
        obtain ⟨d0, d1, d2, d3, d4⟩ := KH.out _ _ HN8.out
        go_wp2_with fail
        refine (mulO HN8.out 0 8 1 rfl rfl rfl NRs.out (szN QN.out.2.2.2.2.2.1 (by decide)) (szN VN.out.2.1 (by decide))).mono ?_
        rintro en W8 ⟨rfl, hq⟩
        have N8 := Lib.hid (show Own (RO (RO R sb) (wr.heap.size + 1)) W1 W8 ((W7.heap.size, ((X * (G ^ kOf a i % P % Q) : Nat) : Int)) :: (W4.heap.size, ((G ^ kOf a i % P % Q : Nat) : Int)) :: (ki, ((invQ (kOf a i) Q : Nat) : Int)) :: (wr.heap.size, ((z : Nat) : Int)) :: (zY, (Y : Int)) :: (zG, (G : Int)) :: (zQ, (Q : Int)) :: (zP, (P : Int)) :: (zX, (X : Int)) :: L) from by rw [Int.natCast_mul]; exact hq)
        clear hq cP cQ cG cY cX
        obtain ⟨cP, cQ, cG, cY, cX⟩ := KH.out _ _ N8.out
        clear d0 d1 d2 d3 d4
        go_wp2_with fail
        refine (addO N8.out 0 0 3 rfl rfl rfl NRs.out (szN VN.out.2.2.1 (by decide)) (szN VN.out.2.2.2.1 (by decide))).mono ?_
        rintro en W9 ⟨rfl, hq⟩
        have N9 := Lib.hid (show Own (RO (RO R sb) (wr.heap.size + 1)) W1 W9 ((W7.heap.size, ((X * (G ^ kOf a i % P % Q) + z : Nat) : Int)) :: (W4.heap.size, ((G ^ kOf a i % P % Q : Nat) : Int)) :: (ki, ((invQ (kOf a i) Q : Nat) : Int)) :: (wr.heap.size, ((z : Nat) : Int)) :: (zY, (Y : Int)) :: (zG, (G : Int)) :: (zQ, (Q : Int)) :: (zP, (P : Int)) :: (zX, (X : Int)) :: L) from by rw [Int.natCast_add]; exact hq)
        clear hq cP cQ cG cY cX
        obtain ⟨cP, cQ, cG, cY, cX⟩ := KH.out _ _ N9.out
        go_wp2_with fail
        refine (modO N9.out 0 0 6 rfl rfl rfl (by decide) NRs.out (szN VN.out.2.2.2.2.1 (by decide)) (szN QN.out.1 (by decide)) (divOK_nat QN.out.1 QN.out.2.2.2.2.2.2.2.1) (Int.natCast_ne_zero.2 (Nat.ne_of_gt QN.out.2.2.2.2.2.2.2.1))).mono ?_
        rintro en W10 ⟨rfl, hq⟩
        have N10 := Lib.hid (show Own (RO (RO R sb) (wr.heap.size + 1)) W1 W10 ((W7.heap.size, (((X * (G ^ kOf a i % P % Q) + z) % Q : Nat) : Int)) :: (W4.heap.size, ((G ^ kOf a i % P % Q : Nat) : Int)) :: (ki, ((invQ (kOf a i) Q : Nat) : Int)) :: (wr.heap.size, ((z : Nat) : Int)) :: (zY, (Y : Int)) :: (zG, (G : Int)) :: (zQ, (Q : Int)) :: (zP, (P : Int)) :: (zX, (X : Int)) :: L) from by rw [Int.natCast_emod]; exact hq)
        clear hq cP cQ cG cY cX
        obtain ⟨cP, cQ, cG, cY, cX⟩ := KH.out _ _ N10.out
        go_wp2_with fail
        refine (mulO N10.out 0 0 2 rfl rfl rfl NRs.out (szN VN.out.2.2.2.2.2.1 (by decide)) (szN VN.out.2.2.2.2.2.2.1 (by decide))).mono ?_
        rintro en W11 ⟨rfl, hq⟩
        have N11 := Lib.hid (show Own (RO (RO R sb) (wr.heap.size + 1)) W1 W11 ((W7.heap.size, (((X * (G ^ kOf a i % P % Q) + z) % Q * invQ (kOf a i) Q : Nat) : Int)) :: (W4.heap.size, ((G ^ kOf a i % P % Q : Nat) : Int)) :: (ki, ((invQ (kOf a i) Q : Nat) : Int)) :: (wr.heap.size, ((z : Nat) : Int)) :: (zY, (Y : Int)) :: (zG, (G : Int)) :: (zQ, (Q : Int)) :: (zP, (P : Int)) :: (zX, (X : Int)) :: L) from by rw [Int.natCast_mul]; exact hq)
        clear hq cP cQ cG cY cX
        obtain ⟨cP, cQ, cG, cY, cX⟩ := KH.out _ _ N11.out
        go_wp2_with fail
        refine (modO N11.out 0 0 6 rfl rfl rfl (by decide) NRs.out (szN VN.out.2.2.2.2.2.2.2 (by decide)) (szN QN.out.1 (by decide)) (divOK_nat QN.out.1 QN.out.2.2.2.2.2.2.2.1) (Int.natCast_ne_zero.2 (Nat.ne_of_gt QN.out.2.2.2.2.2.2.2.1))).mono ?_
        rintro en W12 ⟨rfl, hq⟩
        have N12 := Lib.hid (show Own (RO (RO R sb) (wr.heap.size + 1)) W1 W12 ((W7.heap.size, ((sOf Q X z (kOf a i) (G ^ kOf a i % P % Q) : Nat) : Int)) :: (W4.heap.size, ((G ^ kOf a i % P % Q : Nat) : Int)) :: (ki, ((invQ (kOf a i) Q : Nat) : Int)) :: (wr.heap.size, ((z : Nat) : Int)) :: (zY, (Y : Int)) :: (zG, (G : Int)) :: (zQ, (Q : Int)) :: (zP, (P : Int)) :: (zX, (X : Int)) :: L) from by unfold sOf; rw [Int.natCast_emod]; exact hq)
        clear hq cP cQ cG cY cX
        obtain ⟨cP, cQ, cG, cY, cX⟩ := KH.out _ _ N12.out
        obtain ⟨sv, hsv⟩ : ∃ sv, sv = sOf Q X z (kOf a i) (G ^ kOf a i % P % Q) := ⟨_, rfl⟩
        have HO := Lib.hid (E1.out.1.unguard E1.out.2.1 (by intro n p l q e; injection e with e1 e2 e3; exact absurd e2 (by decide)) ((E1.out.1.hold E1.out.2.1 (by decide)).unguard E1.out.2.2 (by intro n p l q e; injection e with e1 e2 e3; exact absurd e2 (by decide)) N12.out))
        have HB2 := Lib.hid (N12.out.block E1.out.2.1 (.inl (RO.self _ _)))
        have SS := Lib.hid (signO N12.out 0 rfl)
        rw [← hsv] at SS HO
        have HSV := Lib.hid hsv
        clear hsv
        rcases Nat.eq_zero_or_pos sv with hs0 | hs0
        · rcases (show i = 0 ∨ i = 1 by omega) with rfl | rfl
          · subst hs0
            have s0 : ((0 : Nat) : Int).sign = 0 := rfl
            rw [s0] at SS
            clear s0
            go_wp2_with fail
            refine SS.out.mono ?_
            rintro en wq ⟨rfl, rfl⟩
            go_wp2_with fail
            exact ⟨⟨1, Nat.le_refl _, rfl, fun _ => HSV.out.symm, Own.choose (L := (zY, (Y : Int)) :: (zG, (G : Int)) :: (zQ, (Q : Int)) :: (zP, (P : Int)) :: (zX, (X : Int)) :: L) (A := [(W7.heap.size, ((0 : Nat) : Int)), (W4.heap.size, ((G ^ kOf a 0 % P % Q : Nat) : Int)), (ki, ((invQ (kOf a 0) Q : Nat) : Int)), (wr.heap.size, (z : Int))]) HO.out [] (by decide) (by simp), HB2.out⟩, by decide⟩
          · exact absurd (dsa_two (k0 := kOf a 0) (k1 := kOf a 1) HN.out.1.q (Nat.lt_of_lt_of_le (by decide) (show 1 ≤ kOf a 0 from by unfold kOf; have := HN.out.2.1.lo (2 * 0) (by decide); omega)) (by have h1 := HN.out.2.1.hi (2 * 0) (by decide); have h2 := HN.out.2.1.hi (2 * 0 + 1) (by decide); have := HN.out.1.q15; unfold kOf; omega) KN.out.1 (by have := KN.out.2; have := HN.out.1.q15; omega) (by have := HN.out.1.x1; omega) HN.out.1.xq (Nat.mod_lt _ QN.out.2.2.2.2.2.2.2.1) (Nat.mod_lt _ QN.out.2.2.2.2.2.2.2.1) HN.out.2.1.ne (HI.out.1 rfl) (HSV.out.symm.trans hs0)) id
        · have ssg : (sv : Int).sign = 1 := Int.sign_eq_one_of_pos (by omega)
          rw [ssg] at SS
          clear ssg
          have HS0 := Lib.hid hs0
          clear hs0
          go_wp2_with fail
          refine SS.out.mono ?_
          rintro en wq ⟨rfl, rfl⟩
          have i1 : ¬ ((10 - i : Nat) : Int) = 0 := by omega
          have i2 : ¬ (10 - i : Nat) = 0 := by omega
          have FIN := Lib.hid (show SignP R w ((zY, (Y : Int)) :: (zG, (G : Int)) :: (zQ, (Q : Int)) :: (zP, (P : Int)) :: (zX, (X : Int)) :: L) P Q G X z (.returned (.tuple #[ptr W4.heap.size, ptr W7.heap.size, Value.nilIface])) W12 from ⟨_, _, _, _, kOf a i, rfl, KN.out.1, (by have := KN.out.2; have := HN.out.1.q15; omega), rfl, HNR.out, HSV.out, HS0.out, Own.choose (L := (zY, (Y : Int)) :: (zG, (G : Int)) :: (zQ, (Q : Int)) :: (zP, (P : Int)) :: (zX, (X : Int)) :: L) (A := [(W7.heap.size, (sv : Int)), (W4.heap.size, ((G ^ kOf a i % P % Q : Nat) : Int)), (ki, ((invQ (kOf a i) Q : Nat) : Int)), (wr.heap.size, (z : Int))]) HO.out [0, 1] (by decide) (by simp)⟩)
          go_wp2_with fail
          simp [bodyPost, results, Tryz.results90, go_sem]
          exact FIN.out
end
end Go.Proofs.YtohhkjamddojmaaGreatDoor.Big
