/- BitLen of a number of 16 bits. -/
import Derived.Test.YtohhkjamddojmaaGreatDoorIJ
import Derived.Lib.EndianBits
namespace Go.Proofs.YtohhkjamddojmaaGreatDoor.Big
open Go.RowKit
attribute [local go_sem] ptr

theorem or16 (t d : Nat) (h : 32768 ≤ t ∧ t < 65536) : ∃ t' : Nat, bits .or .u64 (t : Int) (((t / d : Nat)) : Int) = (t' : Int) ∧ 32768 ≤ t' ∧ t' < 65536 := by
  have hd : t / d < 65536 := Nat.lt_of_le_of_lt (Nat.div_le_self _ _) h.2
  refine ⟨t ||| (t / d), (bits_nat .u64 64 (by decide) (fun n h₀ h₁ => wraps_u64 n h₀ h₁) t (t / d) (by omega) (by omega)).2, Nat.le_trans h.1 Nat.left_le_or, ?_⟩
  exact Nat.or_lt_two_pow (n := 16) h.2 hd
theorem len16 {t : Nat} (h : 32768 ≤ t ∧ t < 65536) : Lib.bitLen t = 16 := by
  rw [Lib.bitLen_shift 15 t (by omega) (by omega), show t / 2 ^ 15 = 1 by omega]
  rfl
set_option maxHeartbeats 2000000 in
set_option maxRecDepth 100000 in
theorem nat_bitLen16 (p : Option Addr) (q : Nat) (ds : List Nat) (w : World) (hx : Num w p (dg q) ds) (h : 32768 ≤ q ∧ q < 65536) :
    Calls Tryz.prog 154 #[.slice p (dg q).length ds.length] w (fun e w' => e = .returned (.int .i64 16) ∧ w = w') := by
  have hl : (dg q).length = 1 := by rw [dg_one (by unfold B64; omega)]; unfold word1; rw [if_neg (by omega)]; rfl
  obtain ⟨b, rfl, -, hc⟩ := hx.cell (by omega)
  have hc := hc 0 (by omega)
  rw [(dg_of_one hl).1] at hc
  have hcc := hx.le
  rw [hl] at hcc ⊢
  obtain ⟨t1, e1, r1⟩ := or16 q 2 h
  obtain ⟨t2, e2, r2⟩ := or16 t1 4 r1
  obtain ⟨t3, e3, r3⟩ := or16 t2 16 r2
  obtain ⟨t4, e4, r4⟩ := or16 t3 256 r3
  obtain ⟨t5, e5, r5⟩ := or16 t4 65536 r4
  obtain ⟨t6, e6, r6⟩ := or16 t5 (65536 * 65536) r5
  have HL := Lib.hid (Tryz.bits_Len (t6 : Int) w (by omega) (by omega))
  rw [Int.toNat_natCast, len16 r6] at HL
  have e6' : bits .or .u64 (t5 : Int) ((t5 : Int) / 65536 / 65536) = (t6 : Int) := by rw [Int.ediv_ediv_of_nonneg (by decide)]; exact e6
  have e1' : bits .or .u64 (q : Int) ((q : Int) / 2) = (t1 : Int) := e1
  have e2' : bits .or .u64 (t1 : Int) ((t1 : Int) / 4) = (t2 : Int) := e2
  have e3' : bits .or .u64 (t2 : Int) ((t2 : Int) / 16) = (t3 : Int) := e3
  have e4' : bits .or .u64 (t3 : Int) ((t3 : Int) / 256) = (t4 : Int) := e4
  have e5' : bits .or .u64 (t4 : Int) ((t4 : Int) / 65536) = (t5 : Int) := e5
  clear e1 e2 e3 e4 e5
  clear hx hl r1 r2 r3 r4 r5 r6 e6 h
  unfold wd at *
  go_enter Tryz.func154, Tryz.ntmps154
  go_wp2_with fail
  refine HL.out.mono ?_
  rintro e w1 ⟨rfl, rfl⟩
  go_wp2_with fail
  go_ret
  exact ⟨rfl, rfl⟩
section
variable {R : Nat → Prop} {w0 w : World} {L : List (Nat × Int)}
set_option maxHeartbeats 1000000 in
theorem bitLen16O (h : Own R w0 w L) (j q : Nat) {x : Nat} (hj : L[j]? = some (x, (q : Int))) (hq : 32768 ≤ q ∧ q < 65536) :
    Calls Tryz.prog 123 #[ptr x] w (fun e w' => e = .returned (.int .i64 16) ∧ w = w') := by
  obtain ⟨ps, qs, hf⟩ := h.ints
  obtain ⟨a', px, dx, ha', hpx, hqx, ox⟩ := hf.at (at1 hj)
  obtain rfl : (q : Int) = a' := by rw [at2 hj] at ha'; exact Option.some.inj ha'
  have hx1 := ox.str.cell1
  have hn := ox.num
  rw [Int.natAbs_natCast] at hx1 hn
  have HB := Lib.hid (nat_bitLen16 px q dx w hn hq)
  clear h hf hj ha' hpx hqx ox hn hq
  unfold ptr
  go_enter Tryz.func123, Tryz.ntmps123
  go_wp2_with fail
  refine HB.out.mono ?_
  rintro e w1 ⟨rfl, rfl⟩
  go_wp2_with fail
  go_ret
  exact ⟨rfl, rfl⟩
end
end Go.Proofs.YtohhkjamddojmaaGreatDoor.Big
