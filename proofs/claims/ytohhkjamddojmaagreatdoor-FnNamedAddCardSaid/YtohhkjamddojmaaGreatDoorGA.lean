/- Lehmer's algorithm, at numbers of one word. The inverse modulo a number of one word. Four memories of words that are written in turn. The bits of an exponent, from the highest one on: plain laws. Lehmer's algorithm at numbers of several words: what its loop keeps. Lehmer's algorithm: numbers of several words. -/
import Derived.Test.YtohhkjamddojmaaGreatDoorRA
import Derived.Test.YtohhkjamddojmaaGreatDoorNI
import Derived.Test.YtohhkjamddojmaaGreatDoorNL
import Derived.Test.YtohhkjamddojmaaGreatDoorLA
import Derived.Deep.Cut
namespace Go.Proofs.YtohhkjamddojmaaGreatDoor.Big
open Go.RowKit
attribute [local go_sem] ptr
theorem sz_word {v : Int} (h : v.natAbs < 18446744073709551616) : Sz 640000 v := (show Sz 64 v from h).le (by decide)
section
variable {R : Nat → Prop} {w0 w : World} {L : List (Nat × Int)}
end
end Go.Proofs.YtohhkjamddojmaaGreatDoor.Big
namespace Go.Proofs.YtohhkjamddojmaaGreatDoor.Big
open Go.RowKit
attribute [local go_sem] ptr
section
variable {R : Nat → Prop} {w0 w : World} {L : List (Nat × Int)}
theorem Own.new2 (h : Own R w0 w L) : Own R w0 ((w.alloc (.cells #[.bool false, .slice .none 0 0] 172)).alloc (.cells #[.bool false, .slice .none 0 0] 172)) ((w.heap.size + 1, 0) :: (w.heap.size, 0) :: L) ∧ ¬ R (w.heap.size + 1) ∧ ¬ R w.heap.size := by
 obtain ⟨h1, r1⟩ := h.new
 obtain ⟨h2, r2⟩ := h1.new
 have e : (w.alloc (.cells #[.bool false, .slice .none 0 0] 172)).heap.size = w.heap.size + 1 := Array.size_push _
 rw [e] at h2 r2
 exact ⟨h2, r2, r1⟩
theorem cmpO (h : Own R w0 w L) (j k : Nat) {x y : Nat} {a b : Int} (hj : L[j]? = some (x, a)) (hk : L[k]? = some (y, b)) (sa : Sz 640000 a) :
 Calls Tryz.prog 91 #[ptr x, ptr y] w (CmpP (cmpI a b) w) :=
 Int_Cmp h.ints j k x y a b (at1 hj) (at1 hk) (at2 hj) (at2 hk) (Nat.le_trans (Sz.words (k := 10000) sa) (by decide))
end
end Go.Proofs.YtohhkjamddojmaaGreatDoor.Big
namespace Go.Proofs.YtohhkjamddojmaaGreatDoor.Big
open Go.RowKit
section
variable {W wr w' : World} {p0 a b c d a' b' : Option Addr} {ca cb cc cd ca' cb' : List Nat}
end
end Go.Proofs.YtohhkjamddojmaaGreatDoor.Big
namespace Go.Proofs.YtohhkjamddojmaaGreatDoor.Big
open Go.RowKit
section
variable {W wr w' : World} {p0 a b c d a' b' : Option Addr} {ca cb cc cd ca' cb' : List Nat}
end
end Go.Proofs.YtohhkjamddojmaaGreatDoor.Big

namespace Go.Proofs.YtohhkjamddojmaaGreatDoor.Big
open Go.RowKit
attribute [local go_sem] ptr
def cellN : Option Value → Nat
 | some (.int _ k) => k.toNat
 | _ => 0
def absOf (w : World) (v : Value) : Nat :=
 match v with
 | .pointer (some a) => match w.cell? ⟨a.block, 1, .none⟩ with
  | some (.slice (some b) n _) => val ((List.range n).map fun i => cellN (w.cell? ⟨b.block, i, .none⟩))
  | _ => 0
 | _ => 0
theorem range_map_getD (l : List Nat) : (List.range l.length).map (fun i => l.getD i 0) = l := by
 apply List.ext_getElem
 · simp
 · intro i h1 h2
   simp [List.getD, h2]
theorem cells_abs {w : World} {z a c : Nat} {p : Option Addr} (h1 : w.cell? ⟨z, 1, .none⟩ = some (.slice p (dg a).length c)) (h2 : 0 < (dg a).length → ∃ b, p = some ⟨b, 0, .none⟩ ∧ ∀ i, i < (dg a).length → w.cell? ⟨b, i, .none⟩ = some (wd ((dg a).getD i 0))) : absOf w (ptr z) = a := by
 have e : absOf w (ptr z) = match w.cell? ⟨z, 1, .none⟩ with
  | some (.slice (some b) n _) => val ((List.range n).map fun i => cellN (w.cell? ⟨b.block, i, .none⟩))
  | _ => 0 := rfl
 rw [e, h1]
 rcases Nat.eq_zero_or_pos (dg a).length with h0 | h0
 · have ha : a = 0 := dg_eq_nil.1 (List.eq_nil_of_length_eq_zero h0)
   subst ha
   cases p with
   | none => rfl
   | some b => rw [h0]; rfl
 · obtain ⟨b, rfl, hb⟩ := h2 h0
   show val ((List.range (dg a).length).map fun i => cellN (w.cell? ⟨b, i, .none⟩)) = a
   have : ((List.range (dg a).length).map fun i => cellN (w.cell? ⟨b, i, .none⟩)) = (List.range (dg a).length).map (fun i => (dg a).getD i 0) := by
    apply List.map_congr_left
    intro i hi
    rw [hb i (List.mem_range.1 hi)]
    show ((((dg a).getD i 0 : Nat) : Int)).toNat = _
    omega
   rw [this, range_map_getD, val_dg]
section
variable {R : Nat → Prop} {w0 w : World}
theorem OwnR.at {L : List (Nat × (Bool × Nat))} (h : OwnR R w0 w L) {i z : Nat} {s : Bool} {a : Nat} (hi : L[i]? = some (z, (s, a))) :
 ∃ p c, w.cell? ⟨z, 0, .none⟩ = some (.bool s) ∧ w.cell? ⟨z, 1, .none⟩ = some (.slice p (dg a).length c) ∧ (0 < (dg a).length → ∃ b, p = some ⟨b, 0, .none⟩ ∧ ∀ i, i < (dg a).length → w.cell? ⟨b, i, .none⟩ = some (wd ((dg a).getD i 0))) := by
 obtain ⟨ps, qs, hf⟩ := h.ints
 obtain ⟨a', px, dx, ha', hpx, hqx, ox⟩ := hf.at (raw1 hi)
 obtain rfl : (s, a) = a' := by rw [raw2 hi] at ha'; exact Option.some.inj ha'
 refine ⟨px, _, ox.str.cell0, ox.str.cell1, fun h0 => ?_⟩
 obtain ⟨b, hb, _, hc⟩ := ox.num.cell h0
 exact ⟨b, hb, hc⟩
theorem IntsR.tail {zs : List Nat} {vs : List (Bool × Nat)} {z : Nat} {v : Bool × Nat} (h : IntsR R w (z :: zs) (v :: vs)) : IntsR R w zs vs := by
 obtain ⟨ps, qs, h⟩ := h
 refine ⟨ps.tail, qs.tail, ⟨h.old, by have := h.lenV; simpa using this, by have := h.lenP; rw [List.length_tail, this]; rfl, by have := h.lenQ; rw [List.length_tail, this]; rfl, ?_, ?_, ?_, ?_, ?_⟩⟩
 · intro i z' v' p q h1 h2 h3 h4
   rw [List.getElem?_tail] at h3 h4
   exact h.one (i + 1) z' v' p q h1 h2 h3 h4
 · intro i z' p h1 h2
   rw [List.getElem?_tail] at h2
   exact h.own (i + 1) z' p h1 h2
 · intro i j z' h1 h2
   have := h.zz (i + 1) (j + 1) z' h1 h2
   omega
 · intro i j p q b h1 h2 h3 h4
   rw [List.getElem?_tail] at h1 h2
   have := h.pp (i + 1) (j + 1) p q b h1 h2 h3 h4
   omega
 · intro i j z' p h1 h2
   rw [List.getElem?_tail] at h2
   exact h.zp (i + 1) (j + 1) z' p h1 h2
theorem FamR.sel {zs zs' : List Nat} {vs vs' : List (Bool × Nat)} {ps ps' : List (Option Addr)} {qs qs' : List (List Nat)} (h : FamR R w zs vs ps qs) (f : Nat → Nat)
 (l1 : vs'.length = zs'.length) (l2 : ps'.length = zs'.length) (l3 : qs'.length = zs'.length) (inj : ∀ i j, i < zs'.length → j < zs'.length → f i = f j → i = j)
 (e0 : ∀ i, i < zs'.length → zs'[i]? = zs[f i]?) (e1 : ∀ i, i < zs'.length → vs'[i]? = vs[f i]?) (e2 : ∀ i, i < zs'.length → ps'[i]? = ps[f i]?) (e3 : ∀ i, i < zs'.length → qs'[i]? = qs[f i]?) :
 FamR R w zs' vs' ps' qs' := by
 have lz : ∀ {i z}, zs'[i]? = some z → i < zs'.length := fun h => (List.getElem?_eq_some_iff.1 h).1
 have lp : ∀ {i p}, ps'[i]? = some p → i < zs'.length := fun h => l2 ▸ (List.getElem?_eq_some_iff.1 h).1
 refine ⟨h.old, l1, l2, l3, ?_, ?_, ?_, ?_, ?_⟩
 · intro i z v p q h1 h2 h3 h4
   have hl := lz h1
   exact h.one (f i) z v p q (e0 i hl ▸ h1) (e1 i hl ▸ h2) (e2 i hl ▸ h3) (e3 i hl ▸ h4)
 · intro i z p h1 h2
   have hl := lz h1
   exact h.own (f i) z p (e0 i hl ▸ h1) (e2 i hl ▸ h2)
 · intro i j z h1 h2
   exact inj i j (lz h1) (lz h2) (h.zz (f i) (f j) z (e0 i (lz h1) ▸ h1) (e0 j (lz h2) ▸ h2))
 · intro i j p q b h1 h2 hb hb2
   exact inj i j (lp h1) (lp h2) (h.pp (f i) (f j) p q b (e2 i (lp h1) ▸ h1) (e2 j (lp h2) ▸ h2) hb hb2)
 · intro i j z p h1 h2
   exact h.zp (f i) (f j) z p (e0 i (lz h1) ▸ h1) (e2 j (lp h2) ▸ h2)
theorem drop_two {α : Type} (x y : α) (l : List α) (i : Nat) : (x :: l)[i]? = (x :: y :: l)[if i = 0 then 0 else i + 1]? := by
 cases i with
 | zero => rfl
 | succ i => rfl
theorem IntsR.drop2 {zs : List Nat} {vs : List (Bool × Nat)} {z y : Nat} {v u : Bool × Nat} (h : IntsR R w (z :: y :: zs) (v :: u :: vs)) : IntsR R w (z :: zs) (v :: vs) := by
 obtain ⟨ps, qs, h⟩ := h
 have lv := h.lenV; have lp := h.lenP; have lq := h.lenQ
 match ps, qs, h, lp, lq with
 | p :: p2 :: ps, q :: q2 :: qs, h, lp, lq =>
  refine ⟨p :: ps, q :: qs, h.sel (fun i => if i = 0 then 0 else i + 1) ?_ ?_ ?_ ?_ (fun i _ => drop_two _ _ _ i) (fun i _ => drop_two _ _ _ i) (fun i _ => drop_two _ _ _ i) (fun i _ => drop_two _ _ _ i)⟩
  · simpa using lv
  · simpa using lp
  · simpa using lq
  · intro i j _ _ e
    show i = j; revert e; show (if i = 0 then 0 else i + 1) = (if j = 0 then 0 else j + 1) → i = j; intro e
    split at e <;> split at e <;> omega
theorem OwnR.drop2 {L : List (Nat × (Bool × Nat))} {p q : Nat × (Bool × Nat)} (h : OwnR R w0 w (p :: q :: L)) : OwnR R w0 w (p :: L) := ⟨h.ints.drop2, h.kept, h.tab, h.low⟩
theorem OwnR.tail {L : List (Nat × (Bool × Nat))} {p : Nat × (Bool × Nat)} (h : OwnR R w0 w (p :: L)) : OwnR R w0 w L := ⟨h.ints.tail, h.kept, h.tab, h.low⟩
theorem IntsR.drewN {zs : List Nat} {vs : List (Bool × Nat)} (h : IntsR R w zs vs) (n : Nat) : IntsR R (w.drewN n) zs vs := by
 obtain ⟨ps, qs, h⟩ := h
 exact ⟨ps, qs, ⟨h.old, h.lenV, h.lenP, h.lenQ, fun i z v p q h1 h2 h3 h4 => (h.one i z v p q h1 h2 h3 h4).grow (Grow.none (zzz w n .none) (fun _ => False)) id (fun _ _ => id), h.own, h.zz, h.pp, h.zp⟩⟩
theorem OwnR.drew {L : List (Nat × (Bool × Nat))} (h : OwnR R w0 w L) (n : Nat) : OwnR R w0 (w.drewN n) L :=
 ⟨h.ints.drewN n, h.kept.trans (Kept.drew R w n), h.tab.keptR (Kept.drew R w n) h.low, h.low⟩
theorem dg_two {n : Nat} : 2 ≤ (dg n).length ↔ B64 ≤ n := by
 have := @dg_length n 1
 rw [Nat.pow_one] at this
 omega
structure LI (R : Nat → Prop) (w0 : World) (L : List (Nat × Int)) (g n : Nat) (wr : World) (pa pb pu pv pr pq : Nat) (A B : Nat) (U V : Int) : Prop where
 own : ∃ vr vq, OwnR R w0 wr ((pr, vr) :: (pq, vq) :: List.map rawP ((pu, U) :: (pv, V) :: (pa, (A : Int)) :: (pb, (B : Int)) :: L))
 na : ¬ R pa
 nb : ¬ R pb
 nu : ¬ R pu
 nv : ¬ R pv
 nr : ¬ R pr
 nq : ¬ R pq
 g : GcdLaw.G (g : Int) n A B U V
 hn : n < B64 ^ 4
 hA : A ≤ n
theorem sz_of_lt {n : Nat} {a : Int} (h : a.natAbs < B64 ^ n) : Sz (64 * n) a := by
 unfold Sz B64 at *
 rw [Nat.pow_mul]
 exact h
variable {L : List (Nat × Int)} {g n : Nat} {wr : World} {pa pb pu pv pr pq A B : Nat} {U V : Int}
theorem LI.size (h : LI R w0 L g n wr pa pb pu pv pr pq A B U V) : Sz 256 (A : Int) ∧ Sz 256 (B : Int) ∧ Sz 256 U ∧ Sz 256 V := by
 have hn := h.hn
 have hA := h.hA
 have hB := h.g.ab
 have hu := h.g.ub
 have ha := h.g.a1
 have hv : (V.natAbs : Int) ≤ n := by
  have e := h.g.bd
  have k1 : (V.natAbs : Int) * 1 ≤ (V.natAbs : Int) * A := Int.mul_le_mul_of_nonneg_left (by omega) (by omega)
  have k2 : 0 ≤ (U.natAbs : Int) * B := Int.mul_nonneg (by omega) h.g.b0
  omega
 exact ⟨sz_of_lt (n := 4) (by omega), sz_of_lt (n := 4) (by omega), sz_of_lt (n := 4) (by omega), sz_of_lt (n := 4) (by omega)⟩
theorem LI.updA (h : LI R w0 L g n wr pa pb pu pv pr pq A B U V) (u0 u1 v0 v1 : Nat) (even : Bool) (b0 : u0 < B64) (b1 : u1 < B64) (b2 : v0 < B64) (b3 : v1 < B64) :
 Calls Tryz.prog 193 #[ptr pa, ptr pb, ptr pq, ptr pr, wd u0, wd u1, wd v0, wd v1, .bool even] wr (fun e w' => e = .returned (.tuple #[]) ∧ ∃ vr vq, OwnR R w0 w' ((pr, vr) :: (pq, vq) :: List.map rawP ((pu, U) :: (pv, V) :: (pa, if even then (u0 : Int) * A - v0 * B else v0 * B - u0 * A) :: (pb, if even then (v1 : Int) * B - u1 * A else u1 * A - v1 * B) :: L))) := by
 obtain ⟨vr, vq, ho⟩ := h.own
 obtain ⟨sA, sB, -, -⟩ := h.size
 refine (lehmerUpd ho 4 5 1 0 (a := toR A) (b := toR B) rfl rfl rfl rfl (by decide) (by decide) (by decide) (by decide) (by decide) (by decide) h.na h.nb h.nq h.nr u0 u1 v0 v1 even b0 b1 b2 b3 (sA.le (by decide)) (sB.le (by decide))).mono ?_
 rintro e w' ⟨he, h2⟩
 rw [upd_val, upd_val2] at h2
 exact ⟨he, _, _, h2⟩
theorem LI.updU (h : LI R w0 L g n wr pa pb pu pv pr pq A B U V) {w1 : World} {a b : Int} (h1 : ∃ vr vq, OwnR R w0 w1 ((pr, vr) :: (pq, vq) :: List.map rawP ((pu, U) :: (pv, V) :: (pa, a) :: (pb, b) :: L))) (u0 u1 v0 v1 : Nat) (even : Bool) (b0 : u0 < B64) (b1 : u1 < B64) (b2 : v0 < B64) (b3 : v1 < B64) :
 Calls Tryz.prog 193 #[ptr pu, ptr pv, ptr pq, ptr pr, wd u0, wd u1, wd v0, wd v1, .bool even] w1 (fun e w' => e = .returned (.tuple #[]) ∧ ∃ vr vq, OwnR R w0 w' ((pr, vr) :: (pq, vq) :: List.map rawP ((pu, if even then (u0 : Int) * U - v0 * V else v0 * V - u0 * U) :: (pv, if even then (v1 : Int) * V - u1 * U else u1 * U - v1 * V) :: (pa, a) :: (pb, b) :: L))) := by
 obtain ⟨vr, vq, ho⟩ := h1
 obtain ⟨-, -, sU, sV⟩ := h.size
 have sU' : Sz 256 ((toR U).2 : Int) := by unfold Sz at *; show ((U.natAbs : Int)).natAbs < _; rw [Int.natAbs_natCast]; exact sU
 have sV' : Sz 256 ((toR V).2 : Int) := by unfold Sz at *; show ((V.natAbs : Int)).natAbs < _; rw [Int.natAbs_natCast]; exact sV
 refine (lehmerUpd ho 2 3 1 0 (a := toR U) (b := toR V) rfl rfl rfl rfl (by decide) (by decide) (by decide) (by decide) (by decide) (by decide) h.nu h.nv h.nq h.nr u0 u1 v0 v1 even b0 b1 b2 b3 (sU'.le (by decide)) (sV'.le (by decide))).mono ?_
 rintro e w' ⟨he, h2⟩
 rw [upd_val, upd_val2] at h2
 exact ⟨he, _, _, h2⟩
theorem LI.next (h : LI R w0 L g n wr pa pb pu pv pr pq A B U V) {w1 : World} {u0 u1 v0 v1 : Nat} {even : Bool} {A' B' : Int} (l : GcdLaw.Leh A B u0 u1 v0 v1 A' B' even)
 (h1 : ∃ vr vq, OwnR R w0 w1 ((pr, vr) :: (pq, vq) :: List.map rawP ((pu, if even then (u0 : Int) * U - v0 * V else v0 * V - u0 * U) :: (pv, if even then (v1 : Int) * V - u1 * U else u1 * U - v1 * V) :: (pa, if even then (u0 : Int) * A - v0 * B else v0 * B - u0 * A) :: (pb, if even then (v1 : Int) * B - u1 * A else u1 * A - v1 * B) :: L))) :
 ∃ (A2 B2 : Nat) (U2 V2 : Int), LI R w0 L g n w1 pa pb pu pv pr pq A2 B2 U2 V2 ∧ A2 + B2 < A + B := by
 obtain ⟨hg, hlt⟩ := h.g.lehmer l
 have eA := l.eA
 have eB := l.eB
 rw [← eA, ← eB] at h1
 have hA1 := hg.a1
 have hB0 := hg.b0
 have hle : A' ≤ A := by
  obtain ⟨e, -⟩ := l.back
  have k1 := l.v10
  have k2 := l.v00
  have a1 : 1 * A' ≤ (v1 : Int) * A' := Int.mul_le_mul_of_nonneg_right (by omega) (by omega)
  have a2 : 0 ≤ (v0 : Int) * B' := Int.mul_nonneg (by omega) hB0
  omega
 obtain ⟨A2, rfl⟩ : ∃ a : Nat, A' = a := ⟨A'.toNat, by omega⟩
 obtain ⟨B2, rfl⟩ : ∃ a : Nat, B' = a := ⟨B'.toNat, by omega⟩
 exact ⟨A2, B2, _, _, ⟨h1, h.na, h.nb, h.nu, h.nv, h.nr, h.nq, hg, h.hn, by have := h.hA; omega⟩, by omega⟩
theorem LI.euclid (h : LI R w0 L g n wr pa pb pu pv pr pq A B U V) (hb : B ≠ 0) :
 Calls Tryz.prog 194 #[ptr pa, ptr pb, ptr pu, ptr pv, ptr pq, ptr pr, .bool true] wr (fun e w' => e = .returned (.tuple #[ptr pb, ptr pr, ptr pa, ptr pv, ptr pu]) ∧ LI R w0 L g n w' pb pr pv pu pa pq B (A % B) V (U - (A : Int) / B * V)) := by
 obtain ⟨vr, vq, ho⟩ := h.own
 obtain ⟨sA, sB, sU, sV⟩ := h.size
 have hBn : B < B64 ^ 4 := by have := h.hn; have := h.hA; have := h.g.ab; omega
 refine (euclidUpd (M := (pu, U) :: (pv, V) :: (pa, (A : Int)) :: (pb, (B : Int)) :: L) ho 2 3 0 1 rfl rfl rfl rfl h.nq h.nr h.nu (sA.le (by decide)) (sU.le (by decide)) (sV.le (by decide)) (by rw [Int.natAbs_natCast]; exact DivOK.four hb hBn)).mono ?_
 rintro e w' ⟨he, h2⟩
 have t1 : (A : Int).tmod B = ((A % B : Nat) : Int) := by rw [Int.tmod_eq_emod_of_nonneg (by omega)]; rfl
 have t2 : (A : Int).tdiv B = (A : Int) / B := Int.tdiv_eq_ediv_of_nonneg (by omega)
 rw [t1, t2] at h2
 refine ⟨he, ⟨⟨toR A, toR ((A : Int) / B * V), ?_⟩, h.nb, h.nr, h.nv, h.nu, h.na, h.nq, ?_, h.hn, ?_⟩⟩
 · exact (Own.choose (A := [(pr, ((A % B : Nat) : Int)), (pq, (A : Int) / B * V), (pu, U - (A : Int) / B * V), (pv, V), (pa, (A : Int)), (pb, (B : Int))]) (L := L) h2 [4, 1, 3, 2, 5, 0] (by decide) (by simp)).raw
 · exact h.g.euclid (by omega)
 · have := h.g.ab; have := h.hA; omega
theorem LI.drew (h : LI R w0 L g n wr pa pb pu pv pr pq A B U V) (d : Nat) : LI R w0 L g n (wr.drewN d) pa pb pu pv pr pq A B U V := by
 obtain ⟨vr, vq, ho⟩ := h.own
 exact ⟨⟨vr, vq, ho.drew d⟩, h.na, h.nb, h.nu, h.nv, h.nr, h.nq, h.g, h.hn, h.hA⟩
theorem LI.ints (h : LI R w0 L g n wr pa pb pu pv pr pq A B U V) : Own R w0 wr ((pu, U) :: (pv, V) :: (pa, (A : Int)) :: (pb, (B : Int)) :: L) := by
 obtain ⟨vr, vq, ho⟩ := h.own
 exact OwnR.int ho.tail.tail
theorem LI.abs (h : LI R w0 L g n wr pa pb pu pv pr pq A B U V) : absOf wr (ptr pa) = A ∧ absOf wr (ptr pb) = B := by
 obtain ⟨vr, vq, ho⟩ := h.own
 obtain ⟨p, c, -, h1, h2⟩ := ho.at (i := 4) (z := pa) (s := (toR A).1) (a := (toR A).2) rfl
 obtain ⟨q, d, -, k1, k2⟩ := ho.at (i := 5) (z := pb) (s := (toR B).1) (a := (toR B).2) rfl
 have e1 : (toR (A : Int)).2 = A := Int.natAbs_natCast A
 have e2 : (toR (B : Int)).2 = B := Int.natAbs_natCast B
 rw [e1] at h1 h2
 rw [e2] at k1 k2
 exact ⟨cells_abs h1 h2, cells_abs k1 k2⟩
theorem LI.cells (h : LI R w0 L g n wr pa pb pu pv pr pq A B U V) : ∃ p c q d, wr.cell? ⟨pa, 1, .none⟩ = some (.slice p (dg A).length c) ∧ wr.cell? ⟨pb, 1, .none⟩ = some (.slice q (dg B).length d) ∧
 (0 < (dg A).length → ∃ b, p = some ⟨b, 0, .none⟩ ∧ ∀ i, i < (dg A).length → wr.cell? ⟨b, i, .none⟩ = some (wd ((dg A).getD i 0))) ∧ (0 < (dg B).length → ∃ b, q = some ⟨b, 0, .none⟩ ∧ ∀ i, i < (dg B).length → wr.cell? ⟨b, i, .none⟩ = some (wd ((dg B).getD i 0))) := by
 obtain ⟨vr, vq, ho⟩ := h.own
 obtain ⟨p, c, -, h1, h2⟩ := ho.at (i := 4) (z := pa) (s := (toR A).1) (a := (toR A).2) rfl
 obtain ⟨q, d, -, k1, k2⟩ := ho.at (i := 5) (z := pb) (s := (toR B).1) (a := (toR B).2) rfl
 have e1 : (toR (A : Int)).2 = A := Int.natAbs_natCast A
 have e2 : (toR (B : Int)).2 = B := Int.natAbs_natCast B
 rw [e1] at h1 h2
 rw [e2] at k1 k2
 exact ⟨p, c, q, d, h1, k1, h2, k2⟩
theorem LI.sim (h : LI R w0 L g n wr pa pb pu pv pr pq A B U V) (hB : 2 ≤ (dg B).length) : Calls Tryz.prog 192 #[ptr pa, ptr pb] wr (SimP A B wr) := by
 obtain ⟨p, c, q, d, h1, h2, h3, h4⟩ := h.cells
 have hAB : (dg B).length ≤ (dg A).length := by
  rcases Nat.lt_or_ge (dg A).length (dg B).length with hl | hl
  · have := dg_lt hl; have := h.g.ab; omega
  · exact hl
 have hA4 : (dg A).length ≤ 4 := dg_length.2 (by have := h.hn; have := h.hA; omega)
 obtain ⟨b, rfl, hb⟩ := h3 (by omega)
 obtain ⟨b', rfl, hb'⟩ := h4 (by omega)
 obtain ⟨n0, hn0⟩ : ∃ n0, (dg A).length = n0 + 2 := ⟨(dg A).length - 2, by omega⟩
 rw [hn0] at h1 hb
 exact lehmerSim pa pb b b' n0 (dg B).length c d A B wr (by have := h.g.ab; omega) hn0 rfl hB (by omega) h1 h2 hb hb'
structure WI (g n : Int) (A0 B0 : Nat) (U0 V0 : Int) (a b ua ub va vb : Nat) (e : Bool) : Prop where
 tot : vb * a + va * b = A0
 tot2 : ub * a + ua * b = B0
 g : GcdLaw.G g n a b (if e then (ua : Int) * U0 - va * V0 else va * V0 - ua * U0) (if e then (vb : Int) * V0 - ub * U0 else ub * U0 - vb * V0)
theorem WI.start {g n : Int} {A0 B0 : Nat} {U0 V0 : Int} (h : GcdLaw.G g n A0 B0 U0 V0) : WI g n A0 B0 U0 V0 A0 B0 1 0 0 1 true :=
 ⟨by omega, by omega, by simpa using h⟩
theorem WI.next {g n : Int} {A0 B0 : Nat} {U0 V0 : Int} {a b ua ub va vb : Nat} {e : Bool} (h : WI g n A0 B0 U0 V0 a b ua ub va vb e) (hb : b ≠ 0) : WI g n A0 B0 U0 V0 b (a % b) ub (ua + a / b * ub) vb (va + a / b * vb) (!e) := by
 have hs := h.g.euclid (by omega)
 have e1 : (a : Int) / (b : Int) = ((a / b : Nat) : Int) := rfl
 have e2 : (a : Int) % (b : Int) = ((a % b : Nat) : Int) := rfl
 have hm := Nat.div_add_mod a b
 rw [e1, e2] at hs
 have t1 := h.tot
 have t2 := h.tot2
 generalize a / b = q at *
 generalize a % b = r at *
 refine ⟨?_, ?_, ?_⟩
 · rw [← t1, ← hm]; grind
 · rw [← t2, ← hm]; grind
 · cases e
   · simp only [Bool.false_eq_true, if_false, Bool.not_false, if_true] at *
     have k : ((va + q * vb : Nat) : Int) * V0 - ((ua + q * ub : Nat) : Int) * U0 = va * V0 - ua * U0 - q * (ub * U0 - vb * V0) := by push_cast; grind
     rw [k]; exact hs
   · simp only [if_true, Bool.not_true, Bool.false_eq_true, if_false] at *
     have k : ((ua + q * ub : Nat) : Int) * U0 - ((va + q * vb : Nat) : Int) * V0 = ua * U0 - va * V0 - q * (vb * V0 - ub * U0) := by push_cast; grind
     rw [k]; exact hs
theorem WI.bound {g n : Int} {A0 B0 : Nat} {U0 V0 : Int} {a b ua ub va vb : Nat} {e : Bool} (h : WI g n A0 B0 U0 V0 a b ua ub va vb e) : vb ≤ A0 ∧ ub ≤ B0 := by
 have ha := h.g.a1
 have k1 : vb * 1 ≤ vb * a := Nat.mul_le_mul_left _ (by omega)
 have k2 : ub * 1 ≤ ub * a := Nat.mul_le_mul_left _ (by omega)
 have t1 := h.tot
 have t2 := h.tot2
 omega
theorem u64_step {u q v : Nat} (h : u + q * v < B64) : IntKind.u64.wrap ((u : Int) + IntKind.u64.wrap (IntKind.u64.wrap (q : Int) * (v : Int))) = ((u + q * v : Nat) : Int) := by
 have hv : v = 0 ∨ q ≤ q * v := by
  rcases Nat.eq_zero_or_pos v with h0 | h0
  · exact .inl h0
  · refine .inr ?_
    have : q * 1 ≤ q * v := Nat.mul_le_mul_left _ h0
    omega
 have hPI : (q : Int) * (v : Int) = ((q * v : Nat) : Int) := by push_cast; rfl
 unfold B64 at h
 have h2 : IntKind.u64.wrap (IntKind.u64.wrap (q : Int) * (v : Int)) = ((q * v : Nat) : Int) := by
  rcases hv with h0 | h0
  · subst h0
    simp only [Nat.mul_zero, Int.natCast_zero, Int.mul_zero]
    exact IntWalk.u64_in _ (by omega)
  · have h1 : IntKind.u64.wrap (q : Int) = (q : Int) := IntWalk.u64_in _ (by omega)
    rw [h1, hPI]
    exact IntWalk.u64_in _ (by omega)
 rw [h2]
 rw [show (u : Int) + ((q * v : Nat) : Int) = ((u + q * v : Nat) : Int) by omega]
 exact IntWalk.u64_in _ (by omega)
end
end Go.Proofs.YtohhkjamddojmaaGreatDoor.Big

set_option maxHeartbeats 16000000
namespace Go.Proofs.YtohhkjamddojmaaGreatDoor.Big
open Go.RowKit
theorem sz_toR {n : Nat} {U : Int} (h : Sz n U) : Sz n ((toR U).2 : Int) := by unfold Sz at *; show ((U.natAbs : Int)).natAbs < _; rw [Int.natAbs_natCast]; exact h
attribute [local go_sem] ptr
attribute [local irreducible] Sz absOf
section
variable {R : Nat → Prop} {w0 w : World} {L : List (Nat × Int)}
theorem Own.newThree (h : Own R w0 w L) : Own R w0 (((w.alloc (.cells #[.bool false, .slice .none 0 0] 172)).alloc (.cells #[.bool false, .slice .none 0 0] 172)).alloc (.cells #[.bool false, .slice .none 0 0] 172)) ((w.heap.size + 1 + 1, 0) :: (w.heap.size + 1, 0) :: (w.heap.size, 0) :: L) ∧ ¬ R (w.heap.size + 1 + 1) ∧ ¬ R (w.heap.size + 1) ∧ ¬ R w.heap.size := by
 obtain ⟨h2, r2, r1⟩ := h.new2
 obtain ⟨h3, r3⟩ := h2.new
 have e : ((w.alloc (.cells #[.bool false, .slice .none 0 0] 172)).alloc (.cells #[.bool false, .slice .none 0 0] 172)).heap.size = w.heap.size + 1 + 1 := by
  rw [show ∀ (v : World) (o : Obj), (v.alloc o).heap.size = v.heap.size + 1 from fun v o => Array.size_push _, show ∀ (v : World) (o : Obj), (v.alloc o).heap.size = v.heap.size + 1 from fun v o => Array.size_push _]
 rw [e] at h3 r3
 exact ⟨h3, r3, r2, r1⟩
def FI (R : Nat → Prop) (w0 : World) (L : List (Nat × Int)) (g n : Nat) (wx : World) (pa pu : Nat) : Prop :=
 ∃ U : Int, Own R w0 wx ((pu, U) :: (pa, 1) :: L) ∧ (n : Int) ∣ U * g - 1 ∧ (U.natAbs : Int) < n
theorem FI.of {g n : Nat} {wx : World} {pa pb pu pv : Nat} {B U V : Int} (ho : Own R w0 wx ((pu, U) :: (pv, V) :: (pa, (1 : Int)) :: (pb, B) :: L)) (hg : GcdLaw.G (g : Int) n 1 0 U V) (hn : 1 < n) : FI R w0 L g n wx pa pu :=
 ⟨U, Own.choose (A := [(pu, U), (pv, V), (pa, (1 : Int)), (pb, B)]) (L := L) ho [0, 2] (by decide) (by simp), hg.fin (by omega) rfl⟩
set_option maxRecDepth 100000 in
theorem lehmerO (h : Own R w0 w L) (i m j k : Nat) {zd zx zg zn : Nat} {v u : Int} (g n : Nat) (hi : L[i]? = some (zd, v)) (hm : L[m]? = some (zx, u)) (hj : L[j]? = some (zg, (g : Int))) (hk : L[k]? = some (zn, (n : Int)))
 (him : i ≠ m) (hR : ¬ R zd) (hR2 : ¬ R zx) (hg : 0 < g) (hgn : g < n) (hn : n < B64 ^ 4) (hc : Int.gcd g n = 1) :
 Calls Tryz.prog 173 #[ptr zd, ptr zx, .pointer .none, ptr zg, ptr zn] w (fun e w' => ∃ U : Int, e = .returned (ptr zd) ∧ Own R w0 w' ((L.set m (zx, U)).set i (zd, 1)) ∧ (n : Int) ∣ U * g - 1 ∧ (U.natAbs : Int) < n) := by
 have HS := Lz h
 have HHI := Lz hi
 have HHM := Lz hm
 have HHJ := Lz hj
 have HHK := Lz hk
 have HIM := Lz him
 have HHR := Lz hR
 have HHR2 := Lz hR2
 have HG0 := Lz hg
 have HGN := Lz hgn
 have HN := Lz hn
 have HC := Lz hc
 clear h hi hm hj hk him hR hR2 hg hgn hn hc
 unfold ptr at *
 go_enter Tryz.func173, Tryz.ntmps173
 go_wp2_with fail
 -- A := |a|, B := |b|
 have SG := Lz ((sz_of_lt (n := 4) (a := (g : Int)) (by have := HN.out; have := HGN.out; omega)).le (by decide : 64 * 4 ≤ 640000))
 have SN := Lz ((sz_of_lt (n := 4) (a := (n : Int)) (by have := HN.out; omega)).le (by decide : 64 * 4 ≤ 640000))
 obtain ⟨hA, hAR⟩ := HS.out.new
 refine (absO hA 0 (j + 1) rfl HHJ.out hAR SG.out).mono ?_
 rintro e w1 ⟨rfl, h1⟩
 have H1 := Lz (show Own R w0 w1 ((w.heap.size, (g : Int)) :: L) from h1)
 have RA := Lz hAR
 clear hA hAR h1
 generalize w.heap.size = pA at *
 go_wp2_with fail
 obtain ⟨hB, hBR⟩ := H1.out.new
 refine (absO hB 0 (k + 2) rfl HHK.out hBR SN.out).mono ?_
 rintro e w2 ⟨rfl, h2⟩
 have H2 := Lz (show Own R w0 w2 ((w1.heap.size, (n : Int)) :: (pA, (g : Int)) :: L) from h2)
 have RB := Lz hBR
 clear hB hBR h2
 generalize w1.heap.size = pB at *
 go_wp2_with fail
 obtain ⟨hU, hUR⟩ := H2.out.new
 refine (setIntO hU 0 1 rfl hUR (by decide)).mono ?_
 rintro e w3 ⟨rfl, h3⟩
 have RU := Lz hUR
 obtain ⟨h6, r3, r2, r1⟩ := (show Own R w0 w3 ((w2.heap.size, (1 : Int)) :: (pB, (n : Int)) :: (pA, (g : Int)) :: L) from h3).newThree
 have H6 := Lz h6
 have RV := Lz (And.intro r1 (And.intro r2 r3))
 clear hU hUR h3 h6 r1 r2 r3
 obtain ⟨p, q, c, d, ha1, hb1, hcmp⟩ := H6.out.cmpq (j := 5) (k := 4) rfl rfl SG.out
 have hs : sgn (g : Int).natAbs (n : Int).natAbs = -1 := sgn_lt (by simpa using HGN.out)
 rw [hs] at hcmp
 have HCMP := Lz hcmp
 clear hcmp hs
 generalize w2.heap.size = pU at *
 go_wp2_with fail
 generalize ((w3.alloc (.cells #[.bool false, .slice .none 0 0] 172)).alloc (.cells #[.bool false, .slice .none 0 0] 172)).alloc (.cells #[.bool false, .slice .none 0 0] 172) = W at *
 generalize w3.heap.size = pV at *
 go_quiet ((go_at_call 131; exact HCMP.out _))
 go_wp2_with fail
 have HL0 := Lz (show LI R w0 L g n (W.drewN nq) pB pA pV pU (pV + 1 + 1) (pV + 1) n g 0 1 from ⟨⟨_, _, (H6.out.drew nq).raw⟩, RB.out, RA.out, RV.out.1, RU.out, RV.out.2.2, RV.out.2.1, GcdLaw.G.startSwap (by have := HG0.out; omega) (by have := HG0.out; have := HGN.out; omega) (by have := HGN.out; omega), HN.out, Nat.le_refl n⟩)
 clear ha1 hb1
 go_loopw [11, 12, 13, 14, 17] (fun s11 s12 s13 s14 s17 wr => ∃ (pa pb pu pv pr : Nat) (A B : Nat) (U V : Int), s11 = (.pointer (some ⟨pa, 0, .none⟩)) ∧ s12 = (.pointer (some ⟨pb, 0, .none⟩)) ∧ s13 = (.pointer (some ⟨pu, 0, .none⟩)) ∧ s14 = (.pointer (some ⟨pv, 0, .none⟩)) ∧ s17 = (.pointer (some ⟨pr, 0, .none⟩)) ∧ RowKit.Hid (LI R w0 L g n wr pa pb pu pv pr (pV + 1) A B U V)) (fun s11 s12 _ _ _ wr => absOf wr s11 + absOf wr s12)
 case atStart => exact ⟨pB, pA, pV, pU, pV + 1 + 1, n, g, 0, 1, rfl, rfl, rfl, rfl, rfl, HL0.out⟩
 case round =>
  obtain ⟨pa, pb, pu, pv, pr, A, B, U, V, rfl, rfl, rfl, rfl, rfl, HLI⟩ := hrel
  obtain ⟨p, c, q, d, cA, cB, hwA, hwB⟩ := HLI.out.cells
  obtain ⟨lb, hlb⟩ : ∃ lb, lb = (dg B).length := ⟨_, rfl⟩
  rw [← hlb] at cB
  by_cases hB : 2 ≤ lb
  · have i1 : (1 : Int) < lb := by omega
    have HSIM := Lz (HLI.out.sim (by rw [← hlb]; exact hB))
    have HB0 := Lz (show B ≠ 0 from by rintro rfl; rw [zyw] at hlb; simp at hlb; omega)
    clear hwA hwB cA hlb hB
    go_wp2_with fail
    refine HSIM.out.mono ?_
    rintro e wq ⟨u0, u1, v0, v1, even, rfl, ⟨d2, rfl⟩, b0, b1, b2, b3, hL⟩
    have HL2 := Lz (HLI.out.drew d2)
    have HBS := Lz (And.intro b0 (And.intro b1 (And.intro b2 (And.intro b3 hL))))
    clear b0 b1 b2 b3 hL cB
    by_cases hv : v0 = 0
    · have j1 : ((v0 : Int) != 0) = false := by rw [hv]; rfl
      have HE := Lz (HL2.out.euclid HB0.out)
      clear hv
      go_wp2_with fail
      refine HE.out.mono ?_
      rintro e wq ⟨rfl, h3⟩
      have H3 := Lz h3
      clear h3
      go_wp2_with fail
      go_roundw
      case rel => exact ⟨pb, pr, pv, pu, pa, B, A % B, V, _, rfl, rfl, rfl, rfl, rfl, H3.out⟩
      case measure =>
       have e1 := H3.out.abs
       have e2 := HLI.out.abs
       unfold ptr at e1 e2
       rw [e1.1, e1.2, e2.1, e2.2]
       have := HLI.out.g.ab
       have := Nat.mod_lt A (show 0 < B by have := HB0.out; omega)
       omega
    · have j1 : ((v0 : Int) != 0) = true := by rw [bne_iff_ne]; omega
      have HC1 := Lz (HL2.out.updA u0 u1 v0 v1 even HBS.out.1 HBS.out.2.1 HBS.out.2.2.1 HBS.out.2.2.2.1)
      have HLEH := Lz (HBS.out.2.2.2.2.resolve_left hv)
      clear hv
      go_wp2_with fail
      refine HC1.out.mono ?_
      rintro e wq ⟨rfl, h3⟩
      have HC2 := Lz (HL2.out.updU h3 u0 u1 v0 v1 even HBS.out.1 HBS.out.2.1 HBS.out.2.2.1 HBS.out.2.2.2.1)
      clear h3
      go_wp2_with fail
      refine HC2.out.mono ?_
      rintro e wz ⟨rfl, h4⟩
      obtain ⟨A', B', hLeh⟩ := HLEH.out
      obtain ⟨A2, B2, U2, V2, h5, hlt⟩ := HL2.out.next hLeh h4
      have H5 := Lz h5
      have HLT := Lz hlt
      clear h4 hLeh h5 hlt
      go_wp2_with fail
      go_roundw
      case rel => exact ⟨pa, pb, pu, pv, pr, A2, B2, U2, V2, rfl, rfl, rfl, rfl, rfl, H5.out⟩
      case measure =>
       have e1 := H5.out.abs
       have e2 := HLI.out.abs
       unfold ptr at e1 e2
       rw [e1.1, e1.2, e2.1, e2.2]
       exact HLT.out
  · have i1 : ¬ (1 : Int) < lb := by omega
    have HB1 := Lz (show B < B64 from by
     have := @dg_two B
     omega)
    have hN1 := Lz (show 1 < n from by have := HG0.out; have := HGN.out; omega)
    obtain ⟨la, hla⟩ : ∃ la, la = (dg A).length := ⟨_, rfl⟩
    rw [← hla] at cA
    have HLB := Lz hlb
    have HLAA := Lz hla
    clear hwA hwB hB hla hlb
    go_upto_if 122 with fail
    go_cut [11, 13] from 11 (fun s11 s13 wx => ∃ pa pu : Nat, s11 = (.pointer (some ⟨pa, 0, .none⟩)) ∧ s13 = (.pointer (some ⟨pu, 0, .none⟩)) ∧ RowKit.Hid (FI R w0 L g n wx pa pu))
    case first =>
     have hlb := HLB.out
     have hla := HLAA.out
     have HFI0 : ∀ (wx : World) (pa pb pu pv pr A B : Nat) (U V : Int), LI R w0 L g n wx pa pb pu pv pr (pV + 1) A B U V → B = 0 → FI R w0 L g n wx pa pu := fun wx pa pb pu pv pr A B U V hl hB0 => by
      have hg := hl.g
      have h0 : (B : Int) = 0 := by omega
      rw [h0] at hg
      have hA1 : (A : Int) = 1 := by
       have := hg.fin_gcd
       rw [HC.out] at this
       exact this
      rw [hA1] at hg
      have ho := hl.ints
      rw [hA1] at ho
      exact FI.of ho hg hN1.out
     have HFI := Lz HFI0
     clear HFI0
     by_cases hB0 : B = 0
     · have i2 : ¬ 0 < lb := by rw [hlb, hB0, zyw]; simp
       have i2' : decide (0 < lb) = false := by simp [i2]
       have HF1 := Lz (HFI.out _ _ _ _ _ _ _ _ _ _ HLI.out hB0)
       clear hB0 hlb hla
       go_wp2_with fail
       go_meet
       case rel => exact ⟨pa, pu, rfl, rfl, HF1.out⟩
     · have i2 : 0 < lb := by have := zyx hB0; omega
       have i2' : decide (0 < lb) = true := by simp [i2]
       have HBN := Lz hB0
       clear hB0 hlb hla
       go_upto_if 128 with fail
       go_cut [11, 12, 13, 14, 17] from 117 to 142 (fun s11 s12 s13 s14 s17 wx => ∃ (pa pb pu pv pr : Nat) (A B : Nat) (U V : Int), s11 = (.pointer (some ⟨pa, 0, .none⟩)) ∧ s12 = (.pointer (some ⟨pb, 0, .none⟩)) ∧ s13 = (.pointer (some ⟨pu, 0, .none⟩)) ∧ s14 = (.pointer (some ⟨pv, 0, .none⟩)) ∧ s17 = (.pointer (some ⟨pr, 0, .none⟩)) ∧ RowKit.Hid (LI R w0 L g n wx pa pb pu pv pr (pV + 1) A B U V ∧ A < B64))
       case first =>
        have hla := HLAA.out
        by_cases h2 : 2 ≤ la
        · have i3 : 1 < la := by omega
          have i3' : decide (1 < la) = true := by simp [i3]
          have HE := Lz (HLI.out.euclid HBN.out)
          clear h2 hla
          go_wp2_with fail
          refine HE.out.mono ?_
          rintro e wq ⟨rfl, h3⟩
          have H3 := Lz h3
          clear h3 HE
          go_wp2_with fail
          go_meet
          case rel => exact ⟨pb, pr, pv, pu, pa, B, A % B, V, _, rfl, rfl, rfl, rfl, rfl, H3.out, HB1.out⟩
        · have i3 : ¬ 1 < la := by omega
          have i3' : decide (1 < la) = false := by simp [i3]
          have HA1 := Lz (show A < B64 from by
           have := @dg_two A
           omega)
          clear h2 hla
          go_wp2_with fail
          go_meet
          case rel => exact ⟨pa, pb, pu, pv, pr, A, B, U, V, rfl, rfl, rfl, rfl, rfl, HLI.out, HA1.out⟩
       case rest =>
        clear HLI cA cB HBN HB1 i1 i2 HLB HLAA
        obtain ⟨pa, pb, pu, pv, pr, A, B, U, V, rfl, rfl, rfl, rfl, rfl, HLA⟩ := hcut
        have HLI := Lz HLA.out.1
        have HAB := Lz HLA.out.2
        clear HLA
        have HFI2 := Lz (fun h0 => HFI.out _ _ _ _ _ _ _ _ _ _ HLI.out h0)
        clear HFI
        by_cases hB0 : B = 0
        · obtain ⟨p, c, q, d, cA, cB, -, -⟩ := HLI.out.cells
          have HF1 := Lz (HFI2.out hB0)
          rw [hB0, zyw] at cB
          have cB0 : wc.cell? ⟨pb, 1, .none⟩ = some (.slice q 0 d) := cB
          clear cA cB hB0
          go_wp2_with fail
          go_meet
          case rel => exact ⟨pa, pu, rfl, rfl, HF1.out⟩
        · have hA0 : A ≠ 0 := by have := HLI.out.g.a1; omega
          have hBB : B < B64 := by have := HLI.out.g.ab; have := HAB.out; omega
          obtain ⟨ba, ca, hg1, hca, hg0, hgf, hgw⟩ := HLI.out.ints.word (i := 2) (n := A) rfl hA0 HAB.out
          obtain ⟨bb, cb, hn1, hcb, hn0, hnf, hnw⟩ := HLI.out.ints.word (i := 3) (n := B) rfl hB0 hBB
          have HBB := Lz (And.intro hB0 (And.intro hA0 hBB))
          have hcb1 : (1 : Int) ≤ (cb : Int) := by omega
          have hca1 : (1 : Int) ≤ (ca : Int) := by omega
          clear hnw hgw hgf hnf hB0 hA0 hBB
          go_wp2_with fail
          go_quiet (fail)
          go_wp2_with fail
          go_loopw [23, 24, 25, 26, 27, 28, 29] (fun s1 s2 s3 s4 s5 s6 s7 wr => ∃ (a b ua ub va vb : Nat) (e : Bool) (d : Nat), s1 = .int .u64 a ∧ s2 = .int .u64 b ∧ s3 = .int .u64 ua ∧ s4 = .int .u64 ub ∧ s5 = .int .u64 va ∧ s6 = .int .u64 vb ∧ s7 = .bool e ∧ wr = wc.drewN d ∧
           RowKit.Hid (WI g n A B U V a b ua ub va vb e ∧ ua < B64 ∧ va < B64)) (fun _ s2 _ _ _ _ _ _ => (intOf s2).toNat)
          case atStart => exact ⟨A, B, 1, 0, 0, 1, true, _, rfl, rfl, rfl, rfl, rfl, rfl, rfl, rfl, ⟨WI.start HLI.out.g, by decide, by decide⟩⟩
          case round =>
           obtain ⟨a, b, ua, ub, va, vb, e, d, rfl, rfl, rfl, rfl, rfl, rfl, rfl, rfl, HW⟩ := hrel
           by_cases hb0 : b = 0
           · subst hb0
             go_wp2_with fail
             obtain ⟨hW, hua, hva⟩ := HW.out
             have hgg := hW.g
             have ha1 : (a : Int) = 1 := by
              have := hgg.fin_gcd
              rw [HC.out] at this
              exact this
             obtain ⟨U1, hU1⟩ : ∃ U1, U1 = (if e then (ua : Int) * U - va * V else va * V - ua * U) := ⟨_, rfl⟩
             rw [← hU1] at hgg
             obtain ⟨hdvd, hlt⟩ := hgg.fin (by have := hN1.out; omega) ha1
             obtain rfl : a = 1 := by omega
             have HDV := Lz (And.intro hdvd hlt)
             have HU1 := Lz hU1
             obtain ⟨-, -, sU, sV⟩ := HLI.out.size
             have SU := Lz (sz_toR sU)
             have SV := Lz (sz_toR sV)
             have HUA := Lz (And.intro hua hva)
             have hO := (HLI.out.ints.drew d).raw
             have C := rawMulWO hO 0 0 (!e) ua rfl rfl HLI.out.nu (SU.out.le (by decide)) HUA.out.1
             have HCC := Lz C
             clear C hdvd hlt hU1 hgg ha1 hW hua hva HW hO sU sV hg1 hn1 hg0 hn0 hca hcb hca1 hcb1
             refine HCC.out.mono ?_
             rintro en w4 ⟨rfl, h4⟩
             have C2 := rawMulWO h4 1 1 e va rfl rfl HLI.out.nv (SV.out.le (by decide)) HUA.out.2
             have HC2 := Lz C2
             clear C2 h4 HCC
             go_wp2_with fail
             refine HC2.out.mono ?_
             rintro en w5 ⟨rfl, h5⟩
             have C3 := rawAddO h5 0 0 1 rfl rfl rfl HLI.out.nu ((sz_mulw SU.out HUA.out.1).le (by decide)) ((sz_mulw SV.out HUA.out.2).le (by decide))
             rw [upd_val, ← HU1.out] at C3
             have HC3 := Lz C3
             clear C3 h5 HC2
             go_wp2_with fail
             refine HC3.out.mono ?_
             rintro en w6 ⟨rfl, h6⟩
             have h7 : Own R w0 w6 ((pu, U1) :: (pa, (A : Int)) :: (pb, (B : Int)) :: L) := OwnR.int (OwnR.drop2 h6)
             obtain ⟨bn, cn, k1, k2, k3, k4, k5⟩ := h7.word (i := 1) (n := A) rfl HBB.out.2.1 HAB.out
             have H8 := Lz (k5 HLI.out.na 1 (by decide) (by decide))
             have k2' : (1 : Int) ≤ (cn : Int) := by omega
             clear k5 h6 HC3 h7 k2
             go_wp2_with fail
             go_meet
             case rel => exact ⟨pa, pu, rfl, rfl, U1, Own.choose (A := [(pu, U1), (pa, (1 : Int)), (pb, (B : Int))]) (L := L) H8.out [0, 1] (by decide) (by simp), HDV.out⟩
           · have hb2 : ((b : Int) == 0) = false := by rw [beq_eq_false_iff_ne]; omega
             have hb3 : ((b : Int) != 0) = true := by rw [bne_iff_ne]; omega
             have hb1 : (1 : Int) ≤ (b : Int) := by omega
             have ha0 : (0 : Int) ≤ (a : Int) := by omega
             have HBQ := Lz hb0
             clear hb0
             go_wp2_with fail
             go_quiet (fail)
             go_wp2_with fail
             go_roundw
             case rel =>
              obtain ⟨hW, hua, hva⟩ := HW.out
              have hN := hW.next HBQ.out
              obtain ⟨t1, t2⟩ := hN.bound
              obtain ⟨t3, t4⟩ := hW.bound
              have hAl := HAB.out
              have hBl := HBB.out.2.2
              exact ⟨b, a % b, ub, ua + a / b * ub, vb, va + a / b * vb, !e, _, rfl, rfl, rfl, congrArg (Value.int .u64) (u64_step (Nat.lt_of_le_of_lt t2 hBl)), rfl, congrArg (Value.int .u64) (u64_step (Nat.lt_of_le_of_lt t1 hAl)), rfl, rfl, ⟨hN, Nat.lt_of_le_of_lt t4 hBl, Nat.lt_of_le_of_lt t3 hAl⟩⟩
             case measure =>
              have : a % b < b := Nat.mod_lt _ (by have := HBQ.out; omega)
              have e2 : (a : Int) % (b : Int) = ((a % b : Nat) : Int) := rfl
              rw [e2]
              simp [intOf]
              omega
    case rest =>
     obtain ⟨pa, pu, rfl, rfl, HF⟩ := hcut
     obtain ⟨U, hF, hdvd, hlt⟩ := HF.out
     have HX := Lz hF
     have HDV := Lz (And.intro hdvd hlt)
     have HUS := Lz ((sz_of_lt (n := 4) (a := U) (by have := HN.out; omega)).le (by decide : 64 * 4 ≤ 640000))
     obtain ⟨z1, z2, -⟩ := hF.cells (i := j + 2) HHJ.out
     clear hF hdvd hlt HF z2
     have zd0 : decide ((g : Int) < 0) = false := by simp
     rw [zd0] at z1
     go_wp2_with fail
     refine (setO HX.out (m + 2) 0 HHM.out rfl HHR2.out HUS.out).mono ?_
     rintro en w8 ⟨rfl, h8⟩
     have H9 := Lz (show Own R w0 w8 ((pu, U) :: (pa, (1 : Int)) :: L.set m (zx, U)) from h8)
     clear h8 z1 zd0
     go_wp2_with fail
     have hi' : (L.set m (zx, U))[i]? = some (zd, v) := by rw [List.getElem?_set_ne (Ne.symm HIM.out)]; exact HHI.out
     refine (setO H9.out (i + 2) 1 hi' rfl HHR.out (sz_word (by decide))).mono ?_
     rintro en w9 ⟨rfl, h9⟩
     have HF := Lz (show Own R w0 w9 ((pu, U) :: (pa, (1 : Int)) :: (L.set m (zx, U)).set i (zd, 1)) from h9)
     clear h9 hi'
     go_wp2_with fail
     go_ret
     exact ⟨U, rfl, HF.out.tail.tail, HDV.out⟩
end
end Go.Proofs.YtohhkjamddojmaaGreatDoor.Big
