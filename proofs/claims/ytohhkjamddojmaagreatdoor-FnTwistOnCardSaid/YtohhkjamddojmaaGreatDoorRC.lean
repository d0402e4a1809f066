/- Sums of raw Ints; a raw Int times a word. What a function owns, raw; words written in place; comparing. -/
import Derived.Test.YtohhkjamddojmaaGreatDoorRA
import Derived.Test.YtohhkjamddojmaaGreatDoorIU
namespace Go.Proofs.YtohhkjamddojmaaGreatDoor.Big
open Go.RowKit

theorem rawAdd {R : Nat → Prop} {w : World} {zs : List Nat} {vs : List (Bool × Nat)} (h : IntsR R w zs vs) (i j k z x y : Nat) (a b : Bool × Nat) (hi : zs[i]? = some z) (hj : zs[j]? = some x) (hk : zs[k]? = some y) (hR : ¬ R z)
    (ha : vs[j]? = some a) (hb : vs[k]? = some b) (hla : (dg a.2).length ≤ 80000) (hlb : (dg b.2).length ≤ 80000) :
    Calls Tryz.prog 130 #[ptr z, ptr x, ptr y] w (RawP R zs (vs.set i (toR (ofR a + ofR b))) (ptr z) w) := by
  obtain ⟨ps, qs, h⟩ := h
  obtain ⟨na, ma⟩ := a
  obtain ⟨nb, mb⟩ := b
  by_cases hs : nb = na
  · subst hs
    exact rawAdd_same R w zs vs ps qs h i j k z x y nb ma mb hi hj hk hR ha hb hla hlb
  · have hs' : nb = !na := by cases na <;> cases nb <;> simp at hs ⊢
    subst hs'
    by_cases hle : mb ≤ ma
    · exact rawAdd_ge R w zs vs ps qs h i j k z x y na ma mb hi hj hk hR ha hb hla hlb hle
    · exact rawAdd_lt R w zs vs ps qs h i j k z x y na ma mb hi hj hk hR ha hb hla hlb (by omega)

set_option maxHeartbeats 1000000 in
set_option maxRecDepth 100000 in
theorem rawMulW {R : Nat → Prop} {w : World} {zs : List Nat} {vs : List (Bool × Nat)} (h : IntsR R w zs vs) (i j z x : Nat) (a : Bool × Nat) (n : Bool) (y : Nat) (hi : zs[i]? = some z) (hj : zs[j]? = some x) (hR : ¬ R z)
    (ha : vs[j]? = some a) (hla : (dg a.2).length ≤ 80000) (hy : y < B64) :
    Calls Tryz.prog 195 #[ptr z, ptr x, .bool n, wd y] w (RawP R zs (vs.set i (a.1 != n, a.2 * y)) (.tuple #[]) w) := by
  obtain ⟨ps, qs, h⟩ := h
  obtain ⟨v, p, q, hv, hp, hq, oz⟩ := h.at hi
  obtain ⟨a', px, dx, ha', hpx, hqx, ox⟩ := h.at hj
  obtain rfl : a = a' := by rw [ha] at ha'; exact Option.some.inj ha'
  have hpz : blk p ≠ some z := h.zp i i z p hi hp
  have HOP := Lib.hid fun m => nat_mulAddWW p px (dg v.2).length a.2 y 0 q dx (w.drewN m) (oz.num.buf.kept (grown_drewN _ _ .none) (fun _ _ => by simp)) (ox.num.kept (grown_drewN _ _ .none) (fun _ _ => by simp)) hla hy B64_pos
  have hz1 := oz.str.cell1
  have hx1 := ox.str.cell1
  have HF := Lib.hid h
  have HSZ := Lib.hid oz.str
  have HPZ := Lib.hid hpz
  have HHI := Lib.hid hi
  have HHP := Lib.hid hp
  have HHR := Lib.hid hR
  have hx0 : ∀ wx, AbsDone w z p v.1 (a.2 * y + 0) wx → wx.cell? ⟨x, 0, .none⟩ = some (.bool a.1) := by
    rintro wx ⟨p', q', h1, h2, h3, h4, h5⟩
    by_cases hxz : x = z
    · subst hxz
      have e := ox.str.cell0
      rw [oz.str.cell0] at e
      rw [h1.cell0, Option.some.inj e]
    · exact (ox.str.grow h3 (by rintro (e | e); exact hxz e; exact h.zp j i x p hj hp e)).cell0
  have HX0 := Lib.hid hx0
  clear h hi hj hR ha ha' hv hp hq hpx hqx oz ox hpz hla hy hx0
  unfold ptr
  unfold wd at *
  go_enter Tryz.func195, Tryz.ntmps195
  go_upto_region 0 with fail
  go_cut [] from 8 (fun wx => AbsDone w z p v.1 (a.2 * y + 0) wx)
  case first =>
    go_region_with (go_at_call 205; refine (HOP.out _).mono ?_; rintro e w1 ⟨p', q', rfl, hn, hg, hf⟩; have hsz := HSZ.out.grow ((Grow.none (grown_drewN w _ .none) _).trans (Grow.of hg)) HPZ.out; have hc1 := hsz.cell1; have hf1 := hsz.free 1; have HN := Lib.hid hn; have HG := Lib.hid hg; have HFr := Lib.hid hf; clear hn hg hf hsz)
    all_goals
      go_wp2_with fail
      go_meet
      case rel => exact AbsDone.of HSZ.out HPZ.out (grown_drewN _ _ _) HN.out HG.out HFr.out
  case rest =>
    have HA := Lib.hid hcut
    have hx0 := HX0.out _ hcut
    obtain ⟨p', q', h1, h2, h3, h4, h5⟩ := hcut
    have hc0 := h1.cell0
    have hf0 := h1.free 0
    clear h1 h2 h3 h4 h5 hz1 hx1
    go_wp2_with fail
    go_end0
    exact ⟨rfl, HA.out.finishR HF.out HHI.out HHP.out HHR.out rfl rfl⟩
end Go.Proofs.YtohhkjamddojmaaGreatDoor.Big

namespace Go.Proofs.YtohhkjamddojmaaGreatDoor.Big
open Go.RowKit

structure OwnR (R : Nat → Prop) (w0 w : World) (L : List (Nat × (Bool × Nat))) : Prop where
  ints : IntsR R w (L.map Prod.fst) (L.map Prod.snd)
  kept : Kept R w0 w
  tab : Tab w
  low : ∀ k, k < 8 → R k
def rawP (p : Nat × Int) : Nat × (Bool × Nat) := (p.1, toR p.2)
theorem map_fst_raw (L : List (Nat × Int)) : (L.map rawP).map Prod.fst = L.map Prod.fst := by rw [List.map_map]; rfl
theorem map_snd_raw (L : List (Nat × Int)) : (L.map rawP).map Prod.snd = (L.map Prod.snd).map toR := by rw [List.map_map, List.map_map]; rfl
theorem Own.raw {R : Nat → Prop} {w0 w : World} {L : List (Nat × Int)} (h : Own R w0 w L) : OwnR R w0 w (L.map rawP) :=
  ⟨by rw [map_fst_raw, map_snd_raw]; exact h.ints.raw, h.kept, h.tab, h.low⟩
theorem OwnR.int {R : Nat → Prop} {w0 w : World} {L : List (Nat × Int)} (h : OwnR R w0 w (L.map rawP)) : Own R w0 w L :=
  ⟨by have := h.ints; rw [map_fst_raw, map_snd_raw] at this; exact this.int, h.kept, h.tab, h.low⟩
theorem raw1 {L : List (Nat × (Bool × Nat))} {i z : Nat} {v : Bool × Nat} (h : L[i]? = some (z, v)) : (L.map Prod.fst)[i]? = some z := by rw [List.getElem?_map, h]; rfl
theorem raw2 {L : List (Nat × (Bool × Nat))} {i z : Nat} {v : Bool × Nat} (h : L[i]? = some (z, v)) : (L.map Prod.snd)[i]? = some v := by rw [List.getElem?_map, h]; rfl
theorem OwnR.step {R : Nat → Prop} {w0 w w' : World} {L : List (Nat × (Bool × Nat))} {i z : Nat} {v u : Bool × Nat} (h : OwnR R w0 w L) (hz : L[i]? = some (z, v)) (hi : IntsR R w' (L.map Prod.fst) ((L.map Prod.snd).set i u)) (hk : Kept R w w') : OwnR R w0 w' (L.set i (z, u)) := by
  refine ⟨?_, h.kept.trans hk, h.tab.keptR hk h.low, h.low⟩
  rw [List.map_set, List.map_set, set_same (raw1 hz)]
  exact hi
section
variable {R : Nat → Prop} {w0 w : World}
theorem rawAddO {L : List (Nat × (Bool × Nat))} (h : OwnR R w0 w L) (i j k : Nat) {z x y : Nat} {v a b : Bool × Nat} (hi : L[i]? = some (z, v)) (hj : L[j]? = some (x, a)) (hk : L[k]? = some (y, b)) (hR : ¬ R z) (sa : Sz 640000 (a.2 : Int)) (sb : Sz 640000 (b.2 : Int)) :
    Calls Tryz.prog 130 #[ptr z, ptr x, ptr y] w fun e w' => e = .returned (ptr z) ∧ OwnR R w0 w' (L.set i (z, toR (ofR a + ofR b))) :=
  (rawAdd h.ints i j k z x y a b (raw1 hi) (raw1 hj) (raw1 hk) hR (raw2 hj) (raw2 hk) (Nat.le_trans (Sz.words (k := 10000) (a := (a.2 : Int)) sa) (by decide)) (Nat.le_trans (Sz.words (k := 10000) (a := (b.2 : Int)) sb) (by decide))).mono fun _ _ hp => ⟨hp.1, h.step hi hp.2.1 hp.2.2⟩
theorem rawMulWO {L : List (Nat × (Bool × Nat))} (h : OwnR R w0 w L) (i j : Nat) {z x : Nat} {v a : Bool × Nat} (n : Bool) (y : Nat) (hi : L[i]? = some (z, v)) (hj : L[j]? = some (x, a)) (hR : ¬ R z) (sa : Sz 640000 (a.2 : Int)) (hy : y < B64) :
    Calls Tryz.prog 195 #[ptr z, ptr x, .bool n, wd y] w fun e w' => e = .returned (.tuple #[]) ∧ OwnR R w0 w' (L.set i (z, (a.1 != n, a.2 * y))) :=
  (rawMulW h.ints i j z x a n y (raw1 hi) (raw1 hj) hR (raw2 hj) (Nat.le_trans (Sz.words (k := 10000) (a := (a.2 : Int)) sa) (by decide)) hy).mono fun _ _ hp => ⟨hp.1, h.step hi hp.2.1 hp.2.2⟩
variable {L : List (Nat × Int)}
theorem absO (h : Own R w0 w L) (i j : Nat) {z x : Nat} {v a : Int} (hi : L[i]? = some (z, v)) (hj : L[j]? = some (x, a)) (hR : ¬ R z) (sa : Sz 640000 a) :
    Calls Tryz.prog 191 #[ptr z, ptr x] w (OpP R w0 z (L.set i (z, (a.natAbs : Int)))) :=
  (Int_Abs h.ints i j z x a (at1 hi) (at1 hj) hR (at2 hj) (Nat.le_trans (Sz.words (k := 10000) sa) (by decide)) (by have := (List.getElem?_eq_some_iff.1 hi).1; simpa using this)).mono fun _ _ hp => OpP.of h hi hp
/-- two Ints' words compared -/
theorem Own.cmpq (h : Own R w0 w L) {j k x y : Nat} {a b : Int} (hj : L[j]? = some (x, a)) (hk : L[k]? = some (y, b)) (sa : Sz 640000 a) :
    ∃ p q c d, w.cell? ⟨x, 1, .none⟩ = some (.slice p (dg a.natAbs).length c) ∧ w.cell? ⟨y, 1, .none⟩ = some (.slice q (dg b.natAbs).length d) ∧
      ∀ n, Calls Tryz.prog 131 #[.slice p (dg a.natAbs).length c, .slice q (dg b.natAbs).length d] (w.drewN n) fun e w'' => e = .returned (.int .i64 (sgn a.natAbs b.natAbs)) ∧ ∃ m, w'' = w.drewN m := by
  obtain ⟨ps, qs, hf⟩ := h.ints
  obtain ⟨a', px, dx, ha', hpx, hqx, ox⟩ := hf.at (at1 hj)
  obtain ⟨b', py, dy, hb', hpy, hqy, oy⟩ := hf.at (at1 hk)
  obtain rfl : a = a' := by rw [at2 hj] at ha'; exact Option.some.inj ha'
  obtain rfl : b = b' := by rw [at2 hk] at hb'; exact Option.some.inj hb'
  refine ⟨px, py, _, _, ox.str.cell1, oy.str.cell1, fun n => Calls.quiet_of (w := w) (n := n) ?_⟩
  exact nat_cmp px py a.natAbs b.natAbs dx dy (w.drewN n) (ox.num.kept (grown_drewN _ _ .none) (fun _ _ => by simp)) (oy.num.kept (grown_drewN _ _ .none) (fun _ _ => by simp)) (Nat.le_trans (Sz.words (k := 10000) sa) (by decide))
/-- an Int of one word: its word, and another word in its place -/
theorem Own.word (h : Own R w0 w L) {i z n : Nat} (hi : L[i]? = some (z, (n : Int))) (h0 : n ≠ 0) (hn : n < B64) :
    ∃ b c, w.cell? ⟨z, 1, .none⟩ = some (.slice (some ⟨b, 0, .none⟩) 1 c) ∧ 1 ≤ c ∧ w.cell? ⟨b, 0, .none⟩ = some (wd n) ∧ w.frozen? ⟨b, 0, .none⟩ = false ∧
      (¬ R z → ∀ y, y ≠ 0 → y < B64 → Own R w0 (w.setCell ⟨b, 0, .none⟩ (wd y)) (L.set i (z, (y : Int)))) := by
  obtain ⟨ps, qs, hf⟩ := h.ints
  obtain ⟨a', px, dx, ha', hpx, hqx, ox⟩ := hf.at (at1 hi)
  obtain rfl : (n : Int) = a' := by rw [at2 hi] at ha'; exact Option.some.inj ha'
  have hnum := ox.num
  have hstr := ox.str
  rw [Int.natAbs_natCast] at hnum hstr
  have e : ∀ {y}, y ≠ 0 → y < B64 → dg y = [y] := fun hy0 hy => by rw [dg_one hy]; simp [word1, hy0]
  have en := e h0 hn
  rw [en] at hnum hstr
  obtain ⟨b, rfl, hb, hc⟩ := hnum.cell (by simp)
  have hle : 1 ≤ dx.length := hnum.le
  refine ⟨b, dx.length, hstr.cell1, hle, hc 0 (by simp), hb.free 0, fun hR y hy0 hy => ?_⟩
  have hg : Grow w (w.setCell ⟨b, 0, .none⟩ (wd y)) (fun k => k = z ∨ blk (some (⟨b, 0, .none⟩ : Addr)) = some k) := (Grow.of (grown_set w b 0 _)).weaken (fun k _ e => .inr e)
  have hbz : b ≠ z := fun e => hf.zp i i z _ (at1 hi) hpx (e ▸ rfl)
  have ho : One (w.setCell ⟨b, 0, .none⟩ (wd y)) z (y : Int) (some ⟨b, 0, .none⟩) (dx.set 0 y) := by
    have ey := e hy0 hy
    refine ⟨?_, ?_⟩
    · rw [Int.natAbs_natCast, ey, List.length_set]
      have : decide ((y : Int) < 0) = false := by simp
      have e2 : decide ((n : Int) < 0) = false := by simp
      rw [this]
      rw [e2] at hstr
      exact hstr.grow (S := fun k => some b = some k) (Grow.of (grown_set w b 0 _)) (fun e => hbz (Option.some.inj e))
    · rw [Int.natAbs_natCast, ey]
      refine ⟨hnum.buf.set hy (by omega), ?_, by rw [List.length_set]; exact hle⟩
      obtain ⟨d, ds, rfl⟩ : ∃ d ds, dx = d :: ds := by
        cases dx with
        | nil => simp at hle
        | cons d ds => exact ⟨d, ds, rfl⟩
      rfl
  obtain ⟨hF, hK⟩ := hf.write (at1 hi) hpx hR hg ho (.inl rfl)
  exact h.step ⟨_, _, hF⟩ hK (set1 hi _) (set2 L i z _)
end
end Go.Proofs.YtohhkjamddojmaaGreatDoor.Big
