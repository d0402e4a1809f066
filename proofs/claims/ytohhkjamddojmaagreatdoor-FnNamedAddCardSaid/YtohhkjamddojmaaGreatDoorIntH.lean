/- Quotient and remainder of Ints. -/
import Derived.Test.YtohhkjamddojmaaGreatDoorIntF
set_option maxHeartbeats 16000000
namespace Go.Proofs.YtohhkjamddojmaaGreatDoor.Big
open Go.RowKit
def DivOK (b : Nat) : Prop := ∀ (p p2 q q2 : Option Addr) (l l2 a : Nat) (cs cs2 ds es : List Nat) (w : World), Buf w p cs → Buf w p2 cs2 → Apart p p2 → Num w q (dg a) ds → Num w q2 (dg b) es → (dg a).length ≤ 80000 → Tab w →
 Calls Tryz.prog 178 #[.slice p l cs.length, .pointer .none, .slice p2 l2 cs2.length, .slice q (dg a).length ds.length, .slice q2 (dg b).length es.length] w (DivNP p p2 a b w)
theorem DivOK.word {b : Nat} (hb : (dg b).length = 1) : DivOK b := fun p p2 q q2 l l2 a cs cs2 ds es w h h2 hap hx hy hX _ => nat_div_word p p2 q q2 _ l l2 a b cs cs2 ds es w h h2 hap hx hy hX hb
def AbsDone2 (w : World) (z r : Nat) (p p2 : Option Addr) (nz nr : Bool) (q m : Nat) (wx : World) : Prop :=
 ∃ p' cs' q' ds', StrB wx z nz p' (dg q).length cs'.length ∧ StrB wx r nr q' (dg m).length ds'.length ∧ Num wx p' (dg q) cs' ∧ Num wx q' (dg m) ds' ∧ Grow w wx (fun k => (k = z ∨ k = r) ∨ (blk p = some k ∨ blk p2 = some k)) ∧ Fresh w p p' ∧ Fresh w p2 q' ∧ Apart p' q' ∧
  (blk p' ≠ some z ∧ blk p' ≠ some r) ∧ (blk q' ≠ some z ∧ blk q' ≠ some r)
theorem AbsDone2.of {w w0 w1 : World} {z r : Nat} {p p2 p' q' : Option Addr} {nz nr : Bool} {l c l2 c2 q m : Nat} {cs' ds' : List Nat} (hzr : z ≠ r) (hs : StrB w z nz p l c) (hs2 : StrB w r nr p2 l2 c2) (h1 : blk p ≠ some z) (h2 : blk p ≠ some r) (h3 : blk p2 ≠ some z) (h4 : blk p2 ≠ some r) (h0 : w.grownBy w0 .none)
 (hn : Num w1 p' (dg q) cs') (hm : Num w1 q' (dg m) ds') (hg : Grow w0 w1 (fun k => blk p = some k ∨ blk p2 = some k)) (hf : Fresh w0 p p') (hf2 : Fresh w0 p2 q') (ha : Apart p' q') :
 AbsDone2 w z r p p2 nz nr q m ((w1.setCell ⟨z, 1, .none⟩ (.slice p' (dg q).length cs'.length)).setCell ⟨r, 1, .none⟩ (.slice q' (dg m).length ds'.length)) := by
 have hg' : Grow w w1 (fun k => blk p = some k ∨ blk p2 = some k) := (Grow.none h0 _).trans hg
 have hsz := hs.grow hg' (by rintro (e | e); exact h1 e; exact h3 e)
 have hsr := hs2.grow hg' (by rintro (e | e); exact h2 e; exact h4 e)
 have fresh_ne : ∀ {a a' : Option Addr} {x : Nat}, blk a ≠ some x → x < w.heap.size → Fresh w0 a a' → blk a' ≠ some x := fun h hx hf e => by
  rcases hf with rfl | hf
  · exact h e
  · have := hf _ e; have := h0.size; omega
 have e1 := fresh_ne h1 hs.lt hf
 have e2 := fresh_ne h2 hs2.lt hf
 have e3 := fresh_ne h3 hs.lt hf2
 have e4 := fresh_ne h4 hs2.lt hf2
 have g1 : Grow w1 (w1.setCell ⟨z, 1, .none⟩ (.slice p' (dg q).length cs'.length)) (fun k => k = z) := (Grow.of (zzw w1 z 1 _)).weaken (fun k _ e => by cases e; rfl)
 have g2 : Grow (w1.setCell ⟨z, 1, .none⟩ (.slice p' (dg q).length cs'.length)) ((w1.setCell ⟨z, 1, .none⟩ (.slice p' (dg q).length cs'.length)).setCell ⟨r, 1, .none⟩ (.slice q' (dg m).length ds'.length)) (fun k => k = r) := (Grow.of (zzw _ r 1 _)).weaken (fun k _ e => by cases e; rfl)
 have gg := (g1.weaken (fun _ _ e => .inl e) : Grow _ _ (fun k => k = z ∨ k = r)).trans (g2.weaken (fun _ _ e => .inr e))
 refine ⟨p', cs', q', ds', (hsz.set1 _ _ _).grow g2 hzr, (hsr.grow g1 (Ne.symm hzr)).set1 _ _ _, hn.grow gg ?_, hm.grow gg ?_, (hg'.weaken (fun _ _ e => .inr e)).trans (gg.weaken (fun _ _ e => .inl e)), Fresh.older h0.size hf, Fresh.older h0.size hf2, ha, ⟨e1, e2⟩, ⟨e3, e4⟩⟩
 · rintro b hb (e | e)
   · exact e1 (e ▸ hb)
   · exact e2 (e ▸ hb)
 · rintro b hb (e | e)
   · exact e3 (e ▸ hb)
   · exact e4 (e ▸ hb)
theorem AbsDone2.drew {w wx : World} {z r : Nat} {p p2 : Option Addr} {nz nr : Bool} {q m : Nat} (h : AbsDone2 w z r p p2 nz nr q m wx) (n : Nat) : AbsDone2 w z r p p2 nz nr q m (wx.drewN n) := by
 obtain ⟨p', cs', q', ds', h1, h2, h3, h4, h5, h6⟩ := h
 exact ⟨p', cs', q', ds', h1, h2, h3.kept (zzz _ _ .none) (fun _ _ => by simp), h4.kept (zzz _ _ .none) (fun _ _ => by simp), h5.trans (Grow.none (zzz _ _ .none) _), h6⟩
theorem AbsDone2.finish {R : Nat → Prop} {w wx : World} {zs : List Nat} {vs : List Int} {ps : List (Option Addr)} {qs : List (List Nat)} (h : Fam R w zs vs ps qs) {i j z r : Nat} {p p2 : Option Addr} {nz nr b b2 : Bool} {q m : Nat} {v u : Int}
 (hij : i ≠ j) (hi : zs[i]? = some z) (hj : zs[j]? = some r) (hp : ps[i]? = some p) (hp2 : ps[j]? = some p2) (hR : ¬ R z) (hR2 : ¬ R r) (ha : AbsDone2 w z r p p2 nz nr q m wx) (hv : v.natAbs = q) (hu : u.natAbs = m) (hb : b = decide (v < 0)) (hb2 : b2 = decide (u < 0)) :
 Ints R ((wx.setCell ⟨z, 0, .none⟩ (.bool b)).setCell ⟨r, 0, .none⟩ (.bool b2)) zs ((vs.set i v).set j u) ∧ Kept R w ((wx.setCell ⟨z, 0, .none⟩ (.bool b)).setCell ⟨r, 0, .none⟩ (.bool b2)) := by
 have hzr : z ≠ r := fun e => hij (h.zz i j z hi (e ▸ hj))
 obtain ⟨p', cs', q', ds', h1, h2, h3, h4, h5, h6, h7, h8, ⟨e1, e2⟩, ⟨e3, e4⟩⟩ := ha
 have g1 : Grow wx (wx.setCell ⟨z, 0, .none⟩ (.bool b)) (fun k => k = z) := (Grow.of (zzw wx z 0 _)).weaken (fun k _ e => by cases e; rfl)
 have g2 : Grow (wx.setCell ⟨z, 0, .none⟩ (.bool b)) ((wx.setCell ⟨z, 0, .none⟩ (.bool b)).setCell ⟨r, 0, .none⟩ (.bool b2)) (fun k => k = r) := (Grow.of (zzw _ r 0 _)).weaken (fun k _ e => by cases e; rfl)
 have gg := (g1.weaken (fun _ _ e => .inl e) : Grow _ _ (fun k => k = z ∨ k = r)).trans (g2.weaken (fun _ _ e => .inr e))
 subst hv hu hb hb2
 have ho : One ((wx.setCell ⟨z, 0, .none⟩ (.bool (decide (v < 0)))).setCell ⟨r, 0, .none⟩ (.bool (decide (u < 0)))) z v p' cs' := ⟨(h1.set0 _).grow g2 hzr, h3.grow gg (by rintro b hb (e | e); exact e1 (e ▸ hb); exact e2 (e ▸ hb))⟩
 have ho2 : One ((wx.setCell ⟨z, 0, .none⟩ (.bool (decide (v < 0)))).setCell ⟨r, 0, .none⟩ (.bool (decide (u < 0)))) r u q' ds' := ⟨(h2.grow g1 (Ne.symm hzr)).set0 _, h4.grow gg (by rintro b hb (e | e); exact e3 (e ▸ hb); exact e4 (e ▸ hb))⟩
 obtain ⟨hF, hK⟩ := h.write2 hij hi hj hp hp2 hR hR2 (h5.trans (gg.weaken (fun _ _ e => .inl e))) ho ho2 h6 h7 h8
 exact ⟨⟨_, _, hF⟩, hK⟩
theorem tdiv_cast (n m : Nat) : ((n : Int)).tdiv (m : Int) = ((n / m : Nat) : Int) := rfl
theorem tmod_cast (n m : Nat) : ((n : Int)).tmod (m : Int) = ((n % m : Nat) : Int) := rfl
theorem sign_tdiv (a b : Int) (h : a.natAbs / b.natAbs ≠ 0) : (decide (a < 0) != decide (b < 0)) = decide (a.tdiv b < 0) := by
 have hn0 : a.natAbs ≠ 0 := by intro e; rw [e, Nat.zero_div] at h; exact h rfl
 have hm0 : b.natAbs ≠ 0 := by intro e; rw [e, Nat.div_zero] at h; exact h rfl
 rcases Int.natAbs_eq a with ha | ha <;> rcases Int.natAbs_eq b with hb | hb <;> generalize a.natAbs = n at * <;> generalize b.natAbs = m at * <;> subst ha hb
 · rw [tdiv_cast]
   have h1 : ¬ (n : Int) < 0 := by omega
   have h2 : ¬ (m : Int) < 0 := by omega
   have h3 : ¬ ((n / m : Nat) : Int) < 0 := by generalize n / m = z at *; omega
   simp only [h1, h2, h3]; rfl
 · rw [Int.tdiv_neg, tdiv_cast]
   have h1 : ¬ (n : Int) < 0 := by omega
   have h2 : -(m : Int) < 0 := by omega
   have h3 : -((n / m : Nat) : Int) < 0 := by generalize n / m = z at *; omega
   simp only [h1, h2, h3]; rfl
 · rw [Int.neg_tdiv, tdiv_cast]
   have h1 : ¬ (m : Int) < 0 := by omega
   have h2 : -(n : Int) < 0 := by omega
   have h3 : -((n / m : Nat) : Int) < 0 := by generalize n / m = z at *; omega
   simp only [h1, h2, h3]; rfl
 · rw [Int.neg_tdiv, Int.tdiv_neg, Int.neg_neg, tdiv_cast]
   have h1 : -(n : Int) < 0 := by omega
   have h2 : -(m : Int) < 0 := by omega
   have h3 : ¬ ((n / m : Nat) : Int) < 0 := by generalize n / m = z at *; omega
   simp only [h1, h2, h3]; rfl
theorem sign_tmod (a b : Int) (h : a.natAbs % b.natAbs ≠ 0) : decide (a < 0) = decide (a.tmod b < 0) := by
 have hn0 : a.natAbs ≠ 0 := by intro e; rw [e, Nat.zero_mod] at h; exact h rfl
 rcases Int.natAbs_eq a with ha | ha <;> rcases Int.natAbs_eq b with hb | hb <;> generalize a.natAbs = n at * <;> generalize b.natAbs = m at * <;> subst ha hb
 · rw [tmod_cast]
   have h1 : ¬ (n : Int) < 0 := by omega
   have h3 : ¬ ((n % m : Nat) : Int) < 0 := by generalize n % m = z at *; omega
   simp only [h1, h3]
 · rw [Int.tmod_neg, tmod_cast]
   have h1 : ¬ (n : Int) < 0 := by omega
   have h3 : ¬ ((n % m : Nat) : Int) < 0 := by generalize n % m = z at *; omega
   simp only [h1, h3]
 · rw [Int.neg_tmod, tmod_cast]
   have h1 : -(n : Int) < 0 := by omega
   have h3 : -((n % m : Nat) : Int) < 0 := by generalize n % m = z at *; omega
   simp only [h1, h3]
 · rw [Int.tmod_neg, Int.neg_tmod, tmod_cast]
   have h1 : -(n : Int) < 0 := by omega
   have h3 : -((n % m : Nat) : Int) < 0 := by generalize n % m = z at *; omega
   simp only [h1, h3]
theorem zero_sign {v : Int} {n : Nat} (h : v.natAbs = n) (h0 : n = 0) : false = decide (v < 0) := by simp; omega
def QRP (R : Nat → Prop) (zs : List Nat) (vs : List Int) (z r : Nat) (w : World) (e : Ending) (w' : World) : Prop := e = .returned (.tuple #[ptr z, ptr r]) ∧ Ints R w' zs vs ∧ Kept R w w'
set_option maxRecDepth 100000 in
theorem quoRem (R : Nat → Prop) (w : World) (zs : List Nat) (vs : List Int) (ps : List (Option Addr)) (qs : List (List Nat)) (h : Fam R w zs vs ps qs) (i j k m z x y r : Nat) (a b : Int) (hi : zs[i]? = some z) (hj : zs[j]? = some x) (hk : zs[k]? = some y) (hm : zs[m]? = some r) (him : i ≠ m) (hR : ¬ R z) (hR2 : ¬ R r)
 (ha : vs[j]? = some a) (hb : vs[k]? = some b) (hla : (dg a.natAbs).length ≤ 80000) (hdiv : DivOK b.natAbs) (htab : Tab w) :
 Calls Tryz.prog 157 #[ptr z, ptr x, ptr y, ptr r] w (QRP R zs ((vs.set i (a.tdiv b)).set m (a.tmod b)) z r w) := by
 obtain ⟨v, p, q, hv, hp, hq, oz⟩ := h.at hi
 obtain ⟨u, p2, q2, hu, hp2, hq2, or⟩ := h.at hm
 obtain ⟨a', px, dx, ha', hpx, hqx, ox⟩ := h.at hj
 obtain ⟨b', py, dy, hb', hpy, hqy, oy⟩ := h.at hk
 obtain rfl : a = a' := by rw [ha] at ha'; exact Option.some.inj ha'
 obtain rfl : b = b' := by rw [hb] at hb'; exact Option.some.inj hb'
 have hzr : z ≠ r := fun e => him (h.zz i m z hi (e ▸ hm))
 have n1 : blk p ≠ some z := h.zp i i z p hi hp
 have n2 : blk p ≠ some r := h.zp m i r p hm hp
 have n3 : blk p2 ≠ some z := h.zp i m z p2 hi hp2
 have n4 : blk p2 ≠ some r := h.zp m m r p2 hm hp2
 have hap : Apart p p2 := fun c h1 h2 => him (h.pp i m p p2 c hp hp2 h1 h2)
 have HOP := Lz fun n => hdiv p p2 px py (dg v.natAbs).length (dg u.natAbs).length a.natAbs q q2 dx dy (w.drewN n) (oz.num.buf.kept (zzz _ _ .none) (fun _ _ => by simp)) (or.num.buf.kept (zzz _ _ .none) (fun _ _ => by simp)) hap (ox.num.kept (zzz _ _ .none) (fun _ _ => by simp)) (oy.num.kept (zzz _ _ .none) (fun _ _ => by simp)) hla (htab.kept (zzz _ _ .none) (fun _ e => by cases e))
 have hz1 := oz.str.cell1
 have hr1 := or.str.cell1
 have hx1 := ox.str.cell1
 have hy1 := oy.str.cell1
 have HF := Lz h
 have HSZ := Lz oz.str
 have HSR := Lz or.str
 have HZR := Lz hzr
 have N1 := Lz n1
 have N2 := Lz n2
 have N3 := Lz n3
 have N4 := Lz n4
 have HHI := Lz hi
 have HHM := Lz hm
 have HHP := Lz hp
 have HHP2 := Lz hp2
 have HHR := Lz hR
 have HHR2 := Lz hR2
 have HIM := Lz him
 have sgnAt : ∀ (o c : Nat) (t : Int), zs[o]? = some c → vs[o]? = some t → ∀ wx, AbsDone2 w z r p p2 (decide (v < 0)) (decide (u < 0)) (a.natAbs / b.natAbs) (a.natAbs % b.natAbs) wx → wx.cell? ⟨c, 0, .none⟩ = some (.bool (decide (t < 0))) := by
  rintro o c t hc ht wx ⟨p', cs', q', ds', h1, h2, h3, h4, h5, -⟩
  obtain ⟨t', pt, qt, ht', hpt, hqt, ot⟩ := h.at hc
  obtain rfl : t = t' := by rw [ht] at ht'; exact Option.some.inj ht'
  by_cases hcz : c = z
  · subst hcz
    have e := ot.str.cell0
    rw [oz.str.cell0] at e
    rw [h1.cell0, Option.some.inj e]
  · by_cases hcr : c = r
    · subst hcr
      have e := ot.str.cell0
      rw [or.str.cell0] at e
      rw [h2.cell0, Option.some.inj e]
    · refine (ot.str.grow h5 ?_).cell0
      rintro ((e | e) | (e | e))
      · exact hcz e
      · exact hcr e
      · exact h.zp o i c p hc hp e
      · exact h.zp o m c p2 hc hp2 e
 have HX0 := Lz (sgnAt j x a hj ha)
 have HY0 := Lz (sgnAt k y b hk hb)
 have HQ := Lz (Int.natAbs_tdiv a b)
 have HM := Lz (Int.natAbs_tmod a b)
 have HNQ := Lz (sign_tdiv a b)
 have HNM := Lz (sign_tmod a b)
 clear h hi hj hk hm hR hR2 ha ha' hb hb' hv hp hq hu hp2 hq2 hpx hqx hpy hqy oz or ox oy n1 n2 n3 n4 hap hla hdiv htab hzr him sgnAt
 unfold ptr
 go_enter Tryz.func157, Tryz.ntmps157
 go_upto_region 1 with fail
 go_cut [] from 10 (fun wx => AbsDone2 w z r p p2 (decide (v < 0)) (decide (u < 0)) (a.natAbs / b.natAbs) (a.natAbs % b.natAbs) wx)
 case first =>
  go_region_with (go_at_call 178; refine (HOP.out _).mono ?_; rintro e w1 ⟨p', cs', q', ds', rfl, hn, hmm, hg, hf, hf2, hap⟩; have hg' := (Grow.none (zzz w _ .none) _).trans hg; have hsz := HSZ.out.grow hg' (by rintro (e | e); exact N1.out e; exact N3.out e); have hsr := HSR.out.grow hg' (by rintro (e | e); exact N2.out e; exact N4.out e); have hc1 := hsz.cell1; have hf1 := hsz.free 1; have hc2 : ∀ s, (w1.setCell ⟨z, 1, .none⟩ s).cell? ⟨r, 1, .none⟩ = some _ := fun s => (hsr.grow ((Grow.of (zzw w1 z 1 s)).weaken (fun k _ e => by cases e; rfl) : Grow _ _ (fun k => k = z)) (Ne.symm HZR.out)).cell1; have hf2' := hsr.free 1; have HN := Lz hn; have HMM := Lz hmm; have HG := Lz hg; have HFr := Lz hf; have HFr2 := Lz hf2; have HAP := Lz hap; clear hn hmm hg hg' hf hf2 hap hsz hsr)
  all_goals
   go_wp2_with fail
   go_meet
   case rel => exact AbsDone2.of HZR.out HSZ.out HSR.out N1.out N2.out N3.out N4.out (zzz _ _ _) HN.out HMM.out HG.out HFr.out HFr2.out HAP.out
 case rest =>
  have HA := Lz hcut
  have hx0 := HX0.out _ hcut
  have hy0 := HY0.out _ hcut
  obtain ⟨p', cs', q', ds', h1, h2, h3, h4, h5, h6⟩ := hcut
  have hcz0 := h1.cell0
  have hcz1 := h1.cell1
  have hfz := h1.free 0
  have hcr0 := h2.cell0
  have hcr1 := h2.cell1
  have hfr := h2.free 0
  have hzr := HZR.out
  have hrz := Ne.symm HZR.out
  clear h1 h2 h3 h4 h5 h6 hz1 hr1 hx1 hy1
  obtain ⟨na, hna⟩ : ∃ na, na = decide (a < 0) := ⟨_, rfl⟩
  obtain ⟨nb, hnb⟩ : ∃ nb, nb = decide (b < 0) := ⟨_, rfl⟩
  rw [← hna] at hx0
  rw [← hnb] at hy0
  rw [← hna] at HNQ HNM
  rw [← hnb] at HNQ
  have E0 := Lz (fun h => zero_sign (Int.natAbs_tdiv a b) h : a.natAbs / b.natAbs = 0 → false = decide (a.tdiv b < 0))
  have E1 := Lz (fun h => zero_sign (Int.natAbs_tmod a b) h : a.natAbs % b.natAbs = 0 → false = decide (a.tmod b < 0))
  clear hna hnb
  by_cases hq0 : a.natAbs / b.natAbs = 0
  · have EQ := Lz (E0.out hq0)
    have hl0 : (dg (a.natAbs / b.natAbs)).length = 0 := by rw [hq0, zyw]; rfl
    rw [hl0] at hcz1
    clear hq0 hl0
    by_cases hm0 : a.natAbs % b.natAbs = 0
    · have EM := Lz (E1.out hm0)
      have hl0 : (dg (a.natAbs % b.natAbs)).length = 0 := by rw [hm0, zyw]; rfl
      rw [hl0] at hcr1
      clear hm0 hl0
      go_wp2_with fail
      go_region
      all_goals
       go_wp2_with fail
       go_ret2
       exact ⟨rfl, (HA.out.drew _).finish HF.out HIM.out HHI.out HHM.out HHP.out HHP2.out HHR.out HHR2.out HQ.out HM.out EQ.out EM.out⟩
    · have EM := Lz (HNM.out hm0)
      have hl2 := zyx hm0
      clear hm0
      generalize (dg (a.natAbs % b.natAbs)).length = len at *
      go_wp2_with fail
      go_region
      all_goals
       go_wp2_with fail
       go_ret2
       exact ⟨rfl, (HA.out.drew _).finish HF.out HIM.out HHI.out HHM.out HHP.out HHP2.out HHR.out HHR2.out HQ.out HM.out EQ.out EM.out⟩
  · have EQ := Lz (HNQ.out hq0)
    have hl1 := zyx hq0
    clear hq0
    generalize (dg (a.natAbs / b.natAbs)).length = len1 at *
    by_cases hm0 : a.natAbs % b.natAbs = 0
    · have EM := Lz (E1.out hm0)
      have hl0 : (dg (a.natAbs % b.natAbs)).length = 0 := by rw [hm0, zyw]; rfl
      rw [hl0] at hcr1
      clear hm0 hl0
      go_wp2_with fail
      go_region
      all_goals
       go_wp2_with fail
       go_ret2
       exact ⟨rfl, (HA.out.drew _).finish HF.out HIM.out HHI.out HHM.out HHP.out HHP2.out HHR.out HHR2.out HQ.out HM.out EQ.out EM.out⟩
    · have EM := Lz (HNM.out hm0)
      have hl2 := zyx hm0
      clear hm0
      generalize (dg (a.natAbs % b.natAbs)).length = len at *
      go_wp2_with fail
      go_region
      all_goals
       go_wp2_with fail
       go_ret2
       exact ⟨rfl, (HA.out.drew _).finish HF.out HIM.out HHI.out HHM.out HHP.out HHP2.out HHR.out HHR2.out HQ.out HM.out EQ.out EM.out⟩
end Go.Proofs.YtohhkjamddojmaaGreatDoor.Big
