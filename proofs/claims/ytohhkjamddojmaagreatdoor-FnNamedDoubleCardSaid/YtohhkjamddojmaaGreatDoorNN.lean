/- Quotient and remainder into Ints of whatever old contents. Bytes of a number, the highest first: bytesOf of the laws. Long division, one word of the quotient: Knuth's guess. -/
import Derived.Test.YtohhkjamddojmaaGreatDoorIntH
import Derived.Test.YtohhkjamddojmaaGreatDoorRA
import Derived.Test.YtohhkjamddojmaaGreatDoorWU
import Derived.Test.YtohhkjamddojmaaGreatDoorWA
namespace Go.Proofs.YtohhkjamddojmaaGreatDoor.Big
open Go.RowKit

theorem FamR.writes {R : Nat → Prop} {w w' : World} {zs : List Nat} {vs vs' : List (Bool × Nat)} {ps ps' : List (Option Addr)} {qs qs' : List (List Nat)} (h : FamR R w zs vs ps qs) (I : Nat → Prop)
    (l1 : vs'.length = zs.length) (l2 : ps'.length = zs.length) (l3 : qs'.length = zs.length)
    (hsame : ∀ i, ¬ I i → vs'[i]? = vs[i]? ∧ ps'[i]? = ps[i]? ∧ qs'[i]? = qs[i]?)
    (hR : ∀ i z, I i → zs[i]? = some z → ¬ R z)
    (hg : Grow w w' (fun k => ∃ i, I i ∧ (zs[i]? = some k ∨ ∃ p, ps[i]? = some p ∧ blk p = some k)))
    (hone : ∀ (i z : Nat) (v : Bool × Nat) (p : Option Addr) (q : List Nat), I i → zs[i]? = some z → vs'[i]? = some v → ps'[i]? = some p → qs'[i]? = some q → OneR w' z v p q)
    (hfresh : ∀ (i : Nat) (p p' : Option Addr), I i → ps[i]? = some p → ps'[i]? = some p' → Fresh w p p')
    (hapart : ∀ (i j : Nat) (p q : Option Addr) (b : Nat), I i → I j → ps'[i]? = some p → ps'[j]? = some q → blk p = some b → blk q = some b → i = j) :
    FamR R w' zs vs' ps' qs' ∧ Kept R w w' := by
  have hzlt : ∀ j x, zs[j]? = some x → x < w.heap.size := fun j x hj => by
    obtain ⟨_, _, _, _, _, _, o⟩ := h.at hj; exact o.str.lt
  have hplt : ∀ (j : Nat) (x : Option Addr) (b : Nat), ps[j]? = some x → blk x = some b → b < w.heap.size := fun j x b hj hb => by
    have hj2 : j < zs.length := by rw [← h.lenP]; exact (List.getElem?_eq_some_iff.1 hj).1
    obtain ⟨_, _, _, _, e, _, o⟩ := h.at (List.getElem?_eq_getElem hj2)
    rw [hj] at e; cases e
    exact o.num.lt b hb
  have hold : ∀ (i : Nat) (p' : Option Addr), ps'[i]? = some p' → ∃ p, ps[i]? = some p := fun i p' hp => by
    have : i < ps.length := by rw [h.lenP, ← l2]; exact (List.getElem?_eq_some_iff.1 hp).1
    exact ⟨_, List.getElem?_eq_getElem this⟩
  -- the new memory of number i is its old memory or newer than w
  have hnew : ∀ (i : Nat) (p' : Option Addr) (b : Nat), ps'[i]? = some p' → blk p' = some b → (∃ p, ps[i]? = some p ∧ blk p = some b) ∨ (I i ∧ w.heap.size ≤ b) := fun i p' b hp hb => by
    by_cases hI : I i
    · obtain ⟨p, hp0⟩ := hold i p' hp
      rcases hfresh i p p' hI hp0 hp with rfl | hf
      · exact .inl ⟨_, hp0, hb⟩
      · exact .inr ⟨hI, hf b hb⟩
    · rw [(hsame i hI).2.1] at hp
      exact .inl ⟨_, hp, hb⟩
  refine ⟨⟨fun k hk => Nat.lt_of_lt_of_le (h.old k hk) hg.size, l1, l2, l3, ?_, ?_, h.zz, ?_, ?_⟩, ?_⟩
  · intro j x u s t hj hv hs ht
    by_cases hI : I j
    · exact hone j x u s t hI hj hv hs ht
    · obtain ⟨e1, e2, e3⟩ := hsame j hI
      rw [e1] at hv; rw [e2] at hs; rw [e3] at ht
      refine (h.one j x u s t hj hv hs ht).grow hg ?_ ?_
      · rintro ⟨i, hi, e | ⟨p, hp, e⟩⟩
        · exact hI (h.zz j i x hj e ▸ hi)
        · exact h.zp j i x p hj hp e
      · rintro b hb ⟨i, hi, e | ⟨p, hp, e⟩⟩
        · exact h.zp i j b s e hs hb
        · exact hI (h.pp j i s p b hs hp hb e ▸ hi)
  · intro j x s hj hs hx b hb
    rcases hnew j s b hs hb with ⟨p, hp, e⟩ | ⟨_, e⟩
    · exact h.own j x p hj hp hx b e
    · intro hr; have := h.old b hr; omega
  · intro j k s t b hs ht hb hb2
    rcases hnew j s b hs hb with ⟨p, hp, e⟩ | ⟨hI, e⟩
    · rcases hnew k t b ht hb2 with ⟨p2, hp2, e2⟩ | ⟨_, e2⟩
      · exact h.pp j k p p2 b hp hp2 e e2
      · have := hplt j p b hp e; omega
    · rcases hnew k t b ht hb2 with ⟨p2, hp2, e2⟩ | ⟨hI2, _⟩
      · have := hplt k p2 b hp2 e2; omega
      · exact hapart j k s t b hI hI2 hs ht hb hb2
  · intro j k x s hj hs hb
    rcases hnew k s x hs hb with ⟨p, hp, e⟩ | ⟨_, e⟩
    · exact h.zp j k x p hj hp e
    · have := hzlt j x hj; omega
  · refine hg.weaken ?_
    rintro k _ ⟨i, hi, e | ⟨p, hp, e⟩⟩
    · exact hR i k hi e
    · have hi2 : i < zs.length := by rw [← h.lenP]; exact (List.getElem?_eq_some_iff.1 hp).1
      have hz := List.getElem?_eq_getElem hi2
      exact h.own i _ p hz hp (hR i _ hi hz) k e
theorem FamR.write2 {R : Nat → Prop} {w w' : World} {zs : List Nat} {vs : List (Bool × Nat)} {ps : List (Option Addr)} {qs : List (List Nat)} (h : FamR R w zs vs ps qs) {i j z r : Nat} {p p2 p' q' : Option Addr} {v u : Bool × Nat} {cs' ds' : List Nat}
    (hij : i ≠ j) (hi : zs[i]? = some z) (hj : zs[j]? = some r) (hp : ps[i]? = some p) (hp2 : ps[j]? = some p2) (hR : ¬ R z) (hR2 : ¬ R r)
    (hg : Grow w w' (fun k => (k = z ∨ k = r) ∨ (blk p = some k ∨ blk p2 = some k))) (ho : OneR w' z v p' cs') (ho2 : OneR w' r u q' ds') (hf : Fresh w p p') (hf2 : Fresh w p2 q') (ha : Apart p' q') :
    FamR R w' zs ((vs.set i v).set j u) ((ps.set i p').set j q') ((qs.set i cs').set j ds') ∧ Kept R w w' := by
  refine h.writes (fun k => k = i ∨ k = j) (by simp [h.lenV]) (by simp [h.lenP]) (by simp [h.lenQ]) ?_ ?_ ?_ ?_ ?_ ?_
  · intro k hk
    have h1 : k ≠ i := fun e => hk (.inl e)
    have h2 : k ≠ j := fun e => hk (.inr e)
    rw [List.getElem?_set_ne (Ne.symm h2), List.getElem?_set_ne (Ne.symm h1), List.getElem?_set_ne (Ne.symm h2), List.getElem?_set_ne (Ne.symm h1), List.getElem?_set_ne (Ne.symm h2), List.getElem?_set_ne (Ne.symm h1)]
    exact ⟨rfl, rfl, rfl⟩
  · rintro k x (rfl | rfl) hk
    · rw [hi] at hk; cases hk; exact hR
    · rw [hj] at hk; cases hk; exact hR2
  · refine hg.weaken ?_
    rintro k _ ((rfl | rfl) | (e | e))
    · exact ⟨i, .inl rfl, .inl hi⟩
    · exact ⟨j, .inr rfl, .inl hj⟩
    · exact ⟨i, .inl rfl, .inr ⟨p, hp, e⟩⟩
    · exact ⟨j, .inr rfl, .inr ⟨p2, hp2, e⟩⟩
  · rintro k x a s t hk hx hv hs ht
    rcases getElem?_set_cases hv with ⟨e, rfl⟩ | ⟨hne, hv⟩
    · subst e
      rw [hj] at hx; cases hx
      rcases getElem?_set_cases hs with ⟨_, rfl⟩ | ⟨hne, _⟩
      · rcases getElem?_set_cases ht with ⟨_, rfl⟩ | ⟨hne, _⟩
        · exact ho2
        · exact absurd rfl hne
      · exact absurd rfl hne
    · rcases hk with e | e
      · subst e
        rw [hi] at hx; cases hx
        rcases getElem?_set_cases hs with ⟨e, _⟩ | ⟨_, hs⟩
        · exact absurd e hij
        · rcases getElem?_set_cases ht with ⟨e, _⟩ | ⟨_, ht⟩
          · exact absurd e hij
          · rcases getElem?_set_cases hv with ⟨_, rfl⟩ | ⟨hne, _⟩
            · rcases getElem?_set_cases hs with ⟨_, rfl⟩ | ⟨hne, _⟩
              · rcases getElem?_set_cases ht with ⟨_, rfl⟩ | ⟨hne, _⟩
                · exact ho
                · exact absurd rfl hne
              · exact absurd rfl hne
            · exact absurd rfl hne
      · exact absurd e hne
  · rintro k s t hk hs ht
    rcases getElem?_set_cases ht with ⟨e, rfl⟩ | ⟨hne, ht⟩
    · subst e; rw [hp2] at hs; cases hs; exact hf2
    · rcases getElem?_set_cases ht with ⟨e, rfl⟩ | ⟨hne2, ht⟩
      · subst e; rw [hp] at hs; cases hs; exact hf
      · rcases hk with e | e
        · exact absurd e hne2
        · exact absurd e hne
  · rintro k m s t b hk hm hs ht hb hb2
    rcases getElem?_set_cases hs with ⟨e1, e2⟩ | ⟨hne, hs⟩
    · rcases getElem?_set_cases ht with ⟨e3, e4⟩ | ⟨hne2, ht⟩
      · rw [e1, e3]
      · rcases getElem?_set_cases ht with ⟨e3, e4⟩ | ⟨hne3, _⟩
        · subst e2 e4; exact absurd hb (ha b hb2)
        · rcases hm with e | e
          · exact absurd e hne3
          · exact absurd e hne2
    · rcases getElem?_set_cases hs with ⟨e1, e2⟩ | ⟨hne1, _⟩
      · rcases getElem?_set_cases ht with ⟨e3, e4⟩ | ⟨hne2, ht⟩
        · subst e2 e4; exact absurd hb2 (ha b hb)
        · rcases getElem?_set_cases ht with ⟨e3, e4⟩ | ⟨hne3, _⟩
          · rw [e1, e3]
          · rcases hm with e | e
            · exact absurd e hne3
            · exact absurd e hne2
      · rcases hk with e | e
        · exact absurd e hne1
        · exact absurd e hne
theorem AbsDone2.finishR {R : Nat → Prop} {w wx : World} {zs : List Nat} {vs : List (Bool × Nat)} {ps : List (Option Addr)} {qs : List (List Nat)} (h : FamR R w zs vs ps qs) {i j z r : Nat} {p p2 : Option Addr} {nz nr b b2 : Bool} {q m : Nat} {v u : Bool × Nat}
    (hij : i ≠ j) (hi : zs[i]? = some z) (hj : zs[j]? = some r) (hp : ps[i]? = some p) (hp2 : ps[j]? = some p2) (hR : ¬ R z) (hR2 : ¬ R r) (ha : AbsDone2 w z r p p2 nz nr q m wx) (hv : v.2 = q) (hu : u.2 = m) (hb : b = v.1) (hb2 : b2 = u.1) :
    IntsR R ((wx.setCell ⟨z, 0, .none⟩ (.bool b)).setCell ⟨r, 0, .none⟩ (.bool b2)) zs ((vs.set i v).set j u) ∧ Kept R w ((wx.setCell ⟨z, 0, .none⟩ (.bool b)).setCell ⟨r, 0, .none⟩ (.bool b2)) := by
  have hzr : z ≠ r := fun e => hij (h.zz i j z hi (e ▸ hj))
  obtain ⟨p', cs', q', ds', h1, h2, h3, h4, h5, h6, h7, h8, ⟨e1, e2⟩, ⟨e3, e4⟩⟩ := ha
  have g1 : Grow wx (wx.setCell ⟨z, 0, .none⟩ (.bool b)) (fun k => k = z) := (Grow.of (grown_set wx z 0 _)).weaken (fun k _ e => by cases e; rfl)
  have g2 : Grow (wx.setCell ⟨z, 0, .none⟩ (.bool b)) ((wx.setCell ⟨z, 0, .none⟩ (.bool b)).setCell ⟨r, 0, .none⟩ (.bool b2)) (fun k => k = r) := (Grow.of (grown_set _ r 0 _)).weaken (fun k _ e => by cases e; rfl)
  have gg := (g1.weaken (fun _ _ e => .inl e) : Grow _ _ (fun k => k = z ∨ k = r)).trans (g2.weaken (fun _ _ e => .inr e))
  subst hv hu hb hb2
  have ho : OneR ((wx.setCell ⟨z, 0, .none⟩ (.bool (v.1))).setCell ⟨r, 0, .none⟩ (.bool (u.1))) z v p' cs' := ⟨(h1.set0 _).grow g2 hzr, h3.grow gg (by rintro b hb (e | e); exact e1 (e ▸ hb); exact e2 (e ▸ hb))⟩
  have ho2 : OneR ((wx.setCell ⟨z, 0, .none⟩ (.bool (v.1))).setCell ⟨r, 0, .none⟩ (.bool (u.1))) r u q' ds' := ⟨(h2.grow g1 (Ne.symm hzr)).set0 _, h4.grow gg (by rintro b hb (e | e); exact e3 (e ▸ hb); exact e4 (e ▸ hb))⟩
  obtain ⟨hF, hK⟩ := h.write2 hij hi hj hp hp2 hR hR2 (h5.trans (gg.weaken (fun _ _ e => .inl e))) ho ho2 h6 h7 h8
  exact ⟨⟨_, _, hF⟩, hK⟩
def QRPR (R : Nat → Prop) (zs : List Nat) (vs : List (Bool × Nat)) (z r : Nat) (w : World) (e : Ending) (w' : World) : Prop := e = .returned (.tuple #[ptr z, ptr r]) ∧ IntsR R w' zs vs ∧ Kept R w w'
set_option maxHeartbeats 8000000 in
set_option maxRecDepth 100000 in
theorem quoRemR (R : Nat → Prop) (w : World) (zs : List Nat) (vs : List (Bool × Nat)) (ps : List (Option Addr)) (qs : List (List Nat)) (h : FamR R w zs vs ps qs) (i j k m z x y r : Nat) (a b : Int) (hi : zs[i]? = some z) (hj : zs[j]? = some x) (hk : zs[k]? = some y) (hm : zs[m]? = some r) (him : i ≠ m) (hR : ¬ R z) (hR2 : ¬ R r)
    (ha : vs[j]? = some (toR a)) (hb : vs[k]? = some (toR b)) (hla : (dg a.natAbs).length ≤ 80000) (hdiv : DivOK b.natAbs) (htab : Tab w) :
    Calls Tryz.prog 157 #[ptr z, ptr x, ptr y, ptr r] w (QRPR R zs ((vs.set i (toR (a.tdiv b))).set m (toR (a.tmod b))) z r w) := by
  obtain ⟨v, p, q, hv, hp, hq, oz⟩ := h.at hi
  obtain ⟨u, p2, q2, hu, hp2, hq2, or⟩ := h.at hm
  obtain ⟨a', px, dx, ha', hpx, hqx, ox⟩ := h.at hj
  obtain ⟨b', py, dy, hb', hpy, hqy, oy⟩ := h.at hk
  obtain rfl : toR a = a' := by rw [ha] at ha'; exact Option.some.inj ha'
  obtain rfl : toR b = b' := by rw [hb] at hb'; exact Option.some.inj hb'
  have hzr : z ≠ r := fun e => him (h.zz i m z hi (e ▸ hm))
  have n1 : blk p ≠ some z := h.zp i i z p hi hp
  have n2 : blk p ≠ some r := h.zp m i r p hm hp
  have n3 : blk p2 ≠ some z := h.zp i m z p2 hi hp2
  have n4 : blk p2 ≠ some r := h.zp m m r p2 hm hp2
  have hap : Apart p p2 := fun c h1 h2 => him (h.pp i m p p2 c hp hp2 h1 h2)
  have HOP := Lib.hid fun n => hdiv p p2 px py (dg v.2).length (dg u.2).length a.natAbs q q2 dx dy (w.drewN n) (oz.num.buf.kept (grown_drewN _ _ .none) (fun _ _ => by simp)) (or.num.buf.kept (grown_drewN _ _ .none) (fun _ _ => by simp)) hap (ox.num.kept (grown_drewN _ _ .none) (fun _ _ => by simp)) (oy.num.kept (grown_drewN _ _ .none) (fun _ _ => by simp)) hla (htab.kept (grown_drewN _ _ .none) (fun _ e => by cases e))
  have hz1 := oz.str.cell1
  have hr1 := or.str.cell1
  have hx1 := ox.str.cell1
  have hy1 := oy.str.cell1
  have HF := Lib.hid h
  have HSZ := Lib.hid oz.str
  have HSR := Lib.hid or.str
  have HZR := Lib.hid hzr
  have N1 := Lib.hid n1
  have N2 := Lib.hid n2
  have N3 := Lib.hid n3
  have N4 := Lib.hid n4
  have HHI := Lib.hid hi
  have HHM := Lib.hid hm
  have HHP := Lib.hid hp
  have HHP2 := Lib.hid hp2
  have HHR := Lib.hid hR
  have HHR2 := Lib.hid hR2
  have HIM := Lib.hid him
  have sgnAt : ∀ (o c : Nat) (t : Int), zs[o]? = some c → vs[o]? = some (toR t) → ∀ wx, AbsDone2 w z r p p2 (v.1) (u.1) (a.natAbs / b.natAbs) (a.natAbs % b.natAbs) wx → wx.cell? ⟨c, 0, .none⟩ = some (.bool (decide (t < 0))) := by
    rintro o c t hc ht wx ⟨p', cs', q', ds', h1, h2, h3, h4, h5, -⟩
    obtain ⟨t', pt, qt, ht', hpt, hqt, ot⟩ := h.at hc
    obtain rfl : toR t = t' := by rw [ht] at ht'; exact Option.some.inj ht'
    by_cases hcz : c = z
    · subst hcz
      have e := ot.str.cell0
      rw [oz.str.cell0] at e
      rw [h1.cell0, Option.some.inj e]; rfl
    · by_cases hcr : c = r
      · subst hcr
        have e := ot.str.cell0
        rw [or.str.cell0] at e
        rw [h2.cell0, Option.some.inj e]; rfl
      · refine (ot.str.grow h5 ?_).cell0
        rintro ((e | e) | (e | e))
        · exact hcz e
        · exact hcr e
        · exact h.zp o i c p hc hp e
        · exact h.zp o m c p2 hc hp2 e
  have HX0 := Lib.hid (sgnAt j x a hj ha)
  have HY0 := Lib.hid (sgnAt k y b hk hb)
  have HQ := Lib.hid (Int.natAbs_tdiv a b)
  have HM := Lib.hid (Int.natAbs_tmod a b)
  have HNQ := Lib.hid (sign_tdiv a b)
  have HNM := Lib.hid (sign_tmod a b)
  clear h hi hj hk hm hR hR2 ha ha' hb hb' hv hp hq hu hp2 hq2 hpx hqx hpy hqy oz or ox oy n1 n2 n3 n4 hap hla hdiv htab hzr him sgnAt
  unfold ptr
  go_enter Tryz.func157, Tryz.ntmps157
  go_upto_region 1 with fail
  go_cut [] from 10 (fun wx => AbsDone2 w z r p p2 (v.1) (u.1) (a.natAbs / b.natAbs) (a.natAbs % b.natAbs) wx)
  case first =>
    go_region_with (go_at_call 178; refine (HOP.out _).mono ?_; rintro e w1 ⟨p', cs', q', ds', rfl, hn, hmm, hg, hf, hf2, hap⟩; have hg' := (Grow.none (grown_drewN w _ .none) _).trans hg; have hsz := HSZ.out.grow hg' (by rintro (e | e); exact N1.out e; exact N3.out e); have hsr := HSR.out.grow hg' (by rintro (e | e); exact N2.out e; exact N4.out e); have hc1 := hsz.cell1; have hf1 := hsz.free 1; have hc2 : ∀ s, (w1.setCell ⟨z, 1, .none⟩ s).cell? ⟨r, 1, .none⟩ = some _ := fun s => (hsr.grow ((Grow.of (grown_set w1 z 1 s)).weaken (fun k _ e => by cases e; rfl) : Grow _ _ (fun k => k = z)) (Ne.symm HZR.out)).cell1; have hf2' := hsr.free 1; have HN := Lib.hid hn; have HMM := Lib.hid hmm; have HG := Lib.hid hg; have HFr := Lib.hid hf; have HFr2 := Lib.hid hf2; have HAP := Lib.hid hap; clear hn hmm hg hg' hf hf2 hap hsz hsr)
    all_goals
      go_wp2_with fail
      go_meet
      case rel => exact AbsDone2.of HZR.out HSZ.out HSR.out N1.out N2.out N3.out N4.out (grown_drewN _ _ _) HN.out HMM.out HG.out HFr.out HFr2.out HAP.out
  case rest =>
    have HA := Lib.hid hcut
    have hx0 := HX0.out _ hcut
    have hy0 := HY0.out _ hcut
    obtain ⟨p', cs', q', ds', h1, h2, h3, h4, h5, h6⟩ := hcut
    have hcz0 := h1.cell0
    have hcz1 := h1.cell1
    have hfz := h1.free 0
    have hcr0 := h2.cell0
    have hcr1 := h2.cell1
    have hfr := h2.free 0
    have hzr := HZR.out
    have hrz := Ne.symm HZR.out
    clear h1 h2 h3 h4 h5 h6 hz1 hr1 hx1 hy1
    obtain ⟨na, hna⟩ : ∃ na, na = decide (a < 0) := ⟨_, rfl⟩
    obtain ⟨nb, hnb⟩ : ∃ nb, nb = decide (b < 0) := ⟨_, rfl⟩
    rw [← hna] at hx0
    rw [← hnb] at hy0
    rw [← hna] at HNQ HNM
    rw [← hnb] at HNQ
    have E0 := Lib.hid (fun h => zero_sign (Int.natAbs_tdiv a b) h : a.natAbs / b.natAbs = 0 → false = decide (a.tdiv b < 0))
    have E1 := Lib.hid (fun h => zero_sign (Int.natAbs_tmod a b) h : a.natAbs % b.natAbs = 0 → false = decide (a.tmod b < 0))
    clear hna hnb
    by_cases hq0 : a.natAbs / b.natAbs = 0
    · have EQ := Lib.hid (E0.out hq0)
      have hl0 : (dg (a.natAbs / b.natAbs)).length = 0 := by rw [hq0, dg_zero]; rfl
      rw [hl0] at hcz1
      clear hq0 hl0
      by_cases hm0 : a.natAbs % b.natAbs = 0
      · have EM := Lib.hid (E1.out hm0)
        have hl0 : (dg (a.natAbs % b.natAbs)).length = 0 := by rw [hm0, dg_zero]; rfl
        rw [hl0] at hcr1
        clear hm0 hl0
        go_wp2_with fail
        go_region
        all_goals
          go_wp2_with fail
          go_ret2
          exact ⟨rfl, (HA.out.drew _).finishR HF.out HIM.out HHI.out HHM.out HHP.out HHP2.out HHR.out HHR2.out HQ.out HM.out EQ.out EM.out⟩
      · have EM := Lib.hid (HNM.out hm0)
        have hl2 := dg_pos_length hm0
        clear hm0
        generalize (dg (a.natAbs % b.natAbs)).length = len at *
        go_wp2_with fail
        go_region
        all_goals
          go_wp2_with fail
          go_ret2
          exact ⟨rfl, (HA.out.drew _).finishR HF.out HIM.out HHI.out HHM.out HHP.out HHP2.out HHR.out HHR2.out HQ.out HM.out EQ.out EM.out⟩
    · have EQ := Lib.hid (HNQ.out hq0)
      have hl1 := dg_pos_length hq0
      clear hq0
      generalize (dg (a.natAbs / b.natAbs)).length = len1 at *
      by_cases hm0 : a.natAbs % b.natAbs = 0
      · have EM := Lib.hid (E1.out hm0)
        have hl0 : (dg (a.natAbs % b.natAbs)).length = 0 := by rw [hm0, dg_zero]; rfl
        rw [hl0] at hcr1
        clear hm0 hl0
        go_wp2_with fail
        go_region
        all_goals
          go_wp2_with fail
          go_ret2
          exact ⟨rfl, (HA.out.drew _).finishR HF.out HIM.out HHI.out HHM.out HHP.out HHP2.out HHR.out HHR2.out HQ.out HM.out EQ.out EM.out⟩
      · have EM := Lib.hid (HNM.out hm0)
        have hl2 := dg_pos_length hm0
        clear hm0
        generalize (dg (a.natAbs % b.natAbs)).length = len at *
        go_wp2_with fail
        go_region
        all_goals
          go_wp2_with fail
          go_ret2
          exact ⟨rfl, (HA.out.drew _).finishR HF.out HIM.out HHI.out HHM.out HHP.out HHP2.out HHR.out HHR2.out HQ.out HM.out EQ.out EM.out⟩
end Go.Proofs.YtohhkjamddojmaaGreatDoor.Big

namespace Go.Proofs.YtohhkjamddojmaaGreatDoor.Big
open Go.RowKit

def bev (ks : List Nat) : Nat := ks.foldl (fun a k => a * 256 + k) 0
theorem bev_snoc (ks : List Nat) (k : Nat) : bev (ks ++ [k]) = bev ks * 256 + k := by unfold bev; rw [List.foldl_append]; rfl
theorem bev_from (ks : List Nat) : ∀ a, ks.foldl (fun a k => a * 256 + k) a = a * 256 ^ ks.length + bev ks := by
  induction ks with
  | nil => intro a; simp [bev]
  | cons k ks ih =>
    intro a
    rw [List.foldl_cons, ih]
    unfold bev
    rw [List.foldl_cons, ih (0 * 256 + k), List.length_cons, Nat.pow_succ, Nat.zero_mul, Nat.zero_add, Nat.add_mul, Nat.mul_assoc, Nat.mul_comm 256, ← Nat.mul_assoc, Nat.add_assoc]; rfl
theorem bev_cons (k : Nat) (ks : List Nat) : bev (k :: ks) = k * 256 ^ ks.length + bev ks := by
  show List.foldl _ (0 * 256 + k) ks = _
  rw [bev_from, Nat.zero_mul, Nat.zero_add]
theorem info5 : (Tryz.prog.info? 5).map (fun i => (i.zero, i.size, i.bytes)) = some (some (.int .u8 0), 1, 1) := by kernel_rfl
theorem grown_new {w w1 w2 : World} {b : Nat} (h1 : w.grownBy w1 .none) (h2 : w1.grownBy w2 (some b)) (hb : w.heap.size ≤ b) : w.grownBy w2 .none :=
  ⟨h2.os.trans h1.os, h2.tape.trans h1.tape, h2.output.trans h1.output, Nat.le_trans h1.size h2.size, fun k hk _ => (h2.block k (Nat.lt_of_lt_of_le hk h1.size) (by intro e; cases e; omega)).trans (h1.block k hk (by simp))⟩
/-- a byte as a value -/
def u8v (k : Nat) : Value := .int .u8 (k : Nat)
end Go.Proofs.YtohhkjamddojmaaGreatDoor.Big

namespace Go.Proofs.YtohhkjamddojmaaGreatDoor.Big

/-- a divisor whose top word is great, and a section of the dividend -/
structure KD (S v1 v2 v0 u2 u1 u0 ur v U : Nat) : Prop where
  hv : v = (v1 * B64 + v2) * S + v0
  hU : U = ((u2 * B64 + u1) * B64 + u0) * S + ur
  v0S : v0 < S
  urS : ur < S
  v2B : v2 < B64
  u1B : u1 < B64
  u0B : u0 < B64
  v1B : v1 < B64
  top : B64 ≤ 2 * v1
  less : U < v * B64

section
variable {S v1 v2 v0 u2 u1 u0 ur v U : Nat}
theorem KD.v_pos (h : KD S v1 v2 v0 u2 u1 u0 ur v U) : 0 < v := by
  have h1 : 0 < v1 := by have := h.top; have := B64_pos; omega
  have h2 : 0 < S := by have := h.v0S; omega
  rw [h.hv]
  have : 0 < (v1 * B64 + v2) * S := Nat.mul_pos (by have := Nat.mul_pos h1 B64_pos; omega) h2
  omega
theorem KD.v_ge (h : KD S v1 v2 v0 u2 u1 u0 ur v U) (x : Nat) : x * v1 * B64 * S ≤ x * v := by
  rw [h.hv, Nat.mul_assoc x, Nat.mul_assoc x]
  apply Nat.mul_le_mul_left
  have : v1 * B64 * S ≤ (v1 * B64 + v2) * S := Nat.mul_le_mul_right _ (by omega)
  omega
theorem KD.U_lt (h : KD S v1 v2 v0 u2 u1 u0 ur v U) : U < ((u2 * B64 + u1) * B64 + u0 + 1) * S := by
  rw [h.hU, Nat.add_mul _ 1]
  have := h.urS
  omega
theorem KD.U_lt2 (h : KD S v1 v2 v0 u2 u1 u0 ur v U) : U < (u2 * B64 + u1 + 1) * B64 * S := by
  refine Nat.lt_of_lt_of_le h.U_lt (Nat.mul_le_mul_right _ ?_)
  rw [Nat.add_mul _ 1]
  have := h.u0B
  omega
/-- the top word of the section is at most the divisor's -/
theorem KD.u2_le (h : KD S v1 v2 v0 u2 u1 u0 ur v U) : u2 ≤ v1 := by
  refine Nat.le_of_not_lt fun hlt => ?_
  have h1 : (v1 + 1) * B64 * B64 * S ≤ U := by
    rw [h.hU]
    refine Nat.le_trans (Nat.mul_le_mul_right S (Nat.mul_le_mul_right B64 (Nat.mul_le_mul_right B64 hlt))) ?_
    refine Nat.le_trans (Nat.mul_le_mul_right S (?_ : _ ≤ (u2 * B64 + u1) * B64 + u0)) (Nat.le_add_right _ _)
    rw [Nat.add_mul]
    omega
  have h2 : v ≤ (v1 + 1) * B64 * S := by
    rw [h.hv]
    have h3 : (v1 * B64 + v2 + 1) * S ≤ (v1 + 1) * B64 * S := Nat.mul_le_mul_right _ (by rw [Nat.add_mul]; have := h.v2B; omega)
    rw [Nat.add_mul _ 1] at h3
    have := h.v0S
    omega
  have h3 := Nat.mul_le_mul_right B64 h2
  have h4 : (v1 + 1) * B64 * S * B64 = (v1 + 1) * B64 * B64 * S := by ac_rfl
  have := h.less
  omega

/-- a guess that is not too small, with its remainder -/
structure KG (v1 u2 u1 v U qh rh : Nat) : Prop where
  eq : qh * v1 + rh = u2 * B64 + u1
  ge : U < (qh + 1) * v
  qB : qh < B64

theorem KD.guess (h : KD S v1 v2 v0 u2 u1 u0 ur v U) (hlt : u2 < v1) : KG v1 u2 u1 v U ((u2 * B64 + u1) / v1) ((u2 * B64 + u1) % v1) := by
  have hv1 : 0 < v1 := by omega
  have e := Nat.div_add_mod (u2 * B64 + u1) v1
  have hm := Nat.mod_lt (u2 * B64 + u1) hv1
  refine ⟨by rw [Nat.mul_comm]; exact e, ?_, ?_⟩
  · refine Nat.lt_of_lt_of_le h.U_lt2 (Nat.le_trans ?_ (h.v_ge _))
    refine Nat.mul_le_mul_right _ (Nat.mul_le_mul_right _ ?_)
    rw [Nat.add_mul, Nat.one_mul, Nat.mul_comm _ v1]
    omega
  · rw [Nat.div_lt_iff_lt_mul hv1]
    have := Nat.mul_le_mul_right B64 hlt
    rw [Nat.succ_mul] at this
    rw [Nat.mul_comm B64]
    have := h.u1B
    omega
/-- the two words' test: the guess is too great -/
theorem KG.down {qh rh : Nat} (g : KG v1 u2 u1 v U qh rh) (h : KD S v1 v2 v0 u2 u1 u0 ur v U) (ht : rh * B64 + u0 < qh * v2) : 0 < qh ∧ KG v1 u2 u1 v U (qh - 1) (rh + v1) := by
  have h0 : 0 < qh := by
    rcases Nat.eq_zero_or_pos qh with e | e
    · rw [e] at ht; omega
    · exact e
  obtain ⟨k, rfl⟩ : ∃ k, qh = k + 1 := ⟨qh - 1, by omega⟩
  refine ⟨h0, ⟨?_, ?_, ?_⟩⟩
  · have := g.eq
    rw [Nat.add_mul, Nat.one_mul] at this
    rw [Nat.add_sub_cancel]
    omega
  · rw [Nat.add_sub_cancel]
    refine Nat.lt_of_lt_of_le h.U_lt ?_
    have e1 : (k + 1) * (v1 * B64 + v2) = (k + 1) * v1 * B64 + (k + 1) * v2 := by rw [Nat.mul_add, Nat.mul_assoc]
    have e2 : ((k + 1) * v1 + rh) * B64 = (u2 * B64 + u1) * B64 := by rw [g.eq]
    rw [Nat.add_mul] at e2
    have e3 : (u2 * B64 + u1) * B64 + u0 + 1 ≤ (k + 1) * (v1 * B64 + v2) := by rw [e1]; omega
    refine Nat.le_trans (Nat.mul_le_mul_right S e3) ?_
    rw [h.hv, Nat.mul_assoc, Nat.mul_add (k + 1)]
    omega
  · have := g.qB; omega
/-- the two words' test fails: the guess is at most one too great -/
theorem KG.near {qh rh : Nat} (g : KG v1 u2 u1 v U qh rh) (h : KD S v1 v2 v0 u2 u1 u0 ur v U) (ht : qh * v2 ≤ rh * B64 + u0) : (qh - 1) * v ≤ U := by
  rcases Nat.eq_zero_or_pos qh with e | e
  · rw [e]; simp
  obtain ⟨k, rfl⟩ : ∃ k, qh = k + 1 := ⟨qh - 1, by omega⟩
  rw [Nat.add_sub_cancel]
  have e1 : (k + 1) * (v1 * B64 + v2) = (k + 1) * v1 * B64 + (k + 1) * v2 := by rw [Nat.mul_add, Nat.mul_assoc]
  have e2 : ((k + 1) * v1 + rh) * B64 = (u2 * B64 + u1) * B64 := by rw [g.eq]
  rw [Nat.add_mul] at e2
  have e3 : (k + 1) * (v1 * B64 + v2) ≤ (u2 * B64 + u1) * B64 + u0 := by rw [e1]; omega
  have hv1 : B64 ≤ v1 * B64 := by
    have : 0 < v1 := by have := h.top; have := B64_pos; omega
    exact Nat.le_mul_of_pos_left _ this
  have hk := g.qB
  have e4 : k * (v1 * B64 + v2 + 1) ≤ (u2 * B64 + u1) * B64 + u0 := by
    refine Nat.le_trans ?_ e3
    rw [Nat.mul_add, Nat.add_mul k 1]
    omega
  have e5 : v ≤ (v1 * B64 + v2 + 1) * S := by rw [h.hv, Nat.add_mul _ 1]; have := h.v0S; omega
  refine Nat.le_trans (Nat.mul_le_mul_left k e5) ?_
  rw [← Nat.mul_assoc]
  refine Nat.le_trans (Nat.mul_le_mul_right S e4) ?_
  rw [h.hU]
  omega
/-- the remainder is more than a word: the test fails -/
theorem KG.over {qh rh : Nat} (g : KG v1 u2 u1 v U qh rh) (h : KD S v1 v2 v0 u2 u1 u0 ur v U) (hr : B64 ≤ rh) : (qh - 1) * v ≤ U := by
  refine g.near h ?_
  have h1 : qh * v2 ≤ B64 * B64 := Nat.mul_le_mul (by have := g.qB; omega) (by have := h.v2B; omega)
  have := Nat.mul_le_mul_right B64 hr
  omega
/-- both top words alike: the greatest word is a good guess -/
theorem KD.most (h : KD S v1 v2 v0 u2 u1 u0 ur v U) (he : u2 = v1) : U < (B64 - 1 + 1) * v ∧ (B64 - 1 - 1) * v ≤ U := by
  refine ⟨by rw [Nat.sub_add_cancel B64_pos, Nat.mul_comm]; exact h.less, ?_⟩
  subst he
  have e5 : v ≤ (u2 + 1) * B64 * S := by
    rw [h.hv]
    have h3 : (u2 * B64 + v2 + 1) * S ≤ (u2 + 1) * B64 * S := Nat.mul_le_mul_right _ (by rw [Nat.add_mul]; have := h.v2B; omega)
    rw [Nat.add_mul _ 1] at h3
    have := h.v0S
    omega
  refine Nat.le_trans (Nat.mul_le_mul_left _ e5) ?_
  have e6 : (B64 - 1 - 1) * (u2 + 1) ≤ u2 * B64 := by
    obtain ⟨k, hk⟩ : ∃ k, B64 = k + 2 := ⟨B64 - 2, rfl⟩
    have ht := h.top
    rw [hk] at ht ⊢
    rw [show k + 2 - 1 - 1 = k by omega, Nat.mul_add, Nat.mul_one, Nat.mul_add u2, Nat.mul_comm k]
    omega
  have e7 : (B64 - 1 - 1) * ((u2 + 1) * B64 * S) = (B64 - 1 - 1) * (u2 + 1) * B64 * S := by simp only [Nat.mul_assoc]
  rw [e7, h.hU]
  refine Nat.le_trans (Nat.mul_le_mul_right S (Nat.mul_le_mul_right B64 e6)) ?_
  refine Nat.le_trans (Nat.mul_le_mul_right S (?_ : _ ≤ (u2 * B64 + u1) * B64 + u0)) (Nat.le_add_right _ _)
  rw [Nat.add_mul]
  omega
end
/-- what a guess that is right or one too great comes to -/
theorem near_div {qh v U : Nat} (hv : 0 < v) (h1 : U < (qh + 1) * v) (h2 : (qh - 1) * v ≤ U) : (qh * v ≤ U ∧ U / v = qh ∧ U % v = U - qh * v) ∨ (U < qh * v ∧ 0 < qh ∧ U / v = qh - 1 ∧ U % v = U + v - qh * v) := by
  by_cases hc : qh * v ≤ U
  · refine .inl ⟨hc, ?_⟩
    have e : U / v = qh := by
      refine Nat.le_antisymm (Nat.le_of_lt_succ ?_) ?_
      · rwa [Nat.div_lt_iff_lt_mul hv]
      · rwa [Nat.le_div_iff_mul_le hv]
    refine ⟨e, ?_⟩
    have := Nat.div_add_mod U v
    rw [e, Nat.mul_comm] at this
    omega
  · have h0 : 0 < qh := by
      rcases Nat.eq_zero_or_pos qh with e | e
      · rw [e] at hc; simp at hc
      · exact e
    refine .inr ⟨by omega, h0, ?_⟩
    have e : U / v = qh - 1 := by
      refine Nat.le_antisymm (Nat.le_of_lt_succ ?_) ?_
      · rw [Nat.div_lt_iff_lt_mul hv, Nat.succ_eq_add_one, Nat.sub_add_cancel h0]; omega
      · rwa [Nat.le_div_iff_mul_le hv]
    refine ⟨e, ?_⟩
    obtain ⟨k, rfl⟩ : ∃ k, qh = k + 1 := ⟨qh - 1, by omega⟩
    rw [Nat.add_sub_cancel] at e h2
    have := Nat.div_add_mod U v
    rw [e, Nat.mul_comm] at this
    rw [Nat.add_mul, Nat.one_mul] at hc ⊢
    omega

/-! ### lists of words -/
theorem val_split (us : List Nat) (k : Nat) (h : k ≤ us.length) : val us = val (us.take k) + B64 ^ k * val (us.drop k) := by
  conv => lhs; rw [← List.take_append_drop k us]
  rw [val_append, List.length_take, Nat.min_eq_left h]
theorem val_top2 {vs : List Nat} {n : Nat} (h : vs.length = n + 2) : val vs = (vs.getD (n + 1) 0 * B64 + vs.getD n 0) * B64 ^ n + val (vs.take n) := by
  have e : val vs = val (vs.take (n + 1 + 1)) := by rw [List.take_of_length_le (by omega)]
  rw [e, take_snoc _ _ (by omega), take_snoc _ _ (by omega), val_snoc, val_snoc, List.length_append, List.length_take, Nat.min_eq_left (by omega)]
  have e3 : B64 ^ (n + 1) = B64 ^ n * B64 := rfl
  have e4 : B64 ^ n * B64 * vs.getD (n + 1) 0 = vs.getD (n + 1) 0 * B64 * B64 ^ n := by ac_rfl
  have e5 : B64 ^ n * vs.getD n 0 = vs.getD n 0 * B64 ^ n := Nat.mul_comm _ _
  rw [Nat.add_mul]
  show _ + B64 ^ (n + 1) * _ = _
  rw [e3]
  omega
theorem val_top3 {vs : List Nat} {n : Nat} (h : vs.length = n + 3) : val vs = ((vs.getD (n + 2) 0 * B64 + vs.getD (n + 1) 0) * B64 + vs.getD n 0) * B64 ^ n + val (vs.take n) := by
  have e : val vs = val (vs.take (n + 1 + 1 + 1)) := by rw [List.take_of_length_le (by omega)]
  have e2 := val_top2 (vs := vs.take (n + 1 + 1)) (n := n) (by rw [List.length_take]; omega)
  have g : ∀ i, i < n + 1 + 1 → (vs.take (n + 1 + 1)).getD i 0 = vs.getD i 0 := fun i hi => by
    rw [List.getD, List.getElem?_take, if_pos hi, List.getD]
  rw [g _ (by omega), g _ (by omega), List.take_take, Nat.min_eq_left (by omega)] at e2
  rw [e, take_snoc _ _ (by omega), val_snoc, e2, List.length_take, Nat.min_eq_left (by omega)]
  have e3 : ((vs.getD (n + 2) 0 * B64 + vs.getD (n + 1) 0) * B64 + vs.getD n 0) * B64 ^ n = B64 ^ (n + 1 + 1) * vs.getD (n + 2) 0 + (vs.getD (n + 1) 0 * B64 + vs.getD n 0) * B64 ^ n := by
    rw [Nat.pow_succ, Nat.pow_succ]
    generalize vs.getD (n + 2) 0 = x
    generalize vs.getD (n + 1) 0 = y
    generalize vs.getD n 0 = z
    generalize B64 ^ n = S
    generalize B64 = B
    simp only [Nat.add_mul]
    have : x * B * B * S = S * B * B * x := by ac_rfl
    omega
  rw [e3]
  show _ + B64 ^ (n + 1 + 1) * _ = _
  omega

/-- the dividend's words while the quotient is reckoned: from place i on its words are ks -/
structure DBs (U0 v n m i : Nat) (us ks : List Nat) : Prop where
  len : us.length = m + n
  le : i ≤ m
  lk : ks.length = m - i
  ws : Words us
  wk : Words ks
  eq : val us + B64 ^ i * (val ks * v) = U0
  low : val (us.drop i) < v
theorem DBs.sec {U0 v n m j : Nat} {us ks : List Nat} (h : DBs U0 v n m (j + 1) us ks) (hv : v < B64 ^ n) :
    val ((us.drop j).take (n + 1)) = val (us.drop j) ∧ val (us.drop (j + (n + 1))) = 0 ∧ val (us.drop j) < v * B64 := by
  have hl := h.len
  have hle := h.le
  have h0 : val (us.drop (j + (n + 1))) = 0 := by
    have e := val_split (us.drop (j + 1)) n (by rw [List.length_drop]; omega)
    rw [List.drop_drop, show j + 1 + n = j + (n + 1) by omega] at e
    have := h.low
    rcases Nat.eq_zero_or_pos (val (us.drop (j + (n + 1)))) with e0 | e0
    · exact e0
    · have := Nat.le_mul_of_pos_right (B64 ^ n) e0
      omega
  refine ⟨?_, h0, ?_⟩
  · have e := val_split (us.drop j) (n + 1) (by rw [List.length_drop]; omega)
    rw [List.drop_drop, h0] at e
    omega
  · have e := val_split (us.drop j) 1 (by rw [List.length_drop]; omega)
    rw [List.drop_drop] at e
    have hw := (val_lt ((us.drop j).take 1) ((h.ws.drop _).take _))
    rw [List.length_take, Nat.min_eq_left (by rw [List.length_drop]; omega), Nat.pow_one] at hw
    rw [Nat.pow_one] at e
    have h2 : B64 * (val (us.drop (j + 1)) + 1) ≤ B64 * v := Nat.mul_le_mul_left _ h.low
    rw [Nat.mul_add, Nat.mul_one] at h2
    rw [e, Nat.mul_comm v]
    omega
theorem spl_drop {us ss : List Nat} {j : Nat} (h : j ≤ us.length) : (spl us j ss).drop j = ss ++ us.drop (j + ss.length) := by
  unfold spl
  rw [List.append_assoc]
  have e : (us.take j).length = j := by rw [List.length_take, Nat.min_eq_left h]
  exact List.drop_left' e
theorem DBs.step {U0 v n m j q : Nat} {us ks ss : List Nat} (h : DBs U0 v n m (j + 1) us ks) (hv : v < B64 ^ n) (hs : ss.length = n + 1) (hw : Words ss) (hq : q < B64) (e : val ss + q * v = val (us.drop j)) (hl : val ss < v) : DBs U0 v n m j (spl us j ss) (q :: ks) := by
  obtain ⟨-, h0, -⟩ := h.sec hv
  have hlen := h.len
  have hle := h.le
  have hlk := h.lk
  have hd : val ((spl us j ss).drop j) = val ss := by
    rw [spl_drop (by omega), val_append, hs, h0]
    omega
  refine ⟨by rw [spl_length (by omega)]; exact h.len, by omega, by rw [List.length_cons]; omega, h.ws.spl hw, fun x hx => ?_, ?_, ?_⟩
  · rcases List.mem_cons.1 hx with rfl | hx
    · exact hq
    · exact h.wk x hx
  · rw [← h.eq]
    have e1 := val_split (spl us j ss) j (by rw [spl_length (by omega)]; omega)
    have e2 := val_split us j (by omega)
    have e3 : (spl us j ss).take j = us.take j := by
      unfold spl
      rw [List.append_assoc]
      have e : (us.take j).length = j := by rw [List.length_take, Nat.min_eq_left (by omega)]
      exact List.take_left' e
    rw [hd, e3] at e1
    rw [e1, e2, ← e]
    show _ + B64 ^ j * ((q + B64 * val ks) * v) = _
    rw [Nat.pow_succ]
    generalize B64 ^ j = S
    generalize B64 = B
    simp only [Nat.mul_add, Nat.add_mul]
    have : S * (B * val ks * v) = S * B * (val ks * v) := by simp only [Nat.mul_assoc]
    omega
  · rw [hd]; exact hl
/-- a word added back: what the lower words and the carry come to -/
theorem add_back {n z t c r : Nat} (hz : z < B64 ^ n) (hr : r < B64 ^ n) (e : z + B64 ^ n * (c + t) = r + B64 ^ (n + 1)) : z = r ∧ t + c = B64 := by
  rw [Nat.pow_succ] at e
  have h1 : (z + B64 ^ n * (c + t)) % B64 ^ n = z := by rw [Nat.add_mul_mod_self_left, Nat.mod_eq_of_lt hz]
  have h2 : (r + B64 ^ n * B64) % B64 ^ n = r := by rw [Nat.add_mul_mod_self_left, Nat.mod_eq_of_lt hr]
  have h3 : z = r := by rw [← h1, ← h2, e]
  refine ⟨h3, ?_⟩
  have h4 : B64 ^ n * (c + t) = B64 ^ n * B64 := by omega
  have := Nat.eq_of_mul_eq_mul_left (by have := Nat.pow_pos (n := n) B64_pos; omega) h4
  omega
/-- the guess for a section, where the words lie -/
theorem DBs.kd {U0 v n m j : Nat} {us ks vs : List Nat} (h : DBs U0 v (n + 2) m (j + 1) us ks) (hl : vs.length = n + 2) (hw : Words vs) (hv : val vs = v) (ht : B64 ≤ 2 * vs.getD (n + 1) 0) :
    KD (B64 ^ n) (vs.getD (n + 1) 0) (vs.getD n 0) (val (vs.take n)) (us.getD (j + (n + 2)) 0) (us.getD (j + (n + 1)) 0) (us.getD (j + n) 0) (val ((us.drop j).take n)) v (val (us.drop j)) := by
  have hvl : v < B64 ^ (n + 2) := by rw [← hv, ← hl]; exact val_lt _ hw
  obtain ⟨h1, -, h3⟩ := h.sec hvl
  have hlen := h.len
  have hle := h.le
  have e := val_top3 (vs := (us.drop j).take (n + 2 + 1)) (n := n) (by rw [List.length_take, List.length_drop]; omega)
  have g : ∀ i, i < n + 2 + 1 → ((us.drop j).take (n + 2 + 1)).getD i 0 = us.getD (j + i) 0 := fun i hi => by
    rw [List.getD, List.getElem?_take, if_pos hi, List.getElem?_drop, List.getD]
  rw [g _ (by omega), g _ (by omega), g _ (by omega), List.take_take, Nat.min_eq_left (by omega), h1] at e
  refine ⟨by rw [← hv]; exact val_top2 hl, e, ?_, ?_, hw.getD _, h.ws.getD _, h.ws.getD _, hw.getD _, ht, h3⟩
  · have := val_lt (vs.take n) (hw.take _); rw [List.length_take, Nat.min_eq_left (by omega)] at this; exact this
  · have := val_lt ((us.drop j).take n) ((h.ws.drop _).take _); rw [List.length_take, List.length_drop, Nat.min_eq_left (by omega)] at this; exact this
end Go.Proofs.YtohhkjamddojmaaGreatDoor.Big
