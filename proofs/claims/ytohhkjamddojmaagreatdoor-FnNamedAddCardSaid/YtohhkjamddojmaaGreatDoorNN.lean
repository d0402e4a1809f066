/- Quotient and remainder into Ints of whatever old contents. Bytes of a number, the highest first: bytesOf of the laws. -/
import Derived.Test.YtohhkjamddojmaaGreatDoorIntH
import Derived.Test.YtohhkjamddojmaaGreatDoorRA
import Derived.Test.YtohhkjamddojmaaGreatDoorWU
set_option maxHeartbeats 16000000
namespace Go.Proofs.YtohhkjamddojmaaGreatDoor.Big
open Go.RowKit
theorem FamR.writes {R : Nat → Prop} {w w' : World} {zs : List Nat} {vs vs' : List (Bool × Nat)} {ps ps' : List (Option Addr)} {qs qs' : List (List Nat)} (h : FamR R w zs vs ps qs) (I : Nat → Prop)
 (l1 : vs'.length = zs.length) (l2 : ps'.length = zs.length) (l3 : qs'.length = zs.length)
 (hsame : ∀ i, ¬ I i → vs'[i]? = vs[i]? ∧ ps'[i]? = ps[i]? ∧ qs'[i]? = qs[i]?)
 (hR : ∀ i z, I i → zs[i]? = some z → ¬ R z)
 (hg : Grow w w' (fun k => ∃ i, I i ∧ (zs[i]? = some k ∨ ∃ p, ps[i]? = some p ∧ blk p = some k)))
 (hone : ∀ (i z : Nat) (v : Bool × Nat) (p : Option Addr) (q : List Nat), I i → zs[i]? = some z → vs'[i]? = some v → ps'[i]? = some p → qs'[i]? = some q → OneR w' z v p q)
 (hfresh : ∀ (i : Nat) (p p' : Option Addr), I i → ps[i]? = some p → ps'[i]? = some p' → Fresh w p p')
 (hapart : ∀ (i j : Nat) (p q : Option Addr) (b : Nat), I i → I j → ps'[i]? = some p → ps'[j]? = some q → blk p = some b → blk q = some b → i = j) :
 FamR R w' zs vs' ps' qs' ∧ Kept R w w' := by
 have hzlt : ∀ j x, zs[j]? = some x → x < w.heap.size := fun j x hj => by
  obtain ⟨_, _, _, _, _, _, o⟩ := h.at hj; exact o.str.lt
 have hplt : ∀ (j : Nat) (x : Option Addr) (b : Nat), ps[j]? = some x → blk x = some b → b < w.heap.size := fun j x b hj hb => by
  have hj2 : j < zs.length := by rw [← h.lenP]; exact (List.getElem?_eq_some_iff.1 hj).1
  obtain ⟨_, _, _, _, e, _, o⟩ := h.at (List.getElem?_eq_getElem hj2)
  rw [hj] at e; cases e
  exact o.num.lt b hb
 have hold : ∀ (i : Nat) (p' : Option Addr), ps'[i]? = some p' → ∃ p, ps[i]? = some p := fun i p' hp => by
  have : i < ps.length := by rw [h.lenP, ← l2]; exact (List.getElem?_eq_some_iff.1 hp).1
  exact ⟨_, List.getElem?_eq_getElem this⟩
 -- the new memory of number i is its old memory or newer than w
 have hnew : ∀ (i : Nat) (p' : Option Addr) (b : Nat), ps'[i]? = some p' → blk p' = some b → (∃ p, ps[i]? = some p ∧ blk p = some b) ∨ (I i ∧ w.heap.size ≤ b) := fun i p' b hp hb => by
  by_cases hI : I i
  · obtain ⟨p, hp0⟩ := hold i p' hp
    rcases hfresh i p p' hI hp0 hp with rfl | hf
    · exact .inl ⟨_, hp0, hb⟩
    · exact .inr ⟨hI, hf b hb⟩
  · rw [(hsame i hI).2.1] at hp
    exact .inl ⟨_, hp, hb⟩
 refine ⟨⟨fun k hk => Nat.lt_of_lt_of_le (h.old k hk) hg.size, l1, l2, l3, ?_, ?_, h.zz, ?_, ?_⟩, ?_⟩
 · intro j x u s t hj hv hs ht
   by_cases hI : I j
   · exact hone j x u s t hI hj hv hs ht
   · obtain ⟨e1, e2, e3⟩ := hsame j hI
     rw [e1] at hv; rw [e2] at hs; rw [e3] at ht
     refine (h.one j x u s t hj hv hs ht).grow hg ?_ ?_
     · rintro ⟨i, hi, e | ⟨p, hp, e⟩⟩
       · exact hI (h.zz j i x hj e ▸ hi)
       · exact h.zp j i x p hj hp e
     · rintro b hb ⟨i, hi, e | ⟨p, hp, e⟩⟩
       · exact h.zp i j b s e hs hb
       · exact hI (h.pp j i s p b hs hp hb e ▸ hi)
 · intro j x s hj hs hx b hb
   rcases hnew j s b hs hb with ⟨p, hp, e⟩ | ⟨_, e⟩
   · exact h.own j x p hj hp hx b e
   · intro hr; have := h.old b hr; omega
 · intro j k s t b hs ht hb hb2
   rcases hnew j s b hs hb with ⟨p, hp, e⟩ | ⟨hI, e⟩
   · rcases hnew k t b ht hb2 with ⟨p2, hp2, e2⟩ | ⟨_, e2⟩
     · exact h.pp j k p p2 b hp hp2 e e2
     · have := hplt j p b hp e; omega
   · rcases hnew k t b ht hb2 with ⟨p2, hp2, e2⟩ | ⟨hI2, _⟩
     · have := hplt k p2 b hp2 e2; omega
     · exact hapart j k s t b hI hI2 hs ht hb hb2
 · intro j k x s hj hs hb
   rcases hnew k s x hs hb with ⟨p, hp, e⟩ | ⟨_, e⟩
   · exact h.zp j k x p hj hp e
   · have := hzlt j x hj; omega
 · refine hg.weaken ?_
   rintro k _ ⟨i, hi, e | ⟨p, hp, e⟩⟩
   · exact hR i k hi e
   · have hi2 : i < zs.length := by rw [← h.lenP]; exact (List.getElem?_eq_some_iff.1 hp).1
     have hz := List.getElem?_eq_getElem hi2
     exact h.own i _ p hz hp (hR i _ hi hz) k e
theorem FamR.write2 {R : Nat → Prop} {w w' : World} {zs : List Nat} {vs : List (Bool × Nat)} {ps : List (Option Addr)} {qs : List (List Nat)} (h : FamR R w zs vs ps qs) {i j z r : Nat} {p p2 p' q' : Option Addr} {v u : Bool × Nat} {cs' ds' : List Nat}
 (hij : i ≠ j) (hi : zs[i]? = some z) (hj : zs[j]? = some r) (hp : ps[i]? = some p) (hp2 : ps[j]? = some p2) (hR : ¬ R z) (hR2 : ¬ R r)
 (hg : Grow w w' (fun k => (k = z ∨ k = r) ∨ (blk p = some k ∨ blk p2 = some k))) (ho : OneR w' z v p' cs') (ho2 : OneR w' r u q' ds') (hf : Fresh w p p') (hf2 : Fresh w p2 q') (ha : Apart p' q') :
 FamR R w' zs ((vs.set i v).set j u) ((ps.set i p').set j q') ((qs.set i cs').set j ds') ∧ Kept R w w' := by
 refine h.writes (fun k => k = i ∨ k = j) (by simp [h.lenV]) (by simp [h.lenP]) (by simp [h.lenQ]) ?_ ?_ ?_ ?_ ?_ ?_
 · intro k hk
   have h1 : k ≠ i := fun e => hk (.inl e)
   have h2 : k ≠ j := fun e => hk (.inr e)
   rw [List.getElem?_set_ne (Ne.symm h2), List.getElem?_set_ne (Ne.symm h1), List.getElem?_set_ne (Ne.symm h2), List.getElem?_set_ne (Ne.symm h1), List.getElem?_set_ne (Ne.symm h2), List.getElem?_set_ne (Ne.symm h1)]
   exact ⟨rfl, rfl, rfl⟩
 · rintro k x (rfl | rfl) hk
   · rw [hi] at hk; cases hk; exact hR
   · rw [hj] at hk; cases hk; exact hR2
 · refine hg.weaken ?_
   rintro k _ ((rfl | rfl) | (e | e))
   · exact ⟨i, .inl rfl, .inl hi⟩
   · exact ⟨j, .inr rfl, .inl hj⟩
   · exact ⟨i, .inl rfl, .inr ⟨p, hp, e⟩⟩
   · exact ⟨j, .inr rfl, .inr ⟨p2, hp2, e⟩⟩
 · rintro k x a s t hk hx hv hs ht
   rcases getElem?_set_cases hv with ⟨e, rfl⟩ | ⟨hne, hv⟩
   · subst e
     rw [hj] at hx; cases hx
     rcases getElem?_set_cases hs with ⟨_, rfl⟩ | ⟨hne, _⟩
     · rcases getElem?_set_cases ht with ⟨_, rfl⟩ | ⟨hne, _⟩
       · exact ho2
       · exact absurd rfl hne
     · exact absurd rfl hne
   · rcases hk with e | e
     · subst e
       rw [hi] at hx; cases hx
       rcases getElem?_set_cases hs with ⟨e, _⟩ | ⟨_, hs⟩
       · exact absurd e hij
       · rcases getElem?_set_cases ht with ⟨e, _⟩ | ⟨_, ht⟩
         · exact absurd e hij
         · rcases getElem?_set_cases hv with ⟨_, rfl⟩ | ⟨hne, _⟩
           · rcases getElem?_set_cases hs with ⟨_, rfl⟩ | ⟨hne, _⟩
             · rcases getElem?_set_cases ht with ⟨_, rfl⟩ | ⟨hne, _⟩
               · exact ho
               · exact absurd rfl hne
             · exact absurd rfl hne
           · exact absurd rfl hne
     · exact absurd e hne
 · rintro k s t hk hs ht
   rcases getElem?_set_cases ht with ⟨e, rfl⟩ | ⟨hne, ht⟩
   · subst e; rw [hp2] at hs; cases hs; exact hf2
   · rcases getElem?_set_cases ht with ⟨e, rfl⟩ | ⟨hne2, ht⟩
     · subst e; rw [hp] at hs; cases hs; exact hf
     · rcases hk with e | e
       · exact absurd e hne2
       · exact absurd e hne
 · rintro k m s t b hk hm hs ht hb hb2
   rcases getElem?_set_cases hs with ⟨e1, e2⟩ | ⟨hne, hs⟩
   · rcases getElem?_set_cases ht with ⟨e3, e4⟩ | ⟨hne2, ht⟩
     · rw [e1, e3]
     · rcases getElem?_set_cases ht with ⟨e3, e4⟩ | ⟨hne3, _⟩
       · subst e2 e4; exact absurd hb (ha b hb2)
       · rcases hm with e | e
         · exact absurd e hne3
         · exact absurd e hne2
   · rcases getElem?_set_cases hs with ⟨e1, e2⟩ | ⟨hne1, _⟩
     · rcases getElem?_set_cases ht with ⟨e3, e4⟩ | ⟨hne2, ht⟩
       · subst e2 e4; exact absurd hb2 (ha b hb)
       · rcases getElem?_set_cases ht with ⟨e3, e4⟩ | ⟨hne3, _⟩
         · rw [e1, e3]
         · rcases hm with e | e
           · exact absurd e hne3
           · exact absurd e hne2
     · rcases hk with e | e
       · exact absurd e hne1
       · exact absurd e hne
theorem AbsDone2.finishR {R : Nat → Prop} {w wx : World} {zs : List Nat} {vs : List (Bool × Nat)} {ps : List (Option Addr)} {qs : List (List Nat)} (h : FamR R w zs vs ps qs) {i j z r : Nat} {p p2 : Option Addr} {nz nr b b2 : Bool} {q m : Nat} {v u : Bool × Nat}
 (hij : i ≠ j) (hi : zs[i]? = some z) (hj : zs[j]? = some r) (hp : ps[i]? = some p) (hp2 : ps[j]? = some p2) (hR : ¬ R z) (hR2 : ¬ R r) (ha : AbsDone2 w z r p p2 nz nr q m wx) (hv : v.2 = q) (hu : u.2 = m) (hb : b = v.1) (hb2 : b2 = u.1) :
 IntsR R ((wx.setCell ⟨z, 0, .none⟩ (.bool b)).setCell ⟨r, 0, .none⟩ (.bool b2)) zs ((vs.set i v).set j u) ∧ Kept R w ((wx.setCell ⟨z, 0, .none⟩ (.bool b)).setCell ⟨r, 0, .none⟩ (.bool b2)) := by
 have hzr : z ≠ r := fun e => hij (h.zz i j z hi (e ▸ hj))
 obtain ⟨p', cs', q', ds', h1, h2, h3, h4, h5, h6, h7, h8, ⟨e1, e2⟩, ⟨e3, e4⟩⟩ := ha
 have g1 : Grow wx (wx.setCell ⟨z, 0, .none⟩ (.bool b)) (fun k => k = z) := (Grow.of (zzw wx z 0 _)).weaken (fun k _ e => by cases e; rfl)
 have g2 : Grow (wx.setCell ⟨z, 0, .none⟩ (.bool b)) ((wx.setCell ⟨z, 0, .none⟩ (.bool b)).setCell ⟨r, 0, .none⟩ (.bool b2)) (fun k => k = r) := (Grow.of (zzw _ r 0 _)).weaken (fun k _ e => by cases e; rfl)
 have gg := (g1.weaken (fun _ _ e => .inl e) : Grow _ _ (fun k => k = z ∨ k = r)).trans (g2.weaken (fun _ _ e => .inr e))
 subst hv hu hb hb2
 have ho : OneR ((wx.setCell ⟨z, 0, .none⟩ (.bool (v.1))).setCell ⟨r, 0, .none⟩ (.bool (u.1))) z v p' cs' := ⟨(h1.set0 _).grow g2 hzr, h3.grow gg (by rintro b hb (e | e); exact e1 (e ▸ hb); exact e2 (e ▸ hb))⟩
 have ho2 : OneR ((wx.setCell ⟨z, 0, .none⟩ (.bool (v.1))).setCell ⟨r, 0, .none⟩ (.bool (u.1))) r u q' ds' := ⟨(h2.grow g1 (Ne.symm hzr)).set0 _, h4.grow gg (by rintro b hb (e | e); exact e3 (e ▸ hb); exact e4 (e ▸ hb))⟩
 obtain ⟨hF, hK⟩ := h.write2 hij hi hj hp hp2 hR hR2 (h5.trans (gg.weaken (fun _ _ e => .inl e))) ho ho2 h6 h7 h8
 exact ⟨⟨_, _, hF⟩, hK⟩
def QRPR (R : Nat → Prop) (zs : List Nat) (vs : List (Bool × Nat)) (z r : Nat) (w : World) (e : Ending) (w' : World) : Prop := e = .returned (.tuple #[ptr z, ptr r]) ∧ IntsR R w' zs vs ∧ Kept R w w'
set_option maxRecDepth 100000 in
theorem quoRemR (R : Nat → Prop) (w : World) (zs : List Nat) (vs : List (Bool × Nat)) (ps : List (Option Addr)) (qs : List (List Nat)) (h : FamR R w zs vs ps qs) (i j k m z x y r : Nat) (a b : Int) (hi : zs[i]? = some z) (hj : zs[j]? = some x) (hk : zs[k]? = some y) (hm : zs[m]? = some r) (him : i ≠ m) (hR : ¬ R z) (hR2 : ¬ R r)
 (ha : vs[j]? = some (toR a)) (hb : vs[k]? = some (toR b)) (hla : (dg a.natAbs).length ≤ 80000) (hdiv : DivOK b.natAbs) (htab : Tab w) :
 Calls Tryz.prog 157 #[ptr z, ptr x, ptr y, ptr r] w (QRPR R zs ((vs.set i (toR (a.tdiv b))).set m (toR (a.tmod b))) z r w) := by
 obtain ⟨v, p, q, hv, hp, hq, oz⟩ := h.at hi
 obtain ⟨u, p2, q2, hu, hp2, hq2, or⟩ := h.at hm
 obtain ⟨a', px, dx, ha', hpx, hqx, ox⟩ := h.at hj
 obtain ⟨b', py, dy, hb', hpy, hqy, oy⟩ := h.at hk
 obtain rfl : toR a = a' := by rw [ha] at ha'; exact Option.some.inj ha'
 obtain rfl : toR b = b' := by rw [hb] at hb'; exact Option.some.inj hb'
 have hzr : z ≠ r := fun e => him (h.zz i m z hi (e ▸ hm))
 have n1 : blk p ≠ some z := h.zp i i z p hi hp
 have n2 : blk p ≠ some r := h.zp m i r p hm hp
 have n3 : blk p2 ≠ some z := h.zp i m z p2 hi hp2
 have n4 : blk p2 ≠ some r := h.zp m m r p2 hm hp2
 have hap : Apart p p2 := fun c h1 h2 => him (h.pp i m p p2 c hp hp2 h1 h2)
 have HOP := Lz fun n => hdiv p p2 px py (dg v.2).length (dg u.2).length a.natAbs q q2 dx dy (w.drewN n) (oz.num.buf.kept (zzz _ _ .none) (fun _ _ => by simp)) (or.num.buf.kept (zzz _ _ .none) (fun _ _ => by simp)) hap (ox.num.kept (zzz _ _ .none) (fun _ _ => by simp)) (oy.num.kept (zzz _ _ .none) (fun _ _ => by simp)) hla (htab.kept (zzz _ _ .none) (fun _ e => by cases e))
 have hz1 := oz.str.cell1
 have hr1 := or.str.cell1
 have hx1 := ox.str.cell1
 have hy1 := oy.str.cell1
 have HF := Lz h
 have HSZ := Lz oz.str
 have HSR := Lz or.str
 have HZR := Lz hzr
 have N1 := Lz n1
 have N2 := Lz n2
 have N3 := Lz n3
 have N4 := Lz n4
 have HHI := Lz hi
 have HHM := Lz hm
 have HHP := Lz hp
 have HHP2 := Lz hp2
 have HHR := Lz hR
 have HHR2 := Lz hR2
 have HIM := Lz him
 have sgnAt : ∀ (o c : Nat) (t : Int), zs[o]? = some c → vs[o]? = some (toR t) → ∀ wx, AbsDone2 w z r p p2 (v.1) (u.1) (a.natAbs / b.natAbs) (a.natAbs % b.natAbs) wx → wx.cell? ⟨c, 0, .none⟩ = some (.bool (decide (t < 0))) := by
  rintro o c t hc ht wx ⟨p', cs', q', ds', h1, h2, h3, h4, h5, -⟩
  obtain ⟨t', pt, qt, ht', hpt, hqt, ot⟩ := h.at hc
  obtain rfl : toR t = t' := by rw [ht] at ht'; exact Option.some.inj ht'
  by_cases hcz : c = z
  · subst hcz
    have e := ot.str.cell0
    rw [oz.str.cell0] at e
    rw [h1.cell0, Option.some.inj e]; rfl
  · by_cases hcr : c = r
    · subst hcr
      have e := ot.str.cell0
      rw [or.str.cell0] at e
      rw [h2.cell0, Option.some.inj e]; rfl
    · refine (ot.str.grow h5 ?_).cell0
      rintro ((e | e) | (e | e))
      · exact hcz e
      · exact hcr e
      · exact h.zp o i c p hc hp e
      · exact h.zp o m c p2 hc hp2 e
 have HX0 := Lz (sgnAt j x a hj ha)
 have HY0 := Lz (sgnAt k y b hk hb)
 have HQ := Lz (Int.natAbs_tdiv a b)
 have HM := Lz (Int.natAbs_tmod a b)
 have HNQ := Lz (sign_tdiv a b)
 have HNM := Lz (sign_tmod a b)
 clear h hi hj hk hm hR hR2 ha ha' hb hb' hv hp hq hu hp2 hq2 hpx hqx hpy hqy oz or ox oy n1 n2 n3 n4 hap hla hdiv htab hzr him sgnAt
 unfold ptr
 go_enter Tryz.func157, Tryz.ntmps157
 go_upto_region 1 with fail
 go_cut [] from 10 (fun wx => AbsDone2 w z r p p2 (v.1) (u.1) (a.natAbs / b.natAbs) (a.natAbs % b.natAbs) wx)
 case first =>
  go_region_with (go_at_call 178; refine (HOP.out _).mono ?_; rintro e w1 ⟨p', cs', q', ds', rfl, hn, hmm, hg, hf, hf2, hap⟩; have hg' := (Grow.none (zzz w _ .none) _).trans hg; have hsz := HSZ.out.grow hg' (by rintro (e | e); exact N1.out e; exact N3.out e); have hsr := HSR.out.grow hg' (by rintro (e | e); exact N2.out e; exact N4.out e); have hc1 := hsz.cell1; have hf1 := hsz.free 1; have hc2 : ∀ s, (w1.setCell ⟨z, 1, .none⟩ s).cell? ⟨r, 1, .none⟩ = some _ := fun s => (hsr.grow ((Grow.of (zzw w1 z 1 s)).weaken (fun k _ e => by cases e; rfl) : Grow _ _ (fun k => k = z)) (Ne.symm HZR.out)).cell1; have hf2' := hsr.free 1; have HN := Lz hn; have HMM := Lz hmm; have HG := Lz hg; have HFr := Lz hf; have HFr2 := Lz hf2; have HAP := Lz hap; clear hn hmm hg hg' hf hf2 hap hsz hsr)
  all_goals
   go_wp2_with fail
   go_meet
   case rel => exact AbsDone2.of HZR.out HSZ.out HSR.out N1.out N2.out N3.out N4.out (zzz _ _ _) HN.out HMM.out HG.out HFr.out HFr2.out HAP.out
 case rest =>
  have HA := Lz hcut
  have hx0 := HX0.out _ hcut
  have hy0 := HY0.out _ hcut
  obtain ⟨p', cs', q', ds', h1, h2, h3, h4, h5, h6⟩ := hcut
  have hcz0 := h1.cell0
  have hcz1 := h1.cell1
  have hfz := h1.free 0
  have hcr0 := h2.cell0
  have hcr1 := h2.cell1
  have hfr := h2.free 0
  have hzr := HZR.out
  have hrz := Ne.symm HZR.out
  clear h1 h2 h3 h4 h5 h6 hz1 hr1 hx1 hy1
  obtain ⟨na, hna⟩ : ∃ na, na = decide (a < 0) := ⟨_, rfl⟩
  obtain ⟨nb, hnb⟩ : ∃ nb, nb = decide (b < 0) := ⟨_, rfl⟩
  rw [← hna] at hx0
  rw [← hnb] at hy0
  rw [← hna] at HNQ HNM
  rw [← hnb] at HNQ
  have E0 := Lz (fun h => zero_sign (Int.natAbs_tdiv a b) h : a.natAbs / b.natAbs = 0 → false = decide (a.tdiv b < 0))
  have E1 := Lz (fun h => zero_sign (Int.natAbs_tmod a b) h : a.natAbs % b.natAbs = 0 → false = decide (a.tmod b < 0))
  clear hna hnb
  by_cases hq0 : a.natAbs / b.natAbs = 0
  · have EQ := Lz (E0.out hq0)
    have hl0 : (dg (a.natAbs / b.natAbs)).length = 0 := by rw [hq0, zyw]; rfl
    rw [hl0] at hcz1
    clear hq0 hl0
    by_cases hm0 : a.natAbs % b.natAbs = 0
    · have EM := Lz (E1.out hm0)
      have hl0 : (dg (a.natAbs % b.natAbs)).length = 0 := by rw [hm0, zyw]; rfl
      rw [hl0] at hcr1
      clear hm0 hl0
      go_wp2_with fail
      go_region
      all_goals
       go_wp2_with fail
       go_ret2
       exact ⟨rfl, (HA.out.drew _).finishR HF.out HIM.out HHI.out HHM.out HHP.out HHP2.out HHR.out HHR2.out HQ.out HM.out EQ.out EM.out⟩
    · have EM := Lz (HNM.out hm0)
      have hl2 := zyx hm0
      clear hm0
      generalize (dg (a.natAbs % b.natAbs)).length = len at *
      go_wp2_with fail
      go_region
      all_goals
       go_wp2_with fail
       go_ret2
       exact ⟨rfl, (HA.out.drew _).finishR HF.out HIM.out HHI.out HHM.out HHP.out HHP2.out HHR.out HHR2.out HQ.out HM.out EQ.out EM.out⟩
  · have EQ := Lz (HNQ.out hq0)
    have hl1 := zyx hq0
    clear hq0
    generalize (dg (a.natAbs / b.natAbs)).length = len1 at *
    by_cases hm0 : a.natAbs % b.natAbs = 0
    · have EM := Lz (E1.out hm0)
      have hl0 : (dg (a.natAbs % b.natAbs)).length = 0 := by rw [hm0, zyw]; rfl
      rw [hl0] at hcr1
      clear hm0 hl0
      go_wp2_with fail
      go_region
      all_goals
       go_wp2_with fail
       go_ret2
       exact ⟨rfl, (HA.out.drew _).finishR HF.out HIM.out HHI.out HHM.out HHP.out HHP2.out HHR.out HHR2.out HQ.out HM.out EQ.out EM.out⟩
    · have EM := Lz (HNM.out hm0)
      have hl2 := zyx hm0
      clear hm0
      generalize (dg (a.natAbs % b.natAbs)).length = len at *
      go_wp2_with fail
      go_region
      all_goals
       go_wp2_with fail
       go_ret2
       exact ⟨rfl, (HA.out.drew _).finishR HF.out HIM.out HHI.out HHM.out HHP.out HHP2.out HHR.out HHR2.out HQ.out HM.out EQ.out EM.out⟩
end Go.Proofs.YtohhkjamddojmaaGreatDoor.Big

set_option maxHeartbeats 16000000
namespace Go.Proofs.YtohhkjamddojmaaGreatDoor.Big
open Go.RowKit
def bev (ks : List Nat) : Nat := ks.foldl (fun a k => a * 256 + k) 0
theorem bev_snoc (ks : List Nat) (k : Nat) : bev (ks ++ [k]) = bev ks * 256 + k := by unfold bev; rw [List.foldl_append]; rfl
theorem bev_from (ks : List Nat) : ∀ a, ks.foldl (fun a k => a * 256 + k) a = a * 256 ^ ks.length + bev ks := by
 induction ks with
 | nil => intro a; simp [bev]
 | cons k ks ih =>
  intro a
  rw [List.foldl_cons, ih]
  unfold bev
  rw [List.foldl_cons, ih (0 * 256 + k), List.length_cons, Nat.pow_succ, Nat.zero_mul, Nat.zero_add, Nat.add_mul, Nat.mul_assoc, Nat.mul_comm 256, ← Nat.mul_assoc, Nat.add_assoc]; rfl
theorem bev_cons (k : Nat) (ks : List Nat) : bev (k :: ks) = k * 256 ^ ks.length + bev ks := by
 show List.foldl _ (0 * 256 + k) ks = _
 rw [bev_from, Nat.zero_mul, Nat.zero_add]
theorem bev_zeros (z : Nat) (ks : List Nat) : bev (List.replicate z 0 ++ ks) = bev ks := by
 induction z with
 | zero => rfl
 | succ z ih => rw [List.replicate_succ, List.cons_append, bev_cons, ih, Nat.zero_mul, Nat.zero_add]
theorem info5 : (Tryz.prog.info? 5).map (fun i => (i.zero, i.size, i.bytes)) = some (some (.int .u8 0), 1, 1) := by kernel_rfl
theorem grown_new {w w1 w2 : World} {b : Nat} (h1 : w.grownBy w1 .none) (h2 : w1.grownBy w2 (some b)) (hb : w.heap.size ≤ b) : w.grownBy w2 .none :=
 ⟨h2.os.trans h1.os, h2.tape.trans h1.tape, h2.output.trans h1.output, Nat.le_trans h1.size h2.size, fun k hk _ => (h2.block k (Nat.lt_of_lt_of_le hk h1.size) (by intro e; cases e; omega)).trans (h1.block k hk (by simp))⟩
def u8v (k : Nat) : Value := .int .u8 (k : Nat)
def BytesP (w : World) (ks : List Nat) (e : Ending) (w' : World) : Prop :=
 ∃ g cap, e = .returned (.slice (some ⟨g, 0, .none⟩) ks.length cap) ∧ w'.ownsRow w.heap.size 5 1 (.slice (some ⟨g, 0, .none⟩) ks.length cap) ks.length (ks.map u8v) ∧ w.grownBy w' .none
set_option maxRecDepth 100000 in
theorem bytesOf (w : World) (n z : Nat) (hn : n < 9223372036854775808) (hz : z < 256) :
 Calls Tryz.prog 18 #[.int .i64 n, .int .i64 z] w (fun e w' => ∃ ks : List Nat, BytesP w ks e w' ∧ bev ks = n ∧ (∀ k ∈ ks, k < 256) ∧ ks.length ≤ z + 8) := by
 obtain ⟨i0, hi, hz0, hz1, hz2⟩ := info_parts info5
 go_enter Tryz.func18, Tryz.ntmps18
 go_wp2_with fail
 go_loopw [0, 5] (fun a v wr => ∃ (m : Nat) (ks : List Nat), a = .int .i64 m ∧ m < 9223372036854775808 ∧ wr.ownsRow w.heap.size 5 1 v ks.length (ks.map u8v) ∧ w.grownBy wr .none ∧ RowKit.Hid (n = m * 256 ^ ks.length + bev ks ∧ (∀ k ∈ ks, k < 256) ∧ ks.length ≤ 8)) (fun a _ _ => (intOf a).toNat)
 case atStart => exact ⟨n, [], rfl, hn, World.ownsRow_nil _ _ _ _, World.grownBy.refl _ _, ⟨by simp [bev], by simp, by simp⟩⟩
 case round =>
  obtain ⟨m, ks, rfl, hm, hown, hg, HR⟩ := hrel
  have HO := Lz hown
  have HG := Lz hg
  have hsz : w.heap.size ≤ wr.heap.size := hg.size
  clear hg
  by_cases h0 : (0 : Int) < m
  · have hlk : ks.length < 8 := by
     obtain ⟨e1, -, e3⟩ := HR.out
     rcases Nat.lt_or_ge ks.length 8 with h | h
     · exact h
     · exfalso
       have e4 : ks.length = 8 := by omega
       rw [e4] at e1
       have : 256 ^ 8 * 1 ≤ 256 ^ 8 * m := Nat.mul_le_mul_left _ (by omega)
       omega
    have HN := Lz (show n = m / 256 * 256 ^ ((m % 256) :: ks).length + bev ((m % 256) :: ks) ∧ (∀ k ∈ (m % 256) :: ks, k < 256) ∧ ((m % 256) :: ks).length ≤ 8 by
     obtain ⟨e1, e2, e3⟩ := HR.out
     refine ⟨?_, ?_, by rw [List.length_cons]; omega⟩
     · rw [bev_cons, List.length_cons, Nat.pow_succ, Nat.mul_comm (256 ^ _) 256, ← Nat.mul_assoc, ← Nat.add_assoc, ← Nat.add_mul]
       rw [show m / 256 * 256 + m % 256 = m by omega]
       exact e1
     · intro k hk
       rcases List.mem_cons.1 hk with rfl | hk
       · omega
       · exact e2 k hk)
    have EC := Lz (show Value.int .u8 ((m : Int) % 256) = u8v (m % 256) by unfold u8v; rw [Int.natCast_emod]; rfl)
    have hl0 : w.heap.size ≤ wr.heap.size := hsz
    have hlit := World.ownsRow_lit (base := w.heap.size) (e := 5) (size := 1) wr #[Value.int .u8 ((m : Int) % 256)] 1 hl0 (by decide) rfl
    have hga : w.grownBy (wr.alloc (.cells #[Value.int .u8 ((m : Int) % 256)] 5)) .none := zzy HG.out (zzx _ _ _)
    have HGA := Lz hga
    rcases hown with ⟨hlen, ⟨rfl, hks⟩ | ⟨g, cap, cur, rfl, hb, hblk, hle, hcm, hsz2, htk⟩⟩
    · obtain rfl : ks = [] := List.length_eq_zero_iff.1 hks
      clear hlen hks
      have HLIT := Lz hlit
      clear hlit hga
      go_wp2_with fail
      go_roundw
      case rel => exact ⟨m / 256, [m % 256], by go_num, by omega, by have := HLIT.out; rw [EC.out] at this; exact this, HGA.out, HN.out⟩
      case measure => simp [intOf]; omega
    · have hne : g ≠ wr.heap.size := by
       intro e
       have := (Array.getElem?_eq_some_iff.1 hblk).1
       omega
      have hcells := HO.out.cells (g := g) rfl
      have hsrc : ∀ j u, (ks.map u8v)[j]? = some u → (wr.alloc (.cells #[Value.int .u8 ((m : Int) % 256)] 5)).cell? ((⟨g, 0, .none⟩ : Addr).add j) = some u := fun j u h => (zzx wr _ none).cell (hcells j u h) (by simp)
      clear hlen hb hblk hle hcm hsz2 htk hcells
      go_wp2_with (at_builtin; refine wpList_append_own _ rfl (.tmp 12) (.tmp 13) 25 rfl w.heap.size 5 i0 (.int .u8 0) 1 1 Tryz.underlying25 hi hz0 hz1 hz2 rfl (by decide) _ 1 [Value.int .u8 ((m : Int) % 256)] rfl hlit ⟨g, 0, .none⟩ ks.length cap (ks.map u8v) rfl (by simp) hsrc (by intro u hu; obtain ⟨k, -, rfl⟩ := List.mem_map.1 hu; rfl) (by unfold maxLen; omega) (by omega) (Nat.le_trans hl0 (by show _ ≤ (Array.push _ _).size; rw [Array.size_push]; omega)) ?_; intro v' w1 hown' hgrow hnn)
      have HO' := Lz (show w1.ownsRow w.heap.size 5 1 v' ((m % 256) :: ks).length (((m % 256) :: ks).map u8v) by rw [List.length_cons, Nat.add_comm, List.map_cons, ← EC.out]; exact hown')
      have HG' := Lz (grown_new HGA.out hgrow hl0)
      clear hown' hgrow hnn hlit hga hsrc hne
      go_wp2_with fail
      go_roundw
      case rel => exact ⟨m / 256, (m % 256) :: ks, by go_num, by omega, HO'.out, HG'.out, HN.out⟩
      case measure => simp [intOf]; omega
  · have hm0 : m = 0 := by omega
    subst hm0
    have HF := Lz (show bev (List.replicate z 0 ++ ks) = n ∧ (∀ k ∈ List.replicate z 0 ++ ks, k < 256) ∧ (List.replicate z 0 ++ ks).length ≤ z + 8 by
     obtain ⟨e1, e2, e3⟩ := HR.out
     refine ⟨by rw [bev_zeros]; omega, ?_, by rw [List.length_append, List.length_replicate]; omega⟩
     intro k hk
     rcases List.mem_append.1 hk with hk | hk
     · rw [List.eq_of_mem_replicate hk]; omega
     · exact e2 k hk)
    rcases hown with ⟨hlen, ⟨rfl, hks⟩ | ⟨g, cap, cur, rfl, hb, hblk, hle, hcm, hsz2, htk⟩⟩
    · obtain rfl : ks = [] := List.length_eq_zero_iff.1 hks
      clear hlen hks
      go_wp2_with (refine wpList_make_full _ rfl (.tmp 15) (.tmp 15) 25 rfl w.heap.size 5 i0 (.int .u8 0) 1 Tryz.underlying25 hi hz0 hz1 .i64 .i64 z z z rfl rfl rfl rfl (by rw [hz2]; omega) (by unfold maxLen; omega) hsz ?_; intro w2 hown2 hg2)
      have hO2 : w2.ownsRow w.heap.size 5 1 (.slice (some ⟨wr.heap.size, 0, .none⟩) (List.replicate z 0 ++ ([] : List Nat)).length z) (List.replicate z 0 ++ ([] : List Nat)).length ((List.replicate z 0 ++ ([] : List Nat)).map u8v) := by
       rw [List.append_nil, List.length_replicate, List.map_replicate]
       rw [show (madeCells (Value.int IntKind.u8 0).cells (z * 1)).toList = List.replicate z (u8v 0) by rw [Nat.mul_one]; exact toList_madeCells_one _ _] at hown2
       exact hown2
      have hG2 := zzy HG.out hg2
      have hl : (List.replicate z 0 ++ ([] : List Nat)).length = z := by simp
      go_ret
      refine ⟨_, ⟨_, _, ?_, hO2, hG2⟩, HF.out⟩
      rw [hl]
      rfl
    · have hcells := HO.out.cells (g := g) rfl
      have hgl := (Array.getElem?_eq_some_iff.1 hblk).1
      have hkl : ks.length ≤ 8 := HR.out.2.2
      clear hlen hb hblk hle hcm hsz2 htk
      go_wp2_with (first | (at_builtin; refine wpList_append_own _ rfl (.tmp 16) (.tmp 17) 25 rfl w.heap.size 5 i0 (.int .u8 0) 1 1 Tryz.underlying25 hi hz0 hz1 hz2 rfl (by decide) _ z _ rfl hown2 ⟨g, 0, .none⟩ ks.length cap (ks.map u8v) rfl (by simp) (fun j u h => hg2.cell (hcells j u h) (by simp)) (by intro u hu; obtain ⟨k, -, rfl⟩ := List.mem_map.1 hu; rfl) (by unfold maxLen; omega) (by omega) (Nat.le_trans hsz hg2.size) ?_; intro v' w3 hown3 hg3 hnn) | (refine wpList_make_full _ rfl (.tmp 15) (.tmp 15) 25 rfl w.heap.size 5 i0 (.int .u8 0) 1 Tryz.underlying25 hi hz0 hz1 .i64 .i64 z z z rfl rfl rfl rfl (by rw [hz2]; omega) (by unfold maxLen; omega) hsz ?_; intro w2 hown2 hg2))
      have hO3 : w3.ownsRow w.heap.size 5 1 v' (List.replicate z 0 ++ ks).length ((List.replicate z 0 ++ ks).map u8v) := by
       rw [List.length_append, List.length_replicate, List.map_append, List.map_replicate]
       rw [show (madeCells (Value.int IntKind.u8 0).cells (z * 1)).toList = List.replicate z (u8v 0) by rw [Nat.mul_one]; exact toList_madeCells_one _ _] at hown3
       exact hown3
      have hG3 := grown_new (zzy HG.out hg2) hg3 hsz
      rcases hO3 with ⟨hlen, ⟨rfl, hks⟩ | ⟨g3, cap3, cur3, rfl, hb3, hblk3, hle3, hcm3, hsz3, htk3⟩⟩
      · exact absurd (hnn.1 rfl).1 (by intro e; cases e)
      · have HO3 := Lz (show w3.ownsRow w.heap.size 5 1 (.slice (some ⟨g3, 0, .none⟩) (List.replicate z 0 ++ ks).length cap3) (List.replicate z 0 ++ ks).length ((List.replicate z 0 ++ ks).map u8v) from ⟨hlen, .inr ⟨g3, cap3, cur3, rfl, hb3, hblk3, hle3, hcm3, hsz3, htk3⟩⟩)
        have HG3 := Lz hG3
        clear hlen hb3 hblk3 hle3 hcm3 hsz3 htk3 hG3 hnn hg3 hown3 hown2 hg2 hcells
        go_wp2_with fail
        go_ret
        exact ⟨_, ⟨_, _, rfl, HO3.out, HG3.out⟩, HF.out⟩
end Go.Proofs.YtohhkjamddojmaaGreatDoor.Big
