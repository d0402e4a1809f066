/- Sums of natural numbers. Differences of natural numbers. 'cmp' of natural numbers. Products of natural numbers: by a word; the schoolbook's. -/
import Derived.Test.YtohhkjamddojmaaGreatDoorWG
namespace Go.Proofs.YtohhkjamddojmaaGreatDoor.Big
open Go.RowKit

theorem addVW (bz bx o n cz cx : Nat) (zs xs : List Nat) (y : Nat) (w : World) (hz : NatB w bz zs) (hx : NatB w bx xs) (hzn : o + n ≤ zs.length) (hxn : o + n ≤ xs.length)
    (hwx : Words xs) (hy : y < B64) (h1 : 1 ≤ n) (hn : n ≤ 1000000) (hcz : n ≤ cz) (hcx : n ≤ cx) :
    Calls Tryz.prog 181 #[.slice (some ⟨bz, o, .none⟩) n cz, .slice (some ⟨bx, o, .none⟩) n cx, wd y] w (AddWP bz o n zs ((xs.drop o).take n) y w) := by
  by_cases hne : bz = bx
  · subst hne
    obtain rfl := hz.inj hx
    exact addVW_same bz o n cz cx zs y w hz hzn hwx hy h1 hn
  · exact addVW_other bz bx o n cz cx zs xs y w hz hx hne hzn hxn hwx hy h1 hn hcz hcx
theorem subVW (bz bx o n cz cx : Nat) (zs xs : List Nat) (y : Nat) (w : World) (hz : NatB w bz zs) (hx : NatB w bx xs) (hzn : o + n ≤ zs.length) (hxn : o + n ≤ xs.length)
    (hwx : Words xs) (hy : y < B64) (h1 : 1 ≤ n) (hn : n ≤ 1000000) (hcz : n ≤ cz) (hcx : n ≤ cx) :
    Calls Tryz.prog 183 #[.slice (some ⟨bz, o, .none⟩) n cz, .slice (some ⟨bx, o, .none⟩) n cx, wd y] w (SubWP bz o n zs ((xs.drop o).take n) y w) := by
  by_cases hne : bz = bx
  · subst hne
    obtain rfl := hz.inj hx
    exact subVW_same bz o n cz cx zs y w hz hzn hwx hy h1 hn
  · exact subVW_other bz bx o n cz cx zs xs y w hz hx hne hzn hxn hwx hy h1 hn hcz hcx

/-- the same number's memory, whether it is the memory that was written or another -/
theorem Num.shape {w : World} {q : Option Addr} {X ds : List Nat} (h : Num w q X ds) : q = .none ∨ ∃ b, q = some ⟨b, 0, .none⟩ := h.buf.shape

theorem row_after {w w2 : World} {bz bx : Nat} {zs xs ks : List Nat} (hz : NatB w bz zs) (hx : NatB w bx xs) (hg : w.grownBy w2 (some bz)) (hb : NatB w2 bz (spl zs 0 ks)) (hk : ks.length ≤ zs.length) (hwx : Words xs) (hwk : Words ks) :
    ∃ xs', NatB w2 bx xs' ∧ Words xs' ∧ xs'.length = xs.length ∧ xs'.drop ks.length = xs.drop ks.length := by
  by_cases hne : bx = bz
  · subst hne
    obtain rfl := hx.inj hz
    refine ⟨_, hb, hwx.spl hwk, spl_length (by omega), ?_⟩
    simp [spl]
  · exact ⟨xs, hx.kept hg (by simpa using hne), hwx, rfl, rfl⟩

theorem grown_drew (w : World) (row : Option Nat) : w.grownBy w.drew row := ⟨rfl, rfl, rfl, Nat.le_refl _, fun _ _ _ => rfl⟩
/-- behind 'norm': the number's own words -/
theorem Num.of_norm {w : World} {p : Option Addr} {cs L : List Nat} {n v : Nat} (h : Buf w p cs) (ht : cs.take n = L) (hv : val L = v) (hn : n ≤ cs.length) : (norm (cs.take n)).length = (dg v).length ∧ Num w p (dg v) cs := by
  have hw : Words L := by rw [← ht]; exact h.2.1.take _
  have e := norm_dg L hw
  rw [hv] at e
  rw [ht, e]
  have hl : (dg v).length ≤ n := by
    rw [← e]
    refine Nat.le_trans (norm_length L) ?_
    rw [← ht]; simp; omega
  refine ⟨rfl, h, ?_, by omega⟩
  have h2 := norm_take L
  rw [e, ← ht, List.take_take, Nat.min_eq_left hl] at h2
  exact h2

theorem add_total {ks ks2 X Y : List Nat} {n m c c2 : Nat} (h1 : val ks + B64 ^ n * c = val (X.take n) + val Y) (h2 : val ks2 + B64 ^ (m - n) * c2 = val (X.drop n) + c) (hk : ks.length = n) (hk2 : ks2.length = m - n) (hX : n ≤ X.length) :
    val (ks ++ ks2 ++ [c2]) = val X + val Y := by
  have e : val X = val (X.take n) + B64 ^ n * val (X.drop n) := by
    conv => lhs; rw [← List.take_append_drop n X]
    rw [val_append, List.length_take, Nat.min_eq_left hX]
  rw [val_snoc, val_append, List.length_append, hk, hk2]
  have e2 : B64 ^ (n + (m - n)) * c2 = B64 ^ n * (B64 ^ (m - n) * c2) := by rw [Nat.pow_add, Nat.mul_assoc]
  have e3 : B64 ^ n * (val ks2 + B64 ^ (m - n) * c2) = B64 ^ n * (val (X.drop n) + c) := by rw [h2]
  rw [Nat.mul_add, Nat.mul_add] at e3
  omega

theorem Buf.spl {w w2 : World} {bz o : Nat} {zs ks : List Nat} (h : Buf w (some ⟨bz, 0, .none⟩) zs) (hN : NatB w2 bz (spl zs o ks)) (hw : Words ks) (hl : o + ks.length ≤ zs.length) : Buf w2 (some ⟨bz, 0, .none⟩) (spl zs o ks) :=
  ⟨.inr ⟨bz, rfl, hN⟩, h.2.1.spl hw, by rw [spl_length hl]; exact h.2.2⟩

set_option maxHeartbeats 1000000 in
set_option maxRecDepth 100000 in
/-- x + y, x the longer one, y not without words -/
theorem nat_add_long (p q q2 : Option Addr) (l : Nat) (cs X ds Y es : List Nat) (w : World) (h : Buf w p cs) (hx : Num w q X ds) (hy : Num w q2 Y es) (hX : X.length ≤ 80000) (hXY : Y.length ≤ X.length) (hY0 : 0 < Y.length) :
    Calls Tryz.prog 160 #[.slice p l cs.length, .slice q X.length ds.length, .slice q2 Y.length es.length] w (NumP p (dg (val X + val Y)) w) := by
  have hxl := hx.le
  have hyl := hy.le
  have HB := Lib.hid h
  have HX := Lib.hid hx
  have HY := Lib.hid hy
  clear h hx hy
  go_enter Tryz.func160, Tryz.ntmps160
  go_wp2_with fail
  refine (nat_make p l (X.length + 1) cs w HB.out (by omega)).mono ?_
  rintro e w1 ⟨p', cs', rfl, hb, hn, hg, hor⟩
  obtain ⟨bz, rfl, hzN⟩ := hb.at (by omega)
  have hx1 := HX.out.kept hg (fun _ _ => by simp)
  have hy1 := HY.out.kept hg (fun _ _ => by simp)
  obtain ⟨bx, rfl, hxN, -⟩ := hx1.cell (by omega)
  obtain ⟨b2, rfl, hyN, -⟩ := hy1.cell (by omega)
  have ex : ds.take Y.length = X.take Y.length := by rw [← hx1.take, List.take_take, Nat.min_eq_left hXY]
  have H10 := Lib.hid (addVV bz 0 Y.length cs'.length bx 0 ds.length b2 0 es.length cs' ds es w1.drew hzN hxN hyN (by omega) (by omega) (by omega) hx1.buf.2.1 hy1.buf.2.1 (.inr (Nat.le_refl _)) (.inr (Nat.le_refl _)) (by omega))
  have HZN := Lib.hid hzN
  have HXN := Lib.hid hxN
  have HBN := Lib.hid hb
  have HX1 := Lib.hid hx1
  have HY1 := Lib.hid hy1
  have HG := Lib.hid hg
  have HO := Lib.hid hor
  have HEX := Lib.hid ex
  have hyn : (Y.length : Int) ≤ (cs'.length : Int) := by omega
  have hyn2 : (Y.length : Int) ≤ (ds.length : Int) := by omega
  have hyn3 : (Y.length : Int) ≤ (es.length : Int) := by omega
  clear hzN hxN hyN hb hx1 hy1 hg hor ex
  go_wp2_with fail
  go_region_with (go_at_call 180; refine H10.out.mono ?_; rintro e w2 ⟨ks, c, rfl, h2⟩; obtain ⟨hN2, hkl, hkw, hkv, hc, hG2⟩ := h2; have HN2 := Lib.hid hN2; have HKW := Lib.hid hkw; have HKV := Lib.hid hkv; have HG2 := Lib.hid hG2; clear hN2 hkw hkv hG2)
  obtain ⟨xs', hx2, hxw2, hxl2, hxd2⟩ := row_after HZN.out HXN.out (grown_trans (grown_drew _ _) HG2.out) HN2.out (by omega) HX1.out.buf.2.1 HKW.out
  rw [hkl] at hxd2
  have HXD := Lib.hid hxd2
  have HX2 := Lib.hid hx2
  have HKL := Lib.hid hkl
  have hGw2 := grown_trans (grown_drew w1 (some bz)) HG2.out
  have HGW2 := Lib.hid hGw2
  by_cases hgt : Y.length < X.length
  · have H12 := Lib.hid (addVW bz bx Y.length (X.length - Y.length) (cs'.length - Y.length) (ds.length - Y.length) _ xs' c w2.drew HN2.out hx2 (by rw [spl_length (by omega)]; omega) (by omega) hxw2 (by unfold B64; omega) (by omega) (by omega) (by omega) (by omega))
    have s1 : (Y.length : Int) ≤ (X.length : Int) := by omega
    have s2 : (X.length : Int) ≤ (cs'.length : Int) := by omega
    have s3 : (X.length : Int) ≤ (X.length : Int) := by omega
    have q1 : ¬ cs'.length = Y.length := by omega
    have q2 : ¬ ds.length = Y.length := by omega
    clear hxd2 hx2 hkl hGw2
    go_wp2_with fail
    go_region_with (go_at_call 181; refine H12.out.mono ?_; rintro e w3 ⟨ks2, c2, rfl, h3⟩; obtain ⟨hN3, hkl2, hkw2, hkv2, hc2, hG3⟩ := h3; have HN3 := Lib.hid hN3; have HKL2 := Lib.hid hkl2; have HKW2 := Lib.hid hkw2; have HKV2 := Lib.hid hkv2; have HG3 := Lib.hid hG3; clear hN3 hkl2 hkw2 hkv2 hG3)
    have hkl3 : (ks ++ ks2).length = X.length := by rw [List.length_append, HKL.out, HKL2.out]; omega
    have hN4 : NatB w3 bz (spl cs' 0 (ks ++ ks2)) := by
      have e := spl_spl (zs := cs') (ks := ks) (ds := ks2) (o := 0) HKL.out (by rw [HKL2.out]; omega)
      rw [Nat.zero_add] at e
      rw [← e]; exact HN3.out
    have hc4 := hN4.cell X.length (by rw [spl_length (by omega)]; omega)
    have hf4 := hN4.free X.length
    have hN5 := write_row (v := c2) hN4 hkl3 (by omega)
    rw [Nat.zero_add] at hN5
    generalize (spl cs' 0 (ks ++ ks2)).getD X.length 0 = old at *
    have hl5 : (spl cs' 0 (ks ++ ks2 ++ [c2])).length = cs'.length := spl_length (by simp [HKL.out, HKL2.out]; omega)
    have hB5 : Buf (w3.setCell ⟨bz, X.length, .none⟩ (wd c2)) (some ⟨bz, 0, .none⟩) (spl cs' 0 (ks ++ ks2 ++ [c2])) := HBN.out.spl hN5 ((HKW.out.append HKW2.out).append (Words.one (by unfold B64; omega))) (by simp [HKL.out, HKL2.out]; omega)
    have ht5 : (spl cs' 0 (ks ++ ks2 ++ [c2])).take (X.length + 1) = ks ++ ks2 ++ [c2] := by
      have := spl_zero (zs := cs') (ks := ks ++ ks2 ++ [c2]) (by simp [HKL.out, HKL2.out]; omega)
      rwa [List.length_append, hkl3] at this
    have hv5 : val (ks ++ ks2 ++ [c2]) = val X + val Y := by
      refine add_total (X := X) (Y := Y) (c := c) ?_ ?_ HKL.out HKL2.out (by omega)
      · have := HKV.out
        rw [List.drop_zero, List.drop_zero, HEX.out, HY1.out.take] at this
        exact this
      · have := HKV2.out
        rw [HXD.out] at this
        rw [this, ← List.drop_take, HX1.out.take]
    obtain ⟨hl6, hN6⟩ := Num.of_norm hB5 ht5 hv5 (by rw [hl5]; omega)
    have HNM := Lib.hid (nat_norm (some ⟨bz, 0, .none⟩) (X.length + 1) _ _ hB5 (by rw [hl5]; omega))
    rw [hl5] at HNM
    have HL5 := Lib.hid hl5
    have HL6 := Lib.hid hl6
    have HN6 := Lib.hid hN6
    have HGF := Lib.hid (grown_or (grown_none HG.out _) (p' := some ⟨bz, 0, .none⟩) (grown_trans HGW2.out (grown_trans (grown_drew _ _) (grown_trans HG3.out (grown_set w3 bz X.length (wd c2))))) (MakeP.or HO.out))
    have m1 : (X.length : Int) < (X.length : Int) + 1 := by omega
    clear hkl3 hN4 hN5 hl5 hB5 ht5 hv5 hl6 hN6
    go_wp2_with fail
    refine HNM.out.mono ?_
    rintro e w4 ⟨rfl, rfl⟩
    rw [HL5.out, HL6.out]
    go_wp2_with fail
    go_ret
    exact ⟨some ⟨bz, 0, .none⟩, _, by rw [HL5.out]; rfl, HN6.out, HGF.out, MakeP.or HO.out⟩
  · have hXe : X.length = Y.length := by omega
    have hc4 := HN2.out.cell X.length (by rw [spl_length (by omega)]; omega)
    have hf4 := HN2.out.free X.length
    have hN5 := write_row (v := c) HN2.out (hkl.trans hXe.symm) (by omega)
    rw [Nat.zero_add] at hN5
    generalize (spl cs' 0 ks).getD X.length 0 = old at *
    have hl5 : (spl cs' 0 (ks ++ [c])).length = cs'.length := spl_length (by simp [HKL.out]; omega)
    have hB5 : Buf (w2.setCell ⟨bz, X.length, .none⟩ (wd c)) (some ⟨bz, 0, .none⟩) (spl cs' 0 (ks ++ [c])) := HBN.out.spl hN5 (HKW.out.append (Words.one (by unfold B64; omega))) (by simp [HKL.out]; omega)
    have ht5 : (spl cs' 0 (ks ++ [c])).take (X.length + 1) = ks ++ [c] := by
      have := spl_zero (zs := cs') (ks := ks ++ [c]) (by simp [HKL.out]; omega)
      rwa [List.length_append, hkl, ← hXe] at this
    have hv5 : val (ks ++ [c]) = val X + val Y := by
      have := HKV.out
      rw [List.drop_zero, List.drop_zero, HEX.out, HY1.out.take, ← hXe, List.take_length] at this
      rw [val_snoc, hkl, ← hXe]
      exact this
    obtain ⟨hl6, hN6⟩ := Num.of_norm hB5 ht5 hv5 (by rw [hl5]; omega)
    have HNM := Lib.hid (nat_norm (some ⟨bz, 0, .none⟩) (X.length + 1) _ _ hB5 (by rw [hl5]; omega))
    rw [hl5] at HNM
    have HL5 := Lib.hid hl5
    have HL6 := Lib.hid hl6
    have HN6 := Lib.hid hN6
    have HGF := Lib.hid (grown_or (grown_none HG.out _) (p' := some ⟨bz, 0, .none⟩) (grown_trans HGW2.out (grown_set w2 bz X.length (wd c))) (MakeP.or HO.out))
    have m1 : (X.length : Int) < (X.length : Int) + 1 := by omega
    clear hxd2 hx2 hkl hGw2 hN5 hl5 hB5 ht5 hv5 hl6 hN6 hXe
    go_wp2_with fail
    refine HNM.out.mono ?_
    rintro e w4 ⟨rfl, rfl⟩
    rw [HL5.out, HL6.out]
    go_wp2_with fail
    go_ret
    exact ⟨some ⟨bz, 0, .none⟩, _, by rw [HL5.out]; rfl, HN6.out, HGF.out, MakeP.or HO.out⟩

set_option maxHeartbeats 1000000 in
set_option maxRecDepth 100000 in
/-- x + y, y without words -/
theorem nat_add_none (p q q2 : Option Addr) (l a : Nat) (cs ds es : List Nat) (w : World) (h : Buf w p cs) (hx : Num w q (dg a) ds) (hX : (dg a).length ≤ 80000) :
    Calls Tryz.prog 160 #[.slice p l cs.length, .slice q (dg a).length ds.length, .slice q2 0 es.length] w (NumP p (dg a) w) := by
  have HB := Lib.hid h
  have HX := Lib.hid hx
  have HP := Lib.hid h.shape
  by_cases h0 : a = 0
  · subst h0
    have K : NumP p (dg 0) w (.returned (.slice p 0 cs.length)) w := ⟨p, cs, by rw [dg_zero]; rfl, ⟨h, by rw [dg_zero]; rfl, by rw [dg_zero]; exact Nat.zero_le _⟩, grown_refl _ _, .inl rfl⟩
    have HK := Lib.hid K
    rw [dg_zero] at *
    clear h hx K hX
    rcases HP.out with rfl | ⟨b, rfl⟩
    all_goals
      go_enter Tryz.func160, Tryz.ntmps160
      go_wp2_with fail
      go_ret
      exact HK.out
  · have hl : 0 < (dg a).length := Nat.pos_of_ne_zero fun e => h0 (dg_eq_nil.1 (List.eq_nil_of_length_eq_zero e))
    have HS := Lib.hid (nat_set p q l cs (dg a) ds w h hx hX)
    clear h hx h0
    go_enter Tryz.func160, Tryz.ntmps160
    go_wp2_with fail
    refine HS.out.mono ?_
    rintro e w1 ⟨p', cs', rfl, hn⟩
    have HN := Lib.hid hn
    clear hn
    go_wp2_with fail
    go_ret
    exact ⟨p', cs', rfl, HN.out⟩

set_option maxHeartbeats 1000000 in
set_option maxRecDepth 100000 in
theorem nat_add (p q q2 : Option Addr) (l a b : Nat) (cs ds es : List Nat) (w : World) (h : Buf w p cs) (hx : Num w q (dg a) ds) (hy : Num w q2 (dg b) es) (hX : (dg a).length ≤ 80000) (hY : (dg b).length ≤ 80000) :
    Calls Tryz.prog 160 #[.slice p l cs.length, .slice q (dg a).length ds.length, .slice q2 (dg b).length es.length] w (NumP p (dg (a + b)) w) := by
  have long : ∀ (q q2 : Option Addr) (a b : Nat) (ds es : List Nat), Num w q (dg a) ds → Num w q2 (dg b) es → (dg a).length ≤ 80000 → (dg b).length ≤ (dg a).length →
      Calls Tryz.prog 160 #[.slice p l cs.length, .slice q (dg a).length ds.length, .slice q2 (dg b).length es.length] w (NumP p (dg (a + b)) w) := by
    intro q q2 a b ds es hx hy hX hle
    by_cases h0 : b = 0
    · subst h0
      rw [dg_zero]
      exact nat_add_none p q q2 l a cs ds es w h hx hX
    · have hl : 0 < (dg b).length := Nat.pos_of_ne_zero fun e => h0 (dg_eq_nil.1 (List.eq_nil_of_length_eq_zero e))
      have := nat_add_long p q q2 l cs (dg a) ds (dg b) es w h hx hy hX hle hl
      rwa [val_dg, val_dg] at this
  by_cases hlt : (dg a).length < (dg b).length
  · have H0 := long q2 q b a es ds hy hx hY (by omega)
    rw [Nat.add_comm b a] at H0
    have H := Lib.hid H0
    clear H0
    clear long h hx hy
    go_enter Tryz.func160, Tryz.ntmps160
    go_wp2_with fail
    refine H.out.mono ?_
    rintro e w1 ⟨p', cs', rfl, hn⟩
    have HN := Lib.hid hn
    clear hn
    go_wp2_with fail
    go_ret
    exact ⟨p', cs', rfl, HN.out⟩
  · exact long q q2 a b ds es hx hy hX (by omega)
end Go.Proofs.YtohhkjamddojmaaGreatDoor.Big

namespace Go.Proofs.YtohhkjamddojmaaGreatDoor.Big
open Go.RowKit

theorem sub_total {ks ks2 X Y : List Nat} {n m c c2 : Nat} (h1 : val ks + val Y = val (X.take n) + B64 ^ n * c) (h2 : val ks2 + c = val (X.drop n) + B64 ^ (m - n) * c2) (hk : ks.length = n) (hk2 : ks2.length = m - n) (hm : n ≤ m) (hX : n ≤ X.length)
    (hw : Words (ks ++ ks2)) (hc : c2 ≤ 1) (hle : val Y ≤ val X) : c2 = 0 ∧ val (ks ++ ks2) = val X - val Y := by
  have e : val X = val (X.take n) + B64 ^ n * val (X.drop n) := by
    conv => lhs; rw [← List.take_append_drop n X]
    rw [val_append, List.length_take, Nat.min_eq_left hX]
  have hlt := val_lt _ hw
  rw [List.length_append, hk, hk2, show n + (m - n) = m by omega] at hlt
  rw [val_append, hk] at *
  have e2 : B64 ^ m * c2 = B64 ^ n * (B64 ^ (m - n) * c2) := by rw [← Nat.mul_assoc, ← Nat.pow_add, show n + (m - n) = m by omega]
  have e3 : B64 ^ n * (val ks2 + c) = B64 ^ n * (val (X.drop n) + B64 ^ (m - n) * c2) := by rw [h2]
  rw [Nat.mul_add, Nat.mul_add] at e3
  have hc0 : c2 = 0 := by
    rcases Nat.le_one_iff_eq_zero_or_eq_one.1 hc with h | h
    · exact h
    · subst h; simp only [Nat.mul_one] at *; omega
  subst hc0
  rw [Nat.mul_zero] at *
  exact ⟨rfl, by omega⟩

set_option maxHeartbeats 1000000 in
set_option maxRecDepth 100000 in
/-- x - y, x the longer one, y not without words -/
theorem nat_sub_long (p q q2 : Option Addr) (l : Nat) (cs X ds Y es : List Nat) (w : World) (h : Buf w p cs) (hx : Num w q X ds) (hy : Num w q2 Y es) (hX : X.length ≤ 80000) (hXY : Y.length ≤ X.length) (hY0 : 0 < Y.length) (hle : val Y ≤ val X) :
    Calls Tryz.prog 161 #[.slice p l cs.length, .slice q X.length ds.length, .slice q2 Y.length es.length] w (NumP p (dg (val X - val Y)) w) := by
  have hxl := hx.le
  have hyl := hy.le
  have HLE := Lib.hid hle
  have HB := Lib.hid h
  have HX := Lib.hid hx
  have HY := Lib.hid hy
  clear h hx hy hle
  go_enter Tryz.func161, Tryz.ntmps161
  go_wp2_with fail
  refine (nat_make p l X.length cs w HB.out (by omega)).mono ?_
  rintro e w1 ⟨p', cs', rfl, hb, hn, hg, hor⟩
  obtain ⟨bz, rfl, hzN⟩ := hb.at (by omega)
  have hx1 := HX.out.kept hg (fun _ _ => by simp)
  have hy1 := HY.out.kept hg (fun _ _ => by simp)
  obtain ⟨bx, rfl, hxN, -⟩ := hx1.cell (by omega)
  obtain ⟨b2, rfl, hyN, -⟩ := hy1.cell (by omega)
  have ex : ds.take Y.length = X.take Y.length := by rw [← hx1.take, List.take_take, Nat.min_eq_left hXY]
  have H10 := Lib.hid (subVV bz 0 Y.length cs'.length bx 0 ds.length b2 0 es.length cs' ds es w1.drew hzN hxN hyN (by omega) (by omega) (by omega) hx1.buf.2.1 hy1.buf.2.1 (.inr (Nat.le_refl _)) (.inr (Nat.le_refl _)) (by omega))
  have HZN := Lib.hid hzN
  have HXN := Lib.hid hxN
  have HBN := Lib.hid hb
  have HX1 := Lib.hid hx1
  have HY1 := Lib.hid hy1
  have HG := Lib.hid hg
  have HO := Lib.hid hor
  have HEX := Lib.hid ex
  have hyn : (Y.length : Int) ≤ (cs'.length : Int) := by omega
  have hyn2 : (Y.length : Int) ≤ (ds.length : Int) := by omega
  have hyn3 : (Y.length : Int) ≤ (es.length : Int) := by omega
  clear hzN hxN hyN hb hx1 hy1 hg hor ex
  go_wp2_with fail
  go_region_with (go_at_call 182; refine H10.out.mono ?_; rintro e w2 ⟨ks, c, rfl, h2⟩; obtain ⟨hN2, hkl, hkw, hkv, hc, hG2⟩ := h2; have HN2 := Lib.hid hN2; have HKW := Lib.hid hkw; have HKV := Lib.hid hkv; have HG2 := Lib.hid hG2; clear hN2 hkw hkv hG2)
  obtain ⟨xs', hx2, hxw2, hxl2, hxd2⟩ := row_after HZN.out HXN.out (grown_trans (grown_drew _ _) HG2.out) HN2.out (by omega) HX1.out.buf.2.1 HKW.out
  rw [hkl] at hxd2
  have HXD := Lib.hid hxd2
  have HX2 := Lib.hid hx2
  have HKL := Lib.hid hkl
  have hGw2 := grown_trans (grown_drew w1 (some bz)) HG2.out
  have HGW2 := Lib.hid hGw2
  by_cases hgt : Y.length < X.length
  · have H12 := Lib.hid (subVW bz bx Y.length (X.length - Y.length) (cs'.length - Y.length) (ds.length - Y.length) _ xs' c w2.drew HN2.out hx2 (by rw [spl_length (by omega)]; omega) (by omega) hxw2 (by unfold B64; omega) (by omega) (by omega) (by omega) (by omega))
    have s1 : (Y.length : Int) ≤ (X.length : Int) := by omega
    have s2 : (X.length : Int) ≤ (cs'.length : Int) := by omega
    have s3 : (X.length : Int) ≤ (X.length : Int) := by omega
    have q1 : ¬ cs'.length = Y.length := by omega
    have q2 : ¬ ds.length = Y.length := by omega
    clear hxd2 hx2 hkl hGw2
    go_wp2_with fail
    go_region_with (go_at_call 183; refine H12.out.mono ?_; rintro e w3 ⟨ks2, c2, rfl, h3⟩; obtain ⟨hN3, hkl2, hkw2, hkv2, hc2, hG3⟩ := h3; have HN3 := Lib.hid hN3; have HKL2 := Lib.hid hkl2; have HKW2 := Lib.hid hkw2; have HKV2 := Lib.hid hkv2; have HG3 := Lib.hid hG3; clear hN3 hkl2 hkw2 hkv2 hG3)
    have hkl3 : (ks ++ ks2).length = X.length := by rw [List.length_append, HKL.out, HKL2.out]; omega
    have hN5 : NatB w3 bz (spl cs' 0 (ks ++ ks2)) := by
      have e := spl_spl (zs := cs') (ks := ks) (ds := ks2) (o := 0) HKL.out (by rw [HKL2.out]; omega)
      rw [Nat.zero_add] at e
      rw [← e]; exact HN3.out
    have hl5 : (spl cs' 0 (ks ++ ks2)).length = cs'.length := spl_length (by omega)
    have hB5 : Buf w3 (some ⟨bz, 0, .none⟩) (spl cs' 0 (ks ++ ks2)) := HBN.out.spl hN5 (HKW.out.append HKW2.out) (by omega)
    have ht5 : (spl cs' 0 (ks ++ ks2)).take X.length = ks ++ ks2 := by
      have := spl_zero (zs := cs') (ks := ks ++ ks2) (by omega)
      rwa [hkl3] at this
    obtain ⟨hc0, hv5⟩ : c2 = 0 ∧ val (ks ++ ks2) = val X - val Y := by
      refine sub_total (X := X) (Y := Y) (m := X.length) (c := c) ?_ ?_ HKL.out HKL2.out (by omega) (by omega) (HKW.out.append HKW2.out) hc2 HLE.out
      · have := HKV.out
        rw [List.drop_zero, List.drop_zero, HEX.out, HY1.out.take] at this
        exact this
      · have := HKV2.out
        rw [HXD.out] at this
        rw [this, ← List.drop_take, HX1.out.take]
    subst hc0
    obtain ⟨hl6, hN6⟩ := Num.of_norm hB5 ht5 hv5 (by rw [hl5]; omega)
    have HNM := Lib.hid (nat_norm (some ⟨bz, 0, .none⟩) X.length _ _ hB5 (by rw [hl5]; omega))
    rw [hl5] at HNM
    have HL5 := Lib.hid hl5
    have HL6 := Lib.hid hl6
    have HN6 := Lib.hid hN6
    have HGF := Lib.hid (grown_or (grown_none HG.out _) (p' := some ⟨bz, 0, .none⟩) (grown_trans HGW2.out (grown_trans (grown_drew _ _) HG3.out)) (MakeP.or HO.out))
    clear hkl3 hN5 hl5 hB5 ht5 hv5 hl6 hN6
    go_wp2_with fail
    refine HNM.out.mono ?_
    rintro e w4 ⟨rfl, rfl⟩
    rw [HL5.out, HL6.out]
    go_wp2_with fail
    go_ret
    exact ⟨some ⟨bz, 0, .none⟩, _, by rw [HL5.out]; rfl, HN6.out, HGF.out, MakeP.or HO.out⟩
  · have hXe : X.length = Y.length := by omega
    have hl5 : (spl cs' 0 ks).length = cs'.length := spl_length (by omega)
    have hB5 : Buf w2 (some ⟨bz, 0, .none⟩) (spl cs' 0 ks) := HBN.out.spl HN2.out HKW.out (by omega)
    have ht5 : (spl cs' 0 ks).take X.length = ks := by
      have := spl_zero (zs := cs') (ks := ks) (by omega)
      rwa [hkl, ← hXe] at this
    obtain ⟨hc0, hv5⟩ : c = 0 ∧ val ks = val X - val Y := by
      have := sub_total (ks := ks) (ks2 := []) (X := X) (Y := Y) (n := X.length) (m := X.length) (c := c) (c2 := c) (by
        have := HKV.out
        rw [List.drop_zero, List.drop_zero, HEX.out, HY1.out.take, ← hXe, List.take_length] at this
        rw [List.take_length]; exact this) (by simp [val]) (by omega) (by simp) (Nat.le_refl _) (Nat.le_refl _) (by simpa using HKW.out) hc HLE.out
      simpa using this
    subst hc0
    obtain ⟨hl6, hN6⟩ := Num.of_norm hB5 ht5 hv5 (by rw [hl5]; omega)
    have HNM := Lib.hid (nat_norm (some ⟨bz, 0, .none⟩) X.length _ _ hB5 (by rw [hl5]; omega))
    rw [hl5] at HNM
    have HL5 := Lib.hid hl5
    have HL6 := Lib.hid hl6
    have HN6 := Lib.hid hN6
    have HGF := Lib.hid (grown_or (grown_none HG.out _) (p' := some ⟨bz, 0, .none⟩) HGW2.out (MakeP.or HO.out))
    clear hxd2 hx2 hkl hGw2 hl5 hB5 ht5 hv5 hl6 hN6 hXe
    go_wp2_with fail
    refine HNM.out.mono ?_
    rintro e w4 ⟨rfl, rfl⟩
    rw [HL5.out, HL6.out]
    go_wp2_with fail
    go_ret
    exact ⟨some ⟨bz, 0, .none⟩, _, by rw [HL5.out]; rfl, HN6.out, HGF.out, MakeP.or HO.out⟩

set_option maxHeartbeats 1000000 in
set_option maxRecDepth 100000 in
/-- x - y, y without words -/
theorem nat_sub_none (p q q2 : Option Addr) (l a : Nat) (cs ds es : List Nat) (w : World) (h : Buf w p cs) (hx : Num w q (dg a) ds) (hX : (dg a).length ≤ 80000) :
    Calls Tryz.prog 161 #[.slice p l cs.length, .slice q (dg a).length ds.length, .slice q2 0 es.length] w (NumP p (dg a) w) := by
  have HB := Lib.hid h
  have HX := Lib.hid hx
  have HP := Lib.hid h.shape
  by_cases h0 : a = 0
  · subst h0
    have K : NumP p (dg 0) w (.returned (.slice p 0 cs.length)) w := ⟨p, cs, by rw [dg_zero]; rfl, ⟨h, by rw [dg_zero]; rfl, by rw [dg_zero]; exact Nat.zero_le _⟩, grown_refl _ _, .inl rfl⟩
    have HK := Lib.hid K
    rw [dg_zero] at *
    clear h hx K hX
    rcases HP.out with rfl | ⟨b, rfl⟩
    all_goals
      go_enter Tryz.func161, Tryz.ntmps161
      go_wp2_with fail
      go_ret
      exact HK.out
  · have hl : 0 < (dg a).length := Nat.pos_of_ne_zero fun e => h0 (dg_eq_nil.1 (List.eq_nil_of_length_eq_zero e))
    have HS := Lib.hid (nat_set p q l cs (dg a) ds w h hx hX)
    clear h hx h0
    go_enter Tryz.func161, Tryz.ntmps161
    go_wp2_with fail
    refine HS.out.mono ?_
    rintro e w1 ⟨p', cs', rfl, hn⟩
    have HN := Lib.hid hn
    clear hn
    go_wp2_with fail
    go_ret
    exact ⟨p', cs', rfl, HN.out⟩

theorem nat_sub (p q q2 : Option Addr) (l a b : Nat) (cs ds es : List Nat) (w : World) (h : Buf w p cs) (hx : Num w q (dg a) ds) (hy : Num w q2 (dg b) es) (hX : (dg a).length ≤ 80000) (hle : b ≤ a) :
    Calls Tryz.prog 161 #[.slice p l cs.length, .slice q (dg a).length ds.length, .slice q2 (dg b).length es.length] w (NumP p (dg (a - b)) w) := by
  by_cases h0 : b = 0
  · subst h0
    rw [dg_zero]
    exact nat_sub_none p q q2 l a cs ds es w h hx hX
  · have hl : 0 < (dg b).length := Nat.pos_of_ne_zero fun e => h0 (dg_eq_nil.1 (List.eq_nil_of_length_eq_zero e))
    have := nat_sub_long p q q2 l cs (dg a) ds (dg b) es w h hx hy hX (by rw [dg_length]; exact Nat.lt_of_le_of_lt hle (dg_length.1 (Nat.le_refl _))) hl (by rw [val_dg, val_dg]; exact hle)
    rwa [val_dg, val_dg] at this
end Go.Proofs.YtohhkjamddojmaaGreatDoor.Big

namespace Go.Proofs.YtohhkjamddojmaaGreatDoor.Big
open Go.RowKit

/-- -1, 0, 1 -/
def sgn (a b : Nat) : Int := if a < b then -1 else if b < a then 1 else 0

theorem dg_lt {a b : Nat} (h : (dg a).length < (dg b).length) : a < b := by
  have h1 : a < B64 ^ (dg a).length := dg_length.1 (Nat.le_refl _)
  have hb : b ≠ 0 := fun e => by rw [e, dg_zero] at h; simp at h
  have h2 := dg_last hb
  exact Nat.lt_of_lt_of_le h1 (Nat.le_trans (Nat.pow_le_pow_right B64_pos (by omega)) h2)
theorem val_at {X : List Nat} {k : Nat} (h : k < X.length) : val X = val (X.take k) + B64 ^ k * (X.getD k 0 + B64 * val (X.drop (k + 1))) := by
  conv => lhs; rw [← List.take_append_drop (k + 1) X]
  rw [val_append, take_snoc _ _ h, val_snoc, List.length_append, List.length_take, Nat.min_eq_left (by omega), List.length_singleton, Nat.mul_add, Nat.pow_succ, Nat.mul_assoc]
  omega
theorem val_lt_at {X Y : List Nat} {k : Nat} (hw : Words X) (hl : X.length = Y.length) (h : k < X.length) (he : X.drop (k + 1) = Y.drop (k + 1)) (hlt : X.getD k 0 < Y.getD k 0) : val X < val Y := by
  rw [val_at h, val_at (by omega : k < Y.length), he]
  have h1 := val_lt _ (hw.take k)
  rw [List.length_take, Nat.min_eq_left (by omega)] at h1
  have h2 : B64 ^ k * (X.getD k 0 + B64 * val (Y.drop (k + 1)) + 1) ≤ B64 ^ k * (Y.getD k 0 + B64 * val (Y.drop (k + 1))) := Nat.mul_le_mul_left _ (by omega)
  rw [Nat.mul_add, Nat.mul_one] at h2
  omega
theorem drop_step {X Y : List Nat} {k : Nat} (hl : X.length = Y.length) (h : k < X.length) (he : X.drop (k + 1) = Y.drop (k + 1)) (hx : X.getD k 0 = Y.getD k 0) : X.drop k = Y.drop k := by
  rw [List.drop_eq_getElem_cons h, List.drop_eq_getElem_cons (by omega : k < Y.length), he]
  have hx2 : X[k] = Y[k]'(by omega) := by simpa [List.getD, h, (by omega : k < Y.length)] using hx
  rw [hx2]

theorem drewN_drewN (w : World) (a b : Nat) : (w.drewN a).drewN b = w.drewN (a + b) := by simp [World.drewN, Nat.add_assoc]
/-- the ending and the world of 'cmp' -/
def CmpP (r : Int) (w : World) (e : Ending) (w' : World) : Prop := e = .returned (.int .i64 r) ∧ ∃ n, w' = w.drewN n

set_option maxHeartbeats 1000000 in
set_option maxRecDepth 100000 in
theorem nat_cmp (q q2 : Option Addr) (a b : Nat) (ds es : List Nat) (w : World) (hx : Num w q (dg a) ds) (hy : Num w q2 (dg b) es) (hX : (dg a).length ≤ 80000) :
    Calls Tryz.prog 131 #[.slice q (dg a).length ds.length, .slice q2 (dg b).length es.length] w (CmpP (sgn a b) w) := by
  rcases Nat.lt_trichotomy (dg a).length (dg b).length with hl | hl | hl
  · have K : sgn a b = -1 := by unfold sgn; rw [if_pos (dg_lt hl)]
    rw [K]
    clear hx hy K
    go_enter Tryz.func131, Tryz.ntmps131
    go_wp2_with fail
    go_ret
    exact ⟨rfl, 0, rfl⟩
  · by_cases h0 : (dg a).length = 0
    · have ea : a = 0 := dg_eq_nil.1 (List.eq_nil_of_length_eq_zero h0)
      have eb : b = 0 := dg_eq_nil.1 (List.eq_nil_of_length_eq_zero (hl ▸ h0))
      subst ea eb
      have K : sgn 0 0 = 0 := rfl
      rw [K, dg_zero]
      clear hx hy K hl h0 hX
      go_enter Tryz.func131, Tryz.ntmps131
      go_wp2_with fail
      go_ret
      exact ⟨rfl, 0, rfl⟩
    · obtain ⟨bx, rfl, hxN, hxc⟩ := hx.cell (by omega)
      obtain ⟨by', rfl, hyN, hyc⟩ := hy.cell (by omega)
      have HXC := Lib.hid hxc
      have HYC := Lib.hid hyc
      have HL := Lib.hid hl
      have hlx := hx.le
      have hly := hy.le
      have hxl : (dg b).length = (dg a).length := hl.symm
      have HWX := Lib.hid (dg_words a)
      have HWY := Lib.hid (dg_words b)
      have HVX := Lib.hid (val_dg a)
      have HVY := Lib.hid (val_dg b)
      clear hx hy hxc hyc hxN hyN hl
      rw [hxl]
      generalize dg a = X at *
      generalize dg b = Y at *
      clear hxl
      have hz : ((X.length : Int) == 0) = false := by rw [beq_eq_false_iff_ne]; omega
      go_enter Tryz.func131, Tryz.ntmps131
      go_wp2_with fail
      go_loopw [7] (fun i wr => ∃ k : Nat, k < X.length ∧ i = .int .i64 k ∧ RowKit.Hid (X.drop (k + 1) = Y.drop (k + 1)) ∧ ∃ j, wr = w.drewN j) (fun i _ => (intOf i).toNat)
      case atStart => exact ⟨X.length - 1, by omega, by go_num, by rw [List.drop_eq_nil_of_le (by omega), List.drop_eq_nil_of_le (by have := HL.out; omega)]; exact rfl, 0, rfl⟩
      case round =>
        obtain ⟨k, hk, rfl, HD, j, rfl⟩ := hrel
        have hxk := HXC.out k hk
        have hyk := HYC.out k (by have := HL.out; omega)
        have hkd : k < ds.length := by omega
        have hke : k < es.length := by have := HL.out; omega
        have HLT := Lib.hid (val_lt_at HWX.out HL.out hk HD.out)
        have HGT := Lib.hid (val_lt_at HWY.out HL.out.symm (by have := HL.out; omega) HD.out.symm)
        have HST := Lib.hid (drop_step HL.out hk HD.out)
        have HYK : k < Y.length := by have := HL.out; omega
        generalize X.getD k 0 = x at *
        generalize Y.getD k 0 = y at *
        rcases Nat.lt_trichotomy x y with hxy | hxy | hxy
        · have K : sgn a b = -1 := by unfold sgn; rw [if_pos]; rw [← HVX.out, ← HVY.out]; exact HLT.out hxy
          have e1 : ((x : Int) == (y : Int)) = false := by rw [beq_eq_false_iff_ne]; omega
          have e2 : (x : Int) < (y : Int) := by omega
          have HK := Lib.hid K
          clear K hxy
          by_cases hk0 : k = 0
          · subst hk0
            go_wp2_with fail
            go_quiet (fail)
            go_wp2_with fail
            go_quiet (fail)
            go_wp2_with fail
            go_ret
            exact ⟨by rw [HK.out]; rfl, _, by rw [drewN_drewN, drewN_drewN]⟩
          · have ek : 0 < k := by omega
            go_wp2_with fail
            go_quiet (fail)
            go_wp2_with fail
            go_quiet (fail)
            go_wp2_with fail
            go_ret
            exact ⟨by rw [HK.out]; rfl, _, by rw [drewN_drewN, drewN_drewN]⟩
        · have HE := Lib.hid (HST.out hxy)
          subst hxy
          have e2 : ¬ (x : Int) < (x : Int) := by omega
          by_cases hk0 : k = 0
          · subst hk0
            have K : sgn a b = 0 := by
              have h : a = b := by
                rw [← HVX.out, ← HVY.out]
                have := HE.out
                rw [List.drop_zero, List.drop_zero] at this
                rw [this]
              subst h; unfold sgn; simp
            have HK := Lib.hid K
            clear K
            go_wp2_with fail
            go_quiet (fail)
            go_wp2_with fail
            go_quiet (fail)
            go_wp2_with fail
            go_quiet (fail)
            go_wp2_with fail
            go_ret
            exact ⟨by rw [HK.out]; rfl, _, by rw [drewN_drewN, drewN_drewN, drewN_drewN]⟩
          · have ek : 0 < k := by omega
            go_wp2_with fail
            go_quiet (fail)
            go_wp2_with fail
            go_roundw
            case rel => exact ⟨k - 1, by omega, by go_num, by rw [Nat.sub_add_cancel (by omega)]; exact HE.out, _, rfl⟩
            case measure => simp [intOf]; omega
        · have K : sgn a b = 1 := by
            have h := HGT.out hxy
            rw [HVX.out, HVY.out] at h
            unfold sgn; rw [if_neg (by omega), if_pos h]
          have e1 : ((x : Int) == (y : Int)) = false := by rw [beq_eq_false_iff_ne]; omega
          have e2 : (y : Int) < (x : Int) := by omega
          have e3 : ¬ (x : Int) < (y : Int) := by omega
          have HK := Lib.hid K
          clear K hxy
          by_cases hk0 : k = 0
          · subst hk0
            go_wp2_with fail
            go_quiet (fail)
            go_wp2_with fail
            go_quiet (fail)
            go_wp2_with fail
            go_quiet (fail)
            go_wp2_with fail
            go_ret
            exact ⟨by rw [HK.out]; rfl, _, by rw [drewN_drewN, drewN_drewN, drewN_drewN]⟩
          · have ek : 0 < k := by omega
            go_wp2_with fail
            go_quiet (fail)
            go_wp2_with fail
            go_quiet (fail)
            go_wp2_with fail
            go_quiet (fail)
            go_wp2_with fail
            go_ret
            exact ⟨by rw [HK.out]; rfl, _, by rw [drewN_drewN, drewN_drewN, drewN_drewN]⟩
  · have K : sgn a b = 1 := by unfold sgn; have := dg_lt hl; rw [if_neg (by omega), if_pos this]
    rw [K]
    clear hx hy K
    go_enter Tryz.func131, Tryz.ntmps131
    go_wp2_with fail
    go_ret
    exact ⟨rfl, 0, rfl⟩
end Go.Proofs.YtohhkjamddojmaaGreatDoor.Big

namespace Go.Proofs.YtohhkjamddojmaaGreatDoor.Big
open Go.RowKit

theorem NumP.of_eq {p : Option Addr} {L M : List Nat} {w : World} {e : Ending} {w' : World} (h : L = M) (k : NumP p L w e w') : NumP p M w e w' := h ▸ k

set_option maxHeartbeats 1000000 in
set_option maxRecDepth 100000 in
theorem nat_mulAddWW (p q : Option Addr) (l a y r : Nat) (cs ds : List Nat) (w : World) (h : Buf w p cs) (hx : Num w q (dg a) ds) (hX : (dg a).length ≤ 80000) (hy : y < B64) (hr : r < B64) :
    Calls Tryz.prog 205 #[.slice p l cs.length, .slice q (dg a).length ds.length, wd y, wd r] w (NumP p (dg (a * y + r)) w) := by
  by_cases h0 : a = 0 ∨ y = 0
  · have e : a * y + r = r := by rcases h0 with rfl | rfl <;> simp
    have HS := Lib.hid (nat_setWord p l r cs w h hr)
    rw [e, dg_one hr]
    rcases h0 with rfl | rfl
    · rw [dg_zero] at *
      clear h hx hX hy hr e
      go_enter Tryz.func205, Tryz.ntmps205
      go_wp2_with fail
      refine HS.out.mono ?_
      rintro e w1 ⟨p', cs', rfl, hn⟩
      have HN := Lib.hid hn
      clear hn
      go_wp2_with fail
      go_ret
      exact ⟨p', cs', rfl, HN.out⟩
    · generalize dg a = X at *
      clear h hx hy hr e
      go_enter Tryz.func205, Tryz.ntmps205
      go_wp2_with fail
      all_goals
        refine HS.out.mono ?_
        rintro e w1 ⟨p', cs', rfl, hn⟩
        have HN := Lib.hid hn
        clear hn
        go_wp2_with fail
        go_ret
        exact ⟨p', cs', rfl, HN.out⟩
  · have ha : a ≠ 0 := fun e => h0 (.inl e)
    have hy0 : y ≠ 0 := fun e => h0 (.inr e)
    have hl : 0 < (dg a).length := Nat.pos_of_ne_zero fun e => ha (dg_eq_nil.1 (List.eq_nil_of_length_eq_zero e))
    have HV := Lib.hid (val_dg a)
    have hxl := hx.le
    have HB := Lib.hid h
    have HX := Lib.hid hx
    have HY := Lib.hid hy
    have HR := Lib.hid hr
    have hz1 : (((dg a).length : Int) == 0) = false := by rw [beq_eq_false_iff_ne]; omega
    have hz2 : ((y : Int) == 0) = false := by rw [beq_eq_false_iff_ne]; omega
    clear h hx h0 ha hy0 hy hr
    generalize dg a = X at *
    go_enter Tryz.func205, Tryz.ntmps205
    go_wp2_with fail
    refine (nat_make p l (X.length + 1) cs w HB.out (by omega)).mono ?_
    rintro e w1 ⟨p', cs', rfl, hb, hn, hg, hor⟩
    obtain ⟨bz, rfl, hzN⟩ := hb.at (by omega)
    have hx1 := HX.out.kept hg (fun _ _ => by simp)
    obtain ⟨bx, rfl, hxN, -⟩ := hx1.cell (by omega)
    have H10 := Lib.hid (mulAddVWW bz 0 X.length cs'.length bx 0 ds.length cs' ds y r w1 hzN hxN (by omega) (by omega) hx1.buf.2.1 HY.out HR.out (.inr (Nat.le_refl _)) (by omega))
    have HBN := Lib.hid hb
    have HX1 := Lib.hid hx1
    have HG := Lib.hid hg
    have HO := Lib.hid hor
    have hyn : (X.length : Int) ≤ (cs'.length : Int) := by omega
    clear hzN hxN hb hx1 hg hor
    go_wp2_with fail
    refine H10.out.mono ?_
    rintro e w2 ⟨ks, c, rfl, hN2, hkl, hkw, hkv, hc, hG2⟩
    have hc4 := hN2.cell X.length (by rw [spl_length (by omega)]; omega)
    have hf4 := hN2.free X.length
    have hN5 := write_row (v := c) hN2 hkl (by omega)
    rw [Nat.zero_add] at hN5
    generalize (spl cs' 0 ks).getD X.length 0 = old at *
    have hl5 : (spl cs' 0 (ks ++ [c])).length = cs'.length := spl_length (by simp; omega)
    have hB5 : Buf (w2.setCell ⟨bz, X.length, .none⟩ (wd c)) (some ⟨bz, 0, .none⟩) (spl cs' 0 (ks ++ [c])) := HBN.out.spl hN5 (hkw.append (Words.one hc)) (by simp; omega)
    have ht5 : (spl cs' 0 (ks ++ [c])).take (X.length + 1) = ks ++ [c] := by
      have := spl_zero (zs := cs') (ks := ks ++ [c]) (by simp; omega)
      rwa [List.length_append, hkl] at this
    have hv5 : val (ks ++ [c]) = a * y + r := by
      rw [List.drop_zero, HX1.out.take, HV.out] at hkv
      rw [val_snoc, hkl]
      exact hkv
    obtain ⟨hl6, hN6⟩ := Num.of_norm hB5 ht5 hv5 (by rw [hl5]; omega)
    have HNM := Lib.hid (nat_norm (some ⟨bz, 0, .none⟩) (X.length + 1) _ _ hB5 (by rw [hl5]; omega))
    rw [hl5] at HNM
    have HL5 := Lib.hid hl5
    have HL6 := Lib.hid hl6
    have HN6 := Lib.hid hN6
    have HGF := Lib.hid (grown_or (grown_none HG.out _) (p' := some ⟨bz, 0, .none⟩) (grown_trans hG2 (grown_set w2 bz X.length (wd c))) (MakeP.or HO.out))
    have m1 : (X.length : Int) < (X.length : Int) + 1 := by omega
    clear hkl hN5 hl5 hB5 ht5 hv5 hl6 hN6 hN2 hkw hkv hc hG2
    go_wp2_with fail
    refine HNM.out.mono ?_
    rintro e w4 ⟨rfl, rfl⟩
    rw [HL5.out, HL6.out]
    go_wp2_with fail
    go_ret
    exact ⟨some ⟨bz, 0, .none⟩, _, by rw [HL5.out]; rfl, HN6.out, HGF.out, MakeP.or HO.out⟩
end Go.Proofs.YtohhkjamddojmaaGreatDoor.Big
