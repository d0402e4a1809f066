/- Powers modulo a word, for every exponent of a word. -/
import Derived.Test.YtohhkjamddojmaaGreatDoorXA
namespace Go.Proofs.YtohhkjamddojmaaGreatDoor.Big
open Go.RowKit
attribute [local go_sem] ptr

set_option maxHeartbeats 2000000 in
set_option maxRecDepth 100000 in
theorem expNN_oneA0 (p px py pm : Option Addr) (l e m : Nat) (cs dx dy dm : List Nat) (w : World) (h : Buf w p cs) (hx : Num w px (dg 0) dx) (hy : Num w py (dg e) dy) (hm : Num w pm (dg m) dm) (hal : al p px cs = false) (hal2 : al p py cs = false) (he : e < B64) (he2 : 1 ≤ e) (hmB : m < B64) (hm2 : 2 ≤ m) :
    Calls Tryz.prog 179 #[.slice p l cs.length, .pointer .none, .slice px (dg 0).length dx.length, .slice py (dg e).length dy.length, .slice pm (dg m).length dm.length, .bool false] w (NumP p (dg (0 ^ e % m)) w) := by
  have hlm : (dg m).length = 1 := by rw [dg_one hmB]; unfold word1; rw [if_neg (by omega)]; rfl
  have hle : (dg e).length = 1 := by rw [dg_one he]; unfold word1; rw [if_neg (by omega)]; rfl
  obtain ⟨bm, rfl, -, hmc⟩ := hm.cell (by omega)
  have hmc := hmc 0 (by omega)
  rw [(dg_of_one hlm).1] at hmc
  have hcm := hm.le
  rw [hlm] at hcm
  rw [hlm, hle]
  have hal1 := nat_alias p px l 0 cs dx w h hx.buf
  rw [hal] at hal1
  have HA1 := Lib.hid hal1
  rw [show (dg 0).length = 0 by rw [dg_zero]; rfl]
  have hr : 0 ^ e % m = 0 := by rw [Nat.zero_pow (by omega)]; exact Nat.zero_mod _
  have hal3 := fun n => nat_alias p py l 1 cs dy (w.drewN n) (h.kept (grown_drewN _ _ .none) (fun _ _ => by simp)) (hy.buf.kept (grown_drewN _ _ .none) (fun _ _ => by simp))
  rw [hal2] at hal3
  have HA2 := Lib.hid hal3
  have HB := Lib.hid (show Buf w p cs from h)
  rw [hr]
  have hm1 : ((m : Int) == 1) = false := by rw [beq_eq_false_iff_ne]; omega
  clear h hx hy hm hal hal1 he he2 hmB hm2 hlm hle hr hal2 hal3
  go_enter_defers Tryz.func179, Tryz.ntmps179
  go_wp2_with fail
  refine HA1.out.mono ?_
  rintro en w1 ⟨rfl, n1, rfl⟩
  go_wp2_with fail
  refine (HA2.out n1).mono ?_
  rintro en w2 ⟨rfl, n2, rfl⟩
  go_wp2_with fail
  refine (nat_setWord p l 0 cs (w.drewN (n1 + n2)) (HB.out.kept (grown_drewN _ _ .none) (fun _ _ => by simp)) (by decide)).mono ?_
  rintro en w3 ⟨p', cs', rfl, hn, hg, hf⟩
  have HN := Lib.hid hn
  have HG := Lib.hid hg
  have HF := Lib.hid hf
  clear hn hg hf
  go_wp2_with fail
  refine ⟨_, results_tmp rfl _ _ _, ?_⟩
  have e1 : word1 0 = dg 0 := (dg_one (by decide)).symm
  rw [← e1]
  exact ⟨p', cs', rfl, HN.out, grown_trans (grown_drewN _ _ _) HG.out, HF.out⟩

set_option maxHeartbeats 2000000 in
set_option maxRecDepth 100000 in
theorem expNN_oneA1 (p px py pm : Option Addr) (l e m : Nat) (cs dx dy dm : List Nat) (w : World) (h : Buf w p cs) (hx : Num w px (dg 1) dx) (hy : Num w py (dg e) dy) (hm : Num w pm (dg m) dm) (hal : al p px cs = false) (hal2 : al p py cs = false) (he : e < B64) (he2 : 1 ≤ e) (hmB : m < B64) (hm2 : 2 ≤ m) :
    Calls Tryz.prog 179 #[.slice p l cs.length, .pointer .none, .slice px (dg 1).length dx.length, .slice py (dg e).length dy.length, .slice pm (dg m).length dm.length, .bool false] w (NumP p (dg (1 ^ e % m)) w) := by
  have hlm : (dg m).length = 1 := by rw [dg_one hmB]; unfold word1; rw [if_neg (by omega)]; rfl
  have hle : (dg e).length = 1 := by rw [dg_one he]; unfold word1; rw [if_neg (by omega)]; rfl
  obtain ⟨bm, rfl, -, hmc⟩ := hm.cell (by omega)
  have hmc := hmc 0 (by omega)
  rw [(dg_of_one hlm).1] at hmc
  have hcm := hm.le
  rw [hlm] at hcm
  rw [hlm, hle]
  have hal1 := nat_alias p px l 1 cs dx w h hx.buf
  rw [hal] at hal1
  have HA1 := Lib.hid hal1
  obtain ⟨bx, rfl, -, hxc⟩ := hx.cell (by rw [dg_one_one]; decide)
  have hxc := hxc 0 (by rw [dg_one_one]; decide)
  have hcx := hx.le
  rw [dg_one_one] at hxc hcx
  rw [show (dg 1).length = 1 by rw [dg_one_one]; rfl]
  have hr : 1 ^ e % m = 1 := by rw [Nat.one_pow]; exact Nat.mod_eq_of_lt (by omega)
  have hal3 := fun n => nat_alias p py l 1 cs dy (w.drewN n) (h.kept (grown_drewN _ _ .none) (fun _ _ => by simp)) (hy.buf.kept (grown_drewN _ _ .none) (fun _ _ => by simp))
  rw [hal2] at hal3
  have HA2 := Lib.hid hal3
  have HB := Lib.hid (show Buf w p cs from h)
  rw [hr]
  have hm1 : ((m : Int) == 1) = false := by rw [beq_eq_false_iff_ne]; omega
  clear h hx hy hm hal hal1 he he2 hmB hm2 hlm hle hr hal2 hal3
  go_enter_defers Tryz.func179, Tryz.ntmps179
  go_wp2_with fail
  refine HA1.out.mono ?_
  rintro en w1 ⟨rfl, n1, rfl⟩
  go_wp2_with fail
  refine (HA2.out n1).mono ?_
  rintro en w2 ⟨rfl, n2, rfl⟩
  go_wp2_with fail
  refine (nat_setWord p l 1 cs (w.drewN (n1 + n2)) (HB.out.kept (grown_drewN _ _ .none) (fun _ _ => by simp)) (by decide)).mono ?_
  rintro en w3 ⟨p', cs', rfl, hn, hg, hf⟩
  have HN := Lib.hid hn
  have HG := Lib.hid hg
  have HF := Lib.hid hf
  clear hn hg hf
  go_wp2_with fail
  refine ⟨_, results_tmp rfl _ _ _, ?_⟩
  have e1 : word1 1 = dg 1 := (dg_one (by decide)).symm
  rw [← e1]
  exact ⟨p', cs', rfl, HN.out, grown_trans (grown_drewN _ _ _) HG.out, HF.out⟩

set_option maxHeartbeats 2000000 in
set_option maxRecDepth 100000 in
theorem expNN_oneB0 (p px py pm : Option Addr) (l e m : Nat) (cs dx dy dm : List Nat) (w : World) (h : Buf w p cs) (hx : Num w px (dg 0) dx) (_hy : Num w py (dg e) dy) (hm : Num w pm (dg m) dm) (hal : al p px cs = true) (he : e < B64) (he2 : 1 ≤ e) (hmB : m < B64) (hm2 : 2 ≤ m) :
    Calls Tryz.prog 179 #[.slice p l cs.length, .pointer .none, .slice px (dg 0).length dx.length, .slice py (dg e).length dy.length, .slice pm (dg m).length dm.length, .bool false] w (NumP p (dg (0 ^ e % m)) w) := by
  have hlm : (dg m).length = 1 := by rw [dg_one hmB]; unfold word1; rw [if_neg (by omega)]; rfl
  have hle : (dg e).length = 1 := by rw [dg_one he]; unfold word1; rw [if_neg (by omega)]; rfl
  obtain ⟨bm, rfl, -, hmc⟩ := hm.cell (by omega)
  have hmc := hmc 0 (by omega)
  rw [(dg_of_one hlm).1] at hmc
  have hcm := hm.le
  rw [hlm] at hcm
  rw [hlm, hle]
  have hal1 := nat_alias p px l 0 cs dx w h hx.buf
  rw [hal] at hal1
  have HA1 := Lib.hid hal1
  rw [show (dg 0).length = 0 by rw [dg_zero]; rfl]
  have hr : 0 ^ e % m = 0 := by rw [Nat.zero_pow (by omega)]; exact Nat.zero_mod _
  have HB := Lib.hid (show Buf w .none [] from Buf.nil w)
  rw [hr]
  have hm1 : ((m : Int) == 1) = false := by rw [beq_eq_false_iff_ne]; omega
  clear h hx _hy hm hal hal1 he he2 hmB hm2 hlm hle hr
  go_enter_defers Tryz.func179, Tryz.ntmps179
  go_wp2_with fail
  refine HA1.out.mono ?_
  rintro en w1 ⟨rfl, n1, rfl⟩
  go_wp2_with fail
  refine (nat_setWord .none 0 0 [] (w.drewN n1) (HB.out.kept (grown_drewN _ _ .none) (fun _ _ => by simp)) (by decide)).mono ?_
  rintro en w3 ⟨p', cs', rfl, hn, hg, hf⟩
  have HN := Lib.hid hn
  have HG := Lib.hid hg
  have HF := Lib.hid hf
  clear hn hg hf
  go_wp2_with fail
  refine ⟨_, results_tmp rfl _ _ _, ?_⟩
  have e1 : word1 0 = dg 0 := (dg_one (by decide)).symm
  rw [← e1]
  exact NumP.from_none (p := p) ⟨p', cs', rfl, HN.out, grown_trans (grown_drewN _ _ _) HG.out, HF.out⟩

set_option maxHeartbeats 2000000 in
set_option maxRecDepth 100000 in
theorem expNN_oneB1 (p px py pm : Option Addr) (l e m : Nat) (cs dx dy dm : List Nat) (w : World) (h : Buf w p cs) (hx : Num w px (dg 1) dx) (_hy : Num w py (dg e) dy) (hm : Num w pm (dg m) dm) (hal : al p px cs = true) (he : e < B64) (he2 : 1 ≤ e) (hmB : m < B64) (hm2 : 2 ≤ m) :
    Calls Tryz.prog 179 #[.slice p l cs.length, .pointer .none, .slice px (dg 1).length dx.length, .slice py (dg e).length dy.length, .slice pm (dg m).length dm.length, .bool false] w (NumP p (dg (1 ^ e % m)) w) := by
  have hlm : (dg m).length = 1 := by rw [dg_one hmB]; unfold word1; rw [if_neg (by omega)]; rfl
  have hle : (dg e).length = 1 := by rw [dg_one he]; unfold word1; rw [if_neg (by omega)]; rfl
  obtain ⟨bm, rfl, -, hmc⟩ := hm.cell (by omega)
  have hmc := hmc 0 (by omega)
  rw [(dg_of_one hlm).1] at hmc
  have hcm := hm.le
  rw [hlm] at hcm
  rw [hlm, hle]
  have hal1 := nat_alias p px l 1 cs dx w h hx.buf
  rw [hal] at hal1
  have HA1 := Lib.hid hal1
  obtain ⟨bx, rfl, -, hxc⟩ := hx.cell (by rw [dg_one_one]; decide)
  have hxc := hxc 0 (by rw [dg_one_one]; decide)
  have hcx := hx.le
  rw [dg_one_one] at hxc hcx
  rw [show (dg 1).length = 1 by rw [dg_one_one]; rfl]
  have hr : 1 ^ e % m = 1 := by rw [Nat.one_pow]; exact Nat.mod_eq_of_lt (by omega)
  have HB := Lib.hid (show Buf w .none [] from Buf.nil w)
  rw [hr]
  have hm1 : ((m : Int) == 1) = false := by rw [beq_eq_false_iff_ne]; omega
  clear h hx _hy hm hal hal1 he he2 hmB hm2 hlm hle hr
  go_enter_defers Tryz.func179, Tryz.ntmps179
  go_wp2_with fail
  refine HA1.out.mono ?_
  rintro en w1 ⟨rfl, n1, rfl⟩
  go_wp2_with fail
  refine (nat_setWord .none 0 1 [] (w.drewN n1) (HB.out.kept (grown_drewN _ _ .none) (fun _ _ => by simp)) (by decide)).mono ?_
  rintro en w3 ⟨p', cs', rfl, hn, hg, hf⟩
  have HN := Lib.hid hn
  have HG := Lib.hid hg
  have HF := Lib.hid hf
  clear hn hg hf
  go_wp2_with fail
  refine ⟨_, results_tmp rfl _ _ _, ?_⟩
  have e1 : word1 1 = dg 1 := (dg_one (by decide)).symm
  rw [← e1]
  exact NumP.from_none (p := p) ⟨p', cs', rfl, HN.out, grown_trans (grown_drewN _ _ _) HG.out, HF.out⟩

set_option maxHeartbeats 2000000 in
set_option maxRecDepth 100000 in
theorem expNN_oneC0 (p px py pm : Option Addr) (l e m : Nat) (cs dx dy dm : List Nat) (w : World) (h : Buf w p cs) (hx : Num w px (dg 0) dx) (hy : Num w py (dg e) dy) (hm : Num w pm (dg m) dm) (hal : al p px cs = false) (hal2 : al p py cs = true) (he : e < B64) (he2 : 1 ≤ e) (hmB : m < B64) (hm2 : 2 ≤ m) :
    Calls Tryz.prog 179 #[.slice p l cs.length, .pointer .none, .slice px (dg 0).length dx.length, .slice py (dg e).length dy.length, .slice pm (dg m).length dm.length, .bool false] w (NumP p (dg (0 ^ e % m)) w) := by
  have hlm : (dg m).length = 1 := by rw [dg_one hmB]; unfold word1; rw [if_neg (by omega)]; rfl
  have hle : (dg e).length = 1 := by rw [dg_one he]; unfold word1; rw [if_neg (by omega)]; rfl
  obtain ⟨bm, rfl, -, hmc⟩ := hm.cell (by omega)
  have hmc := hmc 0 (by omega)
  rw [(dg_of_one hlm).1] at hmc
  have hcm := hm.le
  rw [hlm] at hcm
  rw [hlm, hle]
  have hal1 := nat_alias p px l 0 cs dx w h hx.buf
  rw [hal] at hal1
  have HA1 := Lib.hid hal1
  rw [show (dg 0).length = 0 by rw [dg_zero]; rfl]
  have hr : 0 ^ e % m = 0 := by rw [Nat.zero_pow (by omega)]; exact Nat.zero_mod _
  have hal3 := fun n => nat_alias p py l 1 cs dy (w.drewN n) (h.kept (grown_drewN _ _ .none) (fun _ _ => by simp)) (hy.buf.kept (grown_drewN _ _ .none) (fun _ _ => by simp))
  rw [hal2] at hal3
  have HA2 := Lib.hid hal3
  have HB := Lib.hid (show Buf w .none [] from Buf.nil w)
  rw [hr]
  have hm1 : ((m : Int) == 1) = false := by rw [beq_eq_false_iff_ne]; omega
  clear h hx hy hm hal hal1 he he2 hmB hm2 hlm hle hr hal2 hal3
  go_enter_defers Tryz.func179, Tryz.ntmps179
  go_wp2_with fail
  refine HA1.out.mono ?_
  rintro en w1 ⟨rfl, n1, rfl⟩
  go_wp2_with fail
  refine (HA2.out n1).mono ?_
  rintro en w2 ⟨rfl, n2, rfl⟩
  go_wp2_with fail
  refine (nat_setWord .none 0 0 [] (w.drewN (n1 + n2)) (HB.out.kept (grown_drewN _ _ .none) (fun _ _ => by simp)) (by decide)).mono ?_
  rintro en w3 ⟨p', cs', rfl, hn, hg, hf⟩
  have HN := Lib.hid hn
  have HG := Lib.hid hg
  have HF := Lib.hid hf
  clear hn hg hf
  go_wp2_with fail
  refine ⟨_, results_tmp rfl _ _ _, ?_⟩
  have e1 : word1 0 = dg 0 := (dg_one (by decide)).symm
  rw [← e1]
  exact NumP.from_none (p := p) ⟨p', cs', rfl, HN.out, grown_trans (grown_drewN _ _ _) HG.out, HF.out⟩

set_option maxHeartbeats 2000000 in
set_option maxRecDepth 100000 in
theorem expNN_oneC1 (p px py pm : Option Addr) (l e m : Nat) (cs dx dy dm : List Nat) (w : World) (h : Buf w p cs) (hx : Num w px (dg 1) dx) (hy : Num w py (dg e) dy) (hm : Num w pm (dg m) dm) (hal : al p px cs = false) (hal2 : al p py cs = true) (he : e < B64) (he2 : 1 ≤ e) (hmB : m < B64) (hm2 : 2 ≤ m) :
    Calls Tryz.prog 179 #[.slice p l cs.length, .pointer .none, .slice px (dg 1).length dx.length, .slice py (dg e).length dy.length, .slice pm (dg m).length dm.length, .bool false] w (NumP p (dg (1 ^ e % m)) w) := by
  have hlm : (dg m).length = 1 := by rw [dg_one hmB]; unfold word1; rw [if_neg (by omega)]; rfl
  have hle : (dg e).length = 1 := by rw [dg_one he]; unfold word1; rw [if_neg (by omega)]; rfl
  obtain ⟨bm, rfl, -, hmc⟩ := hm.cell (by omega)
  have hmc := hmc 0 (by omega)
  rw [(dg_of_one hlm).1] at hmc
  have hcm := hm.le
  rw [hlm] at hcm
  rw [hlm, hle]
  have hal1 := nat_alias p px l 1 cs dx w h hx.buf
  rw [hal] at hal1
  have HA1 := Lib.hid hal1
  obtain ⟨bx, rfl, -, hxc⟩ := hx.cell (by rw [dg_one_one]; decide)
  have hxc := hxc 0 (by rw [dg_one_one]; decide)
  have hcx := hx.le
  rw [dg_one_one] at hxc hcx
  rw [show (dg 1).length = 1 by rw [dg_one_one]; rfl]
  have hr : 1 ^ e % m = 1 := by rw [Nat.one_pow]; exact Nat.mod_eq_of_lt (by omega)
  have hal3 := fun n => nat_alias p py l 1 cs dy (w.drewN n) (h.kept (grown_drewN _ _ .none) (fun _ _ => by simp)) (hy.buf.kept (grown_drewN _ _ .none) (fun _ _ => by simp))
  rw [hal2] at hal3
  have HA2 := Lib.hid hal3
  have HB := Lib.hid (show Buf w .none [] from Buf.nil w)
  rw [hr]
  have hm1 : ((m : Int) == 1) = false := by rw [beq_eq_false_iff_ne]; omega
  clear h hx hy hm hal hal1 he he2 hmB hm2 hlm hle hr hal2 hal3
  go_enter_defers Tryz.func179, Tryz.ntmps179
  go_wp2_with fail
  refine HA1.out.mono ?_
  rintro en w1 ⟨rfl, n1, rfl⟩
  go_wp2_with fail
  refine (HA2.out n1).mono ?_
  rintro en w2 ⟨rfl, n2, rfl⟩
  go_wp2_with fail
  refine (nat_setWord .none 0 1 [] (w.drewN (n1 + n2)) (HB.out.kept (grown_drewN _ _ .none) (fun _ _ => by simp)) (by decide)).mono ?_
  rintro en w3 ⟨p', cs', rfl, hn, hg, hf⟩
  have HN := Lib.hid hn
  have HG := Lib.hid hg
  have HF := Lib.hid hf
  clear hn hg hf
  go_wp2_with fail
  refine ⟨_, results_tmp rfl _ _ _, ?_⟩
  have e1 : word1 1 = dg 1 := (dg_one (by decide)).symm
  rw [← e1]
  exact NumP.from_none (p := p) ⟨p', cs', rfl, HN.out, grown_trans (grown_drewN _ _ _) HG.out, HF.out⟩

set_option maxHeartbeats 2000000 in
set_option maxRecDepth 100000 in
theorem expNN_zeroA (p px py pm : Option Addr) (l a m : Nat) (cs dx dy dm : List Nat) (w : World) (h : Buf w p cs) (hx : Num w px (dg a) dx) (hy : Num w py (dg 0) dy) (hm : Num w pm (dg m) dm) (hal : al p px cs = false) (hal2 : al p py cs = false) (hmB : m < B64) (hm2 : 2 ≤ m) :
    Calls Tryz.prog 179 #[.slice p l cs.length, .pointer .none, .slice px (dg a).length dx.length, .slice py (dg 0).length dy.length, .slice pm (dg m).length dm.length, .bool false] w (NumP p (dg (a ^ 0 % m)) w) := by
  have hlm : (dg m).length = 1 := by rw [dg_one hmB]; unfold word1; rw [if_neg (by omega)]; rfl
  obtain ⟨bm, rfl, -, hmc⟩ := hm.cell (by omega)
  have hmc := hmc 0 (by omega)
  rw [(dg_of_one hlm).1] at hmc
  have hcm := hm.le
  rw [hlm] at hcm
  rw [hlm]
  have hal1 := nat_alias p px l (dg a).length cs dx w h hx.buf
  rw [hal] at hal1
  have HA1 := Lib.hid hal1
  rw [show (dg 0).length = 0 by rw [dg_zero]; rfl]
  generalize (dg a).length = la at *
  have hr : a ^ 0 % m = 1 := by rw [Nat.pow_zero]; exact Nat.mod_eq_of_lt (by omega)
  have hal3 := fun n => nat_alias p py l 0 cs dy (w.drewN n) (h.kept (grown_drewN _ _ .none) (fun _ _ => by simp)) (hy.buf.kept (grown_drewN _ _ .none) (fun _ _ => by simp))
  rw [hal2] at hal3
  have HA2 := Lib.hid hal3
  have HB := Lib.hid (show Buf w p cs from h)
  rw [hr]
  have hm1 : ((m : Int) == 1) = false := by rw [beq_eq_false_iff_ne]; omega
  clear h hx hy hm hal hal1 hmB hm2 hlm hr hal2 hal3
  go_enter_defers Tryz.func179, Tryz.ntmps179
  go_wp2_with fail
  refine HA1.out.mono ?_
  rintro en w1 ⟨rfl, n1, rfl⟩
  go_wp2_with fail
  refine (HA2.out n1).mono ?_
  rintro en w2 ⟨rfl, n2, rfl⟩
  go_wp2_with fail
  refine (nat_setWord p l 1 cs (w.drewN (n1 + n2)) (HB.out.kept (grown_drewN _ _ .none) (fun _ _ => by simp)) (by decide)).mono ?_
  rintro en w3 ⟨p', cs', rfl, hn, hg, hf⟩
  have HN := Lib.hid hn
  have HG := Lib.hid hg
  have HF := Lib.hid hf
  clear hn hg hf
  go_wp2_with fail
  refine ⟨_, results_tmp rfl _ _ _, ?_⟩
  have e1 : word1 1 = dg 1 := (dg_one (by decide)).symm
  rw [← e1]
  exact ⟨p', cs', rfl, HN.out, grown_trans (grown_drewN _ _ _) HG.out, HF.out⟩

set_option maxHeartbeats 2000000 in
set_option maxRecDepth 100000 in
theorem expNN_zeroB (p px py pm : Option Addr) (l a m : Nat) (cs dx dy dm : List Nat) (w : World) (h : Buf w p cs) (hx : Num w px (dg a) dx) (_hy : Num w py (dg 0) dy) (hm : Num w pm (dg m) dm) (hal : al p px cs = true) (hmB : m < B64) (hm2 : 2 ≤ m) :
    Calls Tryz.prog 179 #[.slice p l cs.length, .pointer .none, .slice px (dg a).length dx.length, .slice py (dg 0).length dy.length, .slice pm (dg m).length dm.length, .bool false] w (NumP p (dg (a ^ 0 % m)) w) := by
  have hlm : (dg m).length = 1 := by rw [dg_one hmB]; unfold word1; rw [if_neg (by omega)]; rfl
  obtain ⟨bm, rfl, -, hmc⟩ := hm.cell (by omega)
  have hmc := hmc 0 (by omega)
  rw [(dg_of_one hlm).1] at hmc
  have hcm := hm.le
  rw [hlm] at hcm
  rw [hlm]
  have hal1 := nat_alias p px l (dg a).length cs dx w h hx.buf
  rw [hal] at hal1
  have HA1 := Lib.hid hal1
  rw [show (dg 0).length = 0 by rw [dg_zero]; rfl]
  generalize (dg a).length = la at *
  have hr : a ^ 0 % m = 1 := by rw [Nat.pow_zero]; exact Nat.mod_eq_of_lt (by omega)
  have HB := Lib.hid (show Buf w .none [] from Buf.nil w)
  rw [hr]
  have hm1 : ((m : Int) == 1) = false := by rw [beq_eq_false_iff_ne]; omega
  clear h hx _hy hm hal hal1 hmB hm2 hlm hr
  go_enter_defers Tryz.func179, Tryz.ntmps179
  go_wp2_with fail
  refine HA1.out.mono ?_
  rintro en w1 ⟨rfl, n1, rfl⟩
  go_wp2_with fail
  refine (nat_setWord .none 0 1 [] (w.drewN n1) (HB.out.kept (grown_drewN _ _ .none) (fun _ _ => by simp)) (by decide)).mono ?_
  rintro en w3 ⟨p', cs', rfl, hn, hg, hf⟩
  have HN := Lib.hid hn
  have HG := Lib.hid hg
  have HF := Lib.hid hf
  clear hn hg hf
  go_wp2_with fail
  refine ⟨_, results_tmp rfl _ _ _, ?_⟩
  have e1 : word1 1 = dg 1 := (dg_one (by decide)).symm
  rw [← e1]
  exact NumP.from_none (p := p) ⟨p', cs', rfl, HN.out, grown_trans (grown_drewN _ _ _) HG.out, HF.out⟩

set_option maxHeartbeats 2000000 in
set_option maxRecDepth 100000 in
theorem expNN_zeroC (p px py pm : Option Addr) (l a m : Nat) (cs dx dy dm : List Nat) (w : World) (h : Buf w p cs) (hx : Num w px (dg a) dx) (hy : Num w py (dg 0) dy) (hm : Num w pm (dg m) dm) (hal : al p px cs = false) (hal2 : al p py cs = true) (hmB : m < B64) (hm2 : 2 ≤ m) :
    Calls Tryz.prog 179 #[.slice p l cs.length, .pointer .none, .slice px (dg a).length dx.length, .slice py (dg 0).length dy.length, .slice pm (dg m).length dm.length, .bool false] w (NumP p (dg (a ^ 0 % m)) w) := by
  have hlm : (dg m).length = 1 := by rw [dg_one hmB]; unfold word1; rw [if_neg (by omega)]; rfl
  obtain ⟨bm, rfl, -, hmc⟩ := hm.cell (by omega)
  have hmc := hmc 0 (by omega)
  rw [(dg_of_one hlm).1] at hmc
  have hcm := hm.le
  rw [hlm] at hcm
  rw [hlm]
  have hal1 := nat_alias p px l (dg a).length cs dx w h hx.buf
  rw [hal] at hal1
  have HA1 := Lib.hid hal1
  rw [show (dg 0).length = 0 by rw [dg_zero]; rfl]
  generalize (dg a).length = la at *
  have hr : a ^ 0 % m = 1 := by rw [Nat.pow_zero]; exact Nat.mod_eq_of_lt (by omega)
  have hal3 := fun n => nat_alias p py l 0 cs dy (w.drewN n) (h.kept (grown_drewN _ _ .none) (fun _ _ => by simp)) (hy.buf.kept (grown_drewN _ _ .none) (fun _ _ => by simp))
  rw [hal2] at hal3
  have HA2 := Lib.hid hal3
  have HB := Lib.hid (show Buf w .none [] from Buf.nil w)
  rw [hr]
  have hm1 : ((m : Int) == 1) = false := by rw [beq_eq_false_iff_ne]; omega
  clear h hx hy hm hal hal1 hmB hm2 hlm hr hal2 hal3
  go_enter_defers Tryz.func179, Tryz.ntmps179
  go_wp2_with fail
  refine HA1.out.mono ?_
  rintro en w1 ⟨rfl, n1, rfl⟩
  go_wp2_with fail
  refine (HA2.out n1).mono ?_
  rintro en w2 ⟨rfl, n2, rfl⟩
  go_wp2_with fail
  refine (nat_setWord .none 0 1 [] (w.drewN (n1 + n2)) (HB.out.kept (grown_drewN _ _ .none) (fun _ _ => by simp)) (by decide)).mono ?_
  rintro en w3 ⟨p', cs', rfl, hn, hg, hf⟩
  have HN := Lib.hid hn
  have HG := Lib.hid hg
  have HF := Lib.hid hf
  clear hn hg hf
  go_wp2_with fail
  refine ⟨_, results_tmp rfl _ _ _, ?_⟩
  have e1 : word1 1 = dg 1 := (dg_one (by decide)).symm
  rw [← e1]
  exact NumP.from_none (p := p) ⟨p', cs', rfl, HN.out, grown_trans (grown_drewN _ _ _) HG.out, HF.out⟩

set_option maxHeartbeats 2000000 in
set_option maxRecDepth 100000 in
theorem expNN_firstA (p px py pm : Option Addr) (l a m : Nat) (cs dx dy dm : List Nat) (w : World) (h : Buf w p cs) (hx : Num w px (dg a) dx) (hy : Num w py (dg 1) dy) (hm : Num w pm (dg m) dm) (hal : al p px cs = false) (hal2 : al p py cs = false) (ha : a < B64) (ha2 : 2 ≤ a) (hmB : m < B64) (hm2 : 2 ≤ m) :
    Calls Tryz.prog 179 #[.slice p l cs.length, .pointer .none, .slice px (dg a).length dx.length, .slice py (dg 1).length dy.length, .slice pm (dg m).length dm.length, .bool false] w (NumP p (dg (a ^ 1 % m)) w) := by
  have hlm : (dg m).length = 1 := by rw [dg_one hmB]; unfold word1; rw [if_neg (by omega)]; rfl
  have hlx : (dg a).length = 1 := by rw [dg_one ha]; unfold word1; rw [if_neg (by omega)]; rfl
  obtain ⟨bm, rfl, -, hmc⟩ := hm.cell (by omega)
  obtain ⟨be, rfl, -, hec⟩ := hy.cell (by rw [dg_one_one]; decide)
  obtain ⟨bx, rfl, -, hxc⟩ := hx.cell (by omega)
  have hmc := hmc 0 (by omega)
  have hec := hec 0 (by rw [dg_one_one]; decide)
  have hxc := hxc 0 (by omega)
  rw [(dg_of_one hlm).1] at hmc
  rw [(dg_of_one hlx).1] at hxc
  have hcm := hm.le
  have hce := hy.le
  have hcx := hx.le
  rw [hlm] at hcm
  rw [hlx] at hcx
  rw [dg_one_one] at hec hce
  have hal1 := nat_alias p (some ⟨bx, 0, .none⟩) l (dg a).length cs dx w h hx.buf
  rw [hal, hlx] at hal1
  have HA1 := Lib.hid hal1
  have hal3 := fun n => nat_alias p (some ⟨be, 0, .none⟩) l 1 cs dy (w.drewN n) (h.kept (grown_drewN _ _ .none) (fun _ _ => by simp)) (hy.buf.kept (grown_drewN _ _ .none) (fun _ _ => by simp))
  rw [hal2] at hal3
  have HA2 := Lib.hid hal3
  rw [hlm, hlx, show (dg 1).length = 1 by rw [dg_one_one]; rfl, show a ^ 1 = a by rw [Nat.pow_one]]
  have HB := Lib.hid (show Buf w p cs from h)
  have HAL := Lib.hid (show al p (some ⟨bx, 0, .none⟩) cs = false from hal)
  have HX := Lib.hid hx
  have HM := Lib.hid hm
  have HLX := Lib.hid hlx
  have HY := Lib.hid (And.intro hmB hm2)
  have hm1 : ((m : Int) == 1) = false := by rw [beq_eq_false_iff_ne]; omega
  have hx1 : ((a : Int) == 1) = false := by rw [beq_eq_false_iff_ne]; omega
  clear h hx hy hm hal hal1 hal2 hal3 ha ha2 hmB hm2 hlm hlx
  go_enter_defers Tryz.func179, Tryz.ntmps179
  go_wp2_with fail
  refine HA1.out.mono ?_
  rintro en w1 ⟨rfl, n1, rfl⟩
  go_wp2_with fail
  refine (HA2.out n1).mono ?_
  rintro en w2 ⟨rfl, n2, rfl⟩
  go_wp2_with fail
  refine (getStack _).mono ?_
  rintro en W ⟨rfl, hW⟩
  have hgW : w.grownBy W .none := by rw [← hW]; exact grown_trans (grown_drewN _ _ _) (grown_alloc _ _ _)
  have hsW : W.cell? ⟨w.heap.size, 0, .none⟩ = some (.pointer .none) := by rw [← hW]; exact cell_new _ _ _
  have HR := Lib.hid (rem1 p (some ⟨bx, 0, .none⟩) bm w.heap.size l a m cs dx dm W (HB.out.kept hgW (fun _ _ => by simp)) (HX.out.kept hgW (fun _ _ => by simp)) HLX.out (HM.out.kept hgW (fun _ _ => by simp)) HAL.out hsW (fun e => by have := HB.out.lt _ e; omega) HY.out.1 HY.out.2)
  have HGW := Lib.hid hgW
  have HSW := Lib.hid hsW
  have hecW := hgW.cell hec (by simp)
  clear hW hgW hmc hec hxc hsW
  go_wp2_with fail
  refine HR.out.mono ?_
  rintro en w3 ⟨p', cs', rfl, hn, hg, hf⟩
  have hs3 : w3.cell? ⟨w.heap.size, 0, .none⟩ = some (.pointer .none) := hg.cell HSW.out (fun e => absurd (HB.out.lt _ e.symm) (Nat.lt_irrefl _))
  have HF := Lib.hid (show NumP p (dg (a % m)) w (.returned (.slice p' (dg (a % m)).length cs'.length)) w3 from ⟨p', cs', rfl, hn, grown_trans (grown_none HGW.out _) hg, Fresh.older HGW.out.size hf⟩)
  clear hn hg hf HR
  go_wp2_with fail
  refine leaves_cons (f := 202) (args := #[.pointer (some ⟨w.heap.size, 0, .none⟩)]) (by simp) (by simp [go_sem]) ?_
  refine (stackFree w.heap.size .returning _ hs3).mono ?_
  rintro e9 u9 w9 ⟨rfl, rfl, rfl⟩
  refine ⟨_, results_tmp rfl _ _ _, ?_⟩
  exact HF.out

set_option maxHeartbeats 2000000 in
set_option maxRecDepth 100000 in
theorem expNN_firstB (p px py pm : Option Addr) (l a m : Nat) (cs dx dy dm : List Nat) (w : World) (h : Buf w p cs) (hx : Num w px (dg a) dx) (hy : Num w py (dg 1) dy) (hm : Num w pm (dg m) dm) (hal : al p px cs = true) (ha : a < B64) (ha2 : 2 ≤ a) (hmB : m < B64) (hm2 : 2 ≤ m) :
    Calls Tryz.prog 179 #[.slice p l cs.length, .pointer .none, .slice px (dg a).length dx.length, .slice py (dg 1).length dy.length, .slice pm (dg m).length dm.length, .bool false] w (NumP p (dg (a ^ 1 % m)) w) := by
  have hlm : (dg m).length = 1 := by rw [dg_one hmB]; unfold word1; rw [if_neg (by omega)]; rfl
  have hlx : (dg a).length = 1 := by rw [dg_one ha]; unfold word1; rw [if_neg (by omega)]; rfl
  obtain ⟨bm, rfl, -, hmc⟩ := hm.cell (by omega)
  obtain ⟨be, rfl, -, hec⟩ := hy.cell (by rw [dg_one_one]; decide)
  obtain ⟨bx, rfl, -, hxc⟩ := hx.cell (by omega)
  have hmc := hmc 0 (by omega)
  have hec := hec 0 (by rw [dg_one_one]; decide)
  have hxc := hxc 0 (by omega)
  rw [(dg_of_one hlm).1] at hmc
  rw [(dg_of_one hlx).1] at hxc
  have hcm := hm.le
  have hce := hy.le
  have hcx := hx.le
  rw [hlm] at hcm
  rw [hlx] at hcx
  rw [dg_one_one] at hec hce
  have hal1 := nat_alias p (some ⟨bx, 0, .none⟩) l (dg a).length cs dx w h hx.buf
  rw [hal, hlx] at hal1
  have HA1 := Lib.hid hal1
  rw [hlm, hlx, show (dg 1).length = 1 by rw [dg_one_one]; rfl, show a ^ 1 = a by rw [Nat.pow_one]]
  have HB := Lib.hid (show Buf w .none [] from Buf.nil w)
  have HAL := Lib.hid (show al .none (some ⟨bx, 0, .none⟩) [] = false from by simp [al])
  have HX := Lib.hid hx
  have HM := Lib.hid hm
  have HLX := Lib.hid hlx
  have HY := Lib.hid (And.intro hmB hm2)
  have hm1 : ((m : Int) == 1) = false := by rw [beq_eq_false_iff_ne]; omega
  have hx1 : ((a : Int) == 1) = false := by rw [beq_eq_false_iff_ne]; omega
  clear h hx hy hm hal hal1 ha ha2 hmB hm2 hlm hlx
  go_enter_defers Tryz.func179, Tryz.ntmps179
  go_wp2_with fail
  refine HA1.out.mono ?_
  rintro en w1 ⟨rfl, n1, rfl⟩
  go_wp2_with fail
  refine (getStack _).mono ?_
  rintro en W ⟨rfl, hW⟩
  have hgW : w.grownBy W .none := by rw [← hW]; exact grown_trans (grown_drewN _ _ _) (grown_alloc _ _ _)
  have hsW : W.cell? ⟨w.heap.size, 0, .none⟩ = some (.pointer .none) := by rw [← hW]; exact cell_new _ _ _
  have HR := Lib.hid (rem1 .none (some ⟨bx, 0, .none⟩) bm w.heap.size 0 a m [] dx dm W (HB.out.kept hgW (fun _ _ => by simp)) (HX.out.kept hgW (fun _ _ => by simp)) HLX.out (HM.out.kept hgW (fun _ _ => by simp)) HAL.out hsW (fun e => by have := HB.out.lt _ e; omega) HY.out.1 HY.out.2)
  have HGW := Lib.hid hgW
  have HSW := Lib.hid hsW
  have hecW := hgW.cell hec (by simp)
  clear hW hgW hmc hec hxc hsW
  go_wp2_with fail
  refine HR.out.mono ?_
  rintro en w3 ⟨p', cs', rfl, hn, hg, hf⟩
  have hs3 : w3.cell? ⟨w.heap.size, 0, .none⟩ = some (.pointer .none) := hg.cell HSW.out (fun e => absurd (HB.out.lt _ e.symm) (Nat.lt_irrefl _))
  have HF := Lib.hid (show NumP .none (dg (a % m)) w (.returned (.slice p' (dg (a % m)).length cs'.length)) w3 from ⟨p', cs', rfl, hn, grown_trans (grown_none HGW.out _) hg, Fresh.older HGW.out.size hf⟩)
  clear hn hg hf HR
  go_wp2_with fail
  refine leaves_cons (f := 202) (args := #[.pointer (some ⟨w.heap.size, 0, .none⟩)]) (by simp) (by simp [go_sem]) ?_
  refine (stackFree w.heap.size .returning _ hs3).mono ?_
  rintro e9 u9 w9 ⟨rfl, rfl, rfl⟩
  refine ⟨_, results_tmp rfl _ _ _, ?_⟩
  exact NumP.from_none (p := p) HF.out

set_option maxHeartbeats 2000000 in
set_option maxRecDepth 100000 in
theorem expNN_firstC (p px py pm : Option Addr) (l a m : Nat) (cs dx dy dm : List Nat) (w : World) (h : Buf w p cs) (hx : Num w px (dg a) dx) (hy : Num w py (dg 1) dy) (hm : Num w pm (dg m) dm) (hal : al p px cs = false) (hal2 : al p py cs = true) (ha : a < B64) (ha2 : 2 ≤ a) (hmB : m < B64) (hm2 : 2 ≤ m) :
    Calls Tryz.prog 179 #[.slice p l cs.length, .pointer .none, .slice px (dg a).length dx.length, .slice py (dg 1).length dy.length, .slice pm (dg m).length dm.length, .bool false] w (NumP p (dg (a ^ 1 % m)) w) := by
  have hlm : (dg m).length = 1 := by rw [dg_one hmB]; unfold word1; rw [if_neg (by omega)]; rfl
  have hlx : (dg a).length = 1 := by rw [dg_one ha]; unfold word1; rw [if_neg (by omega)]; rfl
  obtain ⟨bm, rfl, -, hmc⟩ := hm.cell (by omega)
  obtain ⟨be, rfl, -, hec⟩ := hy.cell (by rw [dg_one_one]; decide)
  obtain ⟨bx, rfl, -, hxc⟩ := hx.cell (by omega)
  have hmc := hmc 0 (by omega)
  have hec := hec 0 (by rw [dg_one_one]; decide)
  have hxc := hxc 0 (by omega)
  rw [(dg_of_one hlm).1] at hmc
  rw [(dg_of_one hlx).1] at hxc
  have hcm := hm.le
  have hce := hy.le
  have hcx := hx.le
  rw [hlm] at hcm
  rw [hlx] at hcx
  rw [dg_one_one] at hec hce
  have hal1 := nat_alias p (some ⟨bx, 0, .none⟩) l (dg a).length cs dx w h hx.buf
  rw [hal, hlx] at hal1
  have HA1 := Lib.hid hal1
  have hal3 := fun n => nat_alias p (some ⟨be, 0, .none⟩) l 1 cs dy (w.drewN n) (h.kept (grown_drewN _ _ .none) (fun _ _ => by simp)) (hy.buf.kept (grown_drewN _ _ .none) (fun _ _ => by simp))
  rw [hal2] at hal3
  have HA2 := Lib.hid hal3
  rw [hlm, hlx, show (dg 1).length = 1 by rw [dg_one_one]; rfl, show a ^ 1 = a by rw [Nat.pow_one]]
  have HB := Lib.hid (show Buf w .none [] from Buf.nil w)
  have HAL := Lib.hid (show al .none (some ⟨bx, 0, .none⟩) [] = false from by simp [al])
  have HX := Lib.hid hx
  have HM := Lib.hid hm
  have HLX := Lib.hid hlx
  have HY := Lib.hid (And.intro hmB hm2)
  have hm1 : ((m : Int) == 1) = false := by rw [beq_eq_false_iff_ne]; omega
  have hx1 : ((a : Int) == 1) = false := by rw [beq_eq_false_iff_ne]; omega
  clear h hx hy hm hal hal1 hal2 hal3 ha ha2 hmB hm2 hlm hlx
  go_enter_defers Tryz.func179, Tryz.ntmps179
  go_wp2_with fail
  refine HA1.out.mono ?_
  rintro en w1 ⟨rfl, n1, rfl⟩
  go_wp2_with fail
  refine (HA2.out n1).mono ?_
  rintro en w2 ⟨rfl, n2, rfl⟩
  go_wp2_with fail
  refine (getStack _).mono ?_
  rintro en W ⟨rfl, hW⟩
  have hgW : w.grownBy W .none := by rw [← hW]; exact grown_trans (grown_drewN _ _ _) (grown_alloc _ _ _)
  have hsW : W.cell? ⟨w.heap.size, 0, .none⟩ = some (.pointer .none) := by rw [← hW]; exact cell_new _ _ _
  have HR := Lib.hid (rem1 .none (some ⟨bx, 0, .none⟩) bm w.heap.size 0 a m [] dx dm W (HB.out.kept hgW (fun _ _ => by simp)) (HX.out.kept hgW (fun _ _ => by simp)) HLX.out (HM.out.kept hgW (fun _ _ => by simp)) HAL.out hsW (fun e => by have := HB.out.lt _ e; omega) HY.out.1 HY.out.2)
  have HGW := Lib.hid hgW
  have HSW := Lib.hid hsW
  have hecW := hgW.cell hec (by simp)
  clear hW hgW hmc hec hxc hsW
  go_wp2_with fail
  refine HR.out.mono ?_
  rintro en w3 ⟨p', cs', rfl, hn, hg, hf⟩
  have hs3 : w3.cell? ⟨w.heap.size, 0, .none⟩ = some (.pointer .none) := hg.cell HSW.out (fun e => absurd (HB.out.lt _ e.symm) (Nat.lt_irrefl _))
  have HF := Lib.hid (show NumP .none (dg (a % m)) w (.returned (.slice p' (dg (a % m)).length cs'.length)) w3 from ⟨p', cs', rfl, hn, grown_trans (grown_none HGW.out _) hg, Fresh.older HGW.out.size hf⟩)
  clear hn hg hf HR
  go_wp2_with fail
  refine leaves_cons (f := 202) (args := #[.pointer (some ⟨w.heap.size, 0, .none⟩)]) (by simp) (by simp [go_sem]) ?_
  refine (stackFree w.heap.size .returning _ hs3).mono ?_
  rintro e9 u9 w9 ⟨rfl, rfl, rfl⟩
  refine ⟨_, results_tmp rfl _ _ _, ?_⟩
  exact NumP.from_none (p := p) HF.out

theorem expNN_any (p px py pm : Option Addr) (l a e m : Nat) (cs dx dy dm : List Nat) (w : World) (h : Buf w p cs) (hx : Num w px (dg a) dx) (hy : Num w py (dg e) dy) (hm : Num w pm (dg m) dm) (hap : Apart p pm) (ha : a < B64) (he : e < B64) (hmB : m < B64) (hm2 : 2 ≤ m) (htab : Tab w) (h8 : ∀ b, blk p = some b → 8 ≤ b) :
    Calls Tryz.prog 179 #[.slice p l cs.length, .pointer .none, .slice px (dg a).length dx.length, .slice py (dg e).length dy.length, .slice pm (dg m).length dm.length, .bool false] w (NumP p (dg (a ^ e % m)) w) := by
  by_cases e2 : 2 ≤ e
  · exact expNN p px py pm l a e m cs dx dy dm w h hx hy hm hap ha he e2 hmB hm2 htab h8
  · match e, e2, hy with
    | 0, _, hy =>
      cases h1 : al p px cs with
      | true => exact expNN_zeroB p px py pm l a m cs dx dy dm w h hx hy hm h1 hmB hm2
      | false =>
        cases h2 : al p py cs with
        | true => exact expNN_zeroC p px py pm l a m cs dx dy dm w h hx hy hm h1 h2 hmB hm2
        | false => exact expNN_zeroA p px py pm l a m cs dx dy dm w h hx hy hm h1 h2 hmB hm2
    | 1, _, hy =>
      match a, ha, hx with
      | 0, _, hx =>
        cases h1 : al p px cs with
        | true => exact expNN_oneB0 p px py pm l 1 m cs dx dy dm w h hx hy hm h1 he (by decide) hmB hm2
        | false =>
          cases h2 : al p py cs with
          | true => exact expNN_oneC0 p px py pm l 1 m cs dx dy dm w h hx hy hm h1 h2 he (by decide) hmB hm2
          | false => exact expNN_oneA0 p px py pm l 1 m cs dx dy dm w h hx hy hm h1 h2 he (by decide) hmB hm2
      | 1, _, hx =>
        cases h1 : al p px cs with
        | true => exact expNN_oneB1 p px py pm l 1 m cs dx dy dm w h hx hy hm h1 he (by decide) hmB hm2
        | false =>
          cases h2 : al p py cs with
          | true => exact expNN_oneC1 p px py pm l 1 m cs dx dy dm w h hx hy hm h1 h2 he (by decide) hmB hm2
          | false => exact expNN_oneA1 p px py pm l 1 m cs dx dy dm w h hx hy hm h1 h2 he (by decide) hmB hm2
      | a + 2, ha, hx =>
        cases h1 : al p px cs with
        | true => exact expNN_firstB p px py pm l (a + 2) m cs dx dy dm w h hx hy hm h1 ha (by omega) hmB hm2
        | false =>
          cases h2 : al p py cs with
          | true => exact expNN_firstC p px py pm l (a + 2) m cs dx dy dm w h hx hy hm h1 h2 ha (by omega) hmB hm2
          | false => exact expNN_firstA p px py pm l (a + 2) m cs dx dy dm w h hx hy hm h1 h2 ha (by omega) hmB hm2
    | e + 2, e2, _ => exact absurd (by omega) e2
end Go.Proofs.YtohhkjamddojmaaGreatDoor.Big
