/- Powers modulo a word, of natural numbers. -/
import Derived.Test.YtohhkjamddojmaaGreatDoorExpA
import Derived.Defers
namespace Go.Proofs.YtohhkjamddojmaaGreatDoor.Big
open Go.RowKit
attribute [local go_sem] ptr

set_option maxHeartbeats 2000000 in
set_option maxRecDepth 100000 in
theorem expNN_wordA0 (p px py pm : Option Addr) (l e m : Nat) (cs dx dy dm : List Nat) (w : World) (h : Buf w p cs) (hx : Num w px (dg 0) dx) (hy : Num w py (dg e) dy) (hm : Num w pm (dg m) dm) (hal : al p px cs = false) (hal2 : al p py cs = false) (he : e < B64) (he2 : 2 ≤ e) (hmB : m < B64) (hm2 : 2 ≤ m) :
    Calls Tryz.prog 179 #[.slice p l cs.length, .pointer .none, .slice px (dg 0).length dx.length, .slice py (dg e).length dy.length, .slice pm (dg m).length dm.length, .bool false] w (NumP p (dg (0 ^ e % m)) w) := by
  have hlm : (dg m).length = 1 := by rw [dg_one hmB]; unfold word1; rw [if_neg (by omega)]; rfl
  have hle : (dg e).length = 1 := by rw [dg_one he]; unfold word1; rw [if_neg (by omega)]; rfl
  obtain ⟨bm, rfl, -, hmc⟩ := hm.cell (by omega)
  have hmc := hmc 0 (by omega)
  rw [(dg_of_one hlm).1] at hmc
  have hcm := hm.le
  rw [hlm] at hcm
  rw [hlm, hle]
  have hal1 := nat_alias p px l 0 cs dx w h hx.buf
  rw [hal] at hal1
  have HA1 := Lib.hid hal1
  rw [show (dg 0).length = 0 by rw [dg_zero]; rfl]
  have hr : 0 ^ e % m = 0 := by rw [Nat.zero_pow (by omega)]; exact Nat.zero_mod _
  have hal3 := fun n => nat_alias p py l 1 cs dy (w.drewN n) (h.kept (grown_drewN _ _ .none) (fun _ _ => by simp)) (hy.buf.kept (grown_drewN _ _ .none) (fun _ _ => by simp))
  rw [hal2] at hal3
  have HA2 := Lib.hid hal3
  have HB := Lib.hid (show Buf w p cs from h)
  rw [hr]
  have hm1 : ((m : Int) == 1) = false := by rw [beq_eq_false_iff_ne]; omega
  clear h hx hy hm hal hal1 he he2 hmB hm2 hlm hle hr hal2 hal3
  go_enter_defers Tryz.func179, Tryz.ntmps179
  go_wp2_with fail
  refine HA1.out.mono ?_
  rintro en w1 ⟨rfl, n1, rfl⟩
  go_wp2_with fail
  refine (HA2.out n1).mono ?_
  rintro en w2 ⟨rfl, n2, rfl⟩
  go_wp2_with fail
  refine (nat_setWord p l 0 cs (w.drewN (n1 + n2)) (HB.out.kept (grown_drewN _ _ .none) (fun _ _ => by simp)) (by decide)).mono ?_
  rintro en w3 ⟨p', cs', rfl, hn, hg, hf⟩
  have HN := Lib.hid hn
  have HG := Lib.hid hg
  have HF := Lib.hid hf
  clear hn hg hf
  go_wp2_with fail
  refine ⟨_, results_tmp rfl _ _ _, ?_⟩
  have e1 : word1 0 = dg 0 := (dg_one (by decide)).symm
  rw [← e1]
  exact ⟨p', cs', rfl, HN.out, grown_trans (grown_drewN _ _ _) HG.out, HF.out⟩

set_option maxHeartbeats 2000000 in
set_option maxRecDepth 100000 in
theorem expNN_wordA1 (p px py pm : Option Addr) (l e m : Nat) (cs dx dy dm : List Nat) (w : World) (h : Buf w p cs) (hx : Num w px (dg 1) dx) (hy : Num w py (dg e) dy) (hm : Num w pm (dg m) dm) (hal : al p px cs = false) (hal2 : al p py cs = false) (he : e < B64) (he2 : 2 ≤ e) (hmB : m < B64) (hm2 : 2 ≤ m) :
    Calls Tryz.prog 179 #[.slice p l cs.length, .pointer .none, .slice px (dg 1).length dx.length, .slice py (dg e).length dy.length, .slice pm (dg m).length dm.length, .bool false] w (NumP p (dg (1 ^ e % m)) w) := by
  have hlm : (dg m).length = 1 := by rw [dg_one hmB]; unfold word1; rw [if_neg (by omega)]; rfl
  have hle : (dg e).length = 1 := by rw [dg_one he]; unfold word1; rw [if_neg (by omega)]; rfl
  obtain ⟨bm, rfl, -, hmc⟩ := hm.cell (by omega)
  have hmc := hmc 0 (by omega)
  rw [(dg_of_one hlm).1] at hmc
  have hcm := hm.le
  rw [hlm] at hcm
  rw [hlm, hle]
  have hal1 := nat_alias p px l 1 cs dx w h hx.buf
  rw [hal] at hal1
  have HA1 := Lib.hid hal1
  obtain ⟨bx, rfl, -, hxc⟩ := hx.cell (by rw [dg_one_one]; decide)
  have hxc := hxc 0 (by rw [dg_one_one]; decide)
  have hcx := hx.le
  rw [dg_one_one] at hxc hcx
  rw [show (dg 1).length = 1 by rw [dg_one_one]; rfl]
  have hr : 1 ^ e % m = 1 := by rw [Nat.one_pow]; exact Nat.mod_eq_of_lt (by omega)
  have hal3 := fun n => nat_alias p py l 1 cs dy (w.drewN n) (h.kept (grown_drewN _ _ .none) (fun _ _ => by simp)) (hy.buf.kept (grown_drewN _ _ .none) (fun _ _ => by simp))
  rw [hal2] at hal3
  have HA2 := Lib.hid hal3
  have HB := Lib.hid (show Buf w p cs from h)
  rw [hr]
  have hm1 : ((m : Int) == 1) = false := by rw [beq_eq_false_iff_ne]; omega
  clear h hx hy hm hal hal1 he he2 hmB hm2 hlm hle hr hal2 hal3
  go_enter_defers Tryz.func179, Tryz.ntmps179
  go_wp2_with fail
  refine HA1.out.mono ?_
  rintro en w1 ⟨rfl, n1, rfl⟩
  go_wp2_with fail
  refine (HA2.out n1).mono ?_
  rintro en w2 ⟨rfl, n2, rfl⟩
  go_wp2_with fail
  refine (nat_setWord p l 1 cs (w.drewN (n1 + n2)) (HB.out.kept (grown_drewN _ _ .none) (fun _ _ => by simp)) (by decide)).mono ?_
  rintro en w3 ⟨p', cs', rfl, hn, hg, hf⟩
  have HN := Lib.hid hn
  have HG := Lib.hid hg
  have HF := Lib.hid hf
  clear hn hg hf
  go_wp2_with fail
  refine ⟨_, results_tmp rfl _ _ _, ?_⟩
  have e1 : word1 1 = dg 1 := (dg_one (by decide)).symm
  rw [← e1]
  exact ⟨p', cs', rfl, HN.out, grown_trans (grown_drewN _ _ _) HG.out, HF.out⟩

set_option maxHeartbeats 2000000 in
set_option maxRecDepth 100000 in
theorem expNN_wordB0 (p px py pm : Option Addr) (l e m : Nat) (cs dx dy dm : List Nat) (w : World) (h : Buf w p cs) (hx : Num w px (dg 0) dx) (_hy : Num w py (dg e) dy) (hm : Num w pm (dg m) dm) (hal : al p px cs = true) (he : e < B64) (he2 : 2 ≤ e) (hmB : m < B64) (hm2 : 2 ≤ m) :
    Calls Tryz.prog 179 #[.slice p l cs.length, .pointer .none, .slice px (dg 0).length dx.length, .slice py (dg e).length dy.length, .slice pm (dg m).length dm.length, .bool false] w (NumP p (dg (0 ^ e % m)) w) := by
  have hlm : (dg m).length = 1 := by rw [dg_one hmB]; unfold word1; rw [if_neg (by omega)]; rfl
  have hle : (dg e).length = 1 := by rw [dg_one he]; unfold word1; rw [if_neg (by omega)]; rfl
  obtain ⟨bm, rfl, -, hmc⟩ := hm.cell (by omega)
  have hmc := hmc 0 (by omega)
  rw [(dg_of_one hlm).1] at hmc
  have hcm := hm.le
  rw [hlm] at hcm
  rw [hlm, hle]
  have hal1 := nat_alias p px l 0 cs dx w h hx.buf
  rw [hal] at hal1
  have HA1 := Lib.hid hal1
  rw [show (dg 0).length = 0 by rw [dg_zero]; rfl]
  have hr : 0 ^ e % m = 0 := by rw [Nat.zero_pow (by omega)]; exact Nat.zero_mod _
  have HB := Lib.hid (show Buf w .none [] from Buf.nil w)
  rw [hr]
  have hm1 : ((m : Int) == 1) = false := by rw [beq_eq_false_iff_ne]; omega
  clear h hx _hy hm hal hal1 he he2 hmB hm2 hlm hle hr
  go_enter_defers Tryz.func179, Tryz.ntmps179
  go_wp2_with fail
  refine HA1.out.mono ?_
  rintro en w1 ⟨rfl, n1, rfl⟩
  go_wp2_with fail
  refine (nat_setWord .none 0 0 [] (w.drewN n1) (HB.out.kept (grown_drewN _ _ .none) (fun _ _ => by simp)) (by decide)).mono ?_
  rintro en w3 ⟨p', cs', rfl, hn, hg, hf⟩
  have HN := Lib.hid hn
  have HG := Lib.hid hg
  have HF := Lib.hid hf
  clear hn hg hf
  go_wp2_with fail
  refine ⟨_, results_tmp rfl _ _ _, ?_⟩
  have e1 : word1 0 = dg 0 := (dg_one (by decide)).symm
  rw [← e1]
  exact NumP.from_none (p := p) ⟨p', cs', rfl, HN.out, grown_trans (grown_drewN _ _ _) HG.out, HF.out⟩

set_option maxHeartbeats 2000000 in
set_option maxRecDepth 100000 in
theorem expNN_wordB1 (p px py pm : Option Addr) (l e m : Nat) (cs dx dy dm : List Nat) (w : World) (h : Buf w p cs) (hx : Num w px (dg 1) dx) (_hy : Num w py (dg e) dy) (hm : Num w pm (dg m) dm) (hal : al p px cs = true) (he : e < B64) (he2 : 2 ≤ e) (hmB : m < B64) (hm2 : 2 ≤ m) :
    Calls Tryz.prog 179 #[.slice p l cs.length, .pointer .none, .slice px (dg 1).length dx.length, .slice py (dg e).length dy.length, .slice pm (dg m).length dm.length, .bool false] w (NumP p (dg (1 ^ e % m)) w) := by
  have hlm : (dg m).length = 1 := by rw [dg_one hmB]; unfold word1; rw [if_neg (by omega)]; rfl
  have hle : (dg e).length = 1 := by rw [dg_one he]; unfold word1; rw [if_neg (by omega)]; rfl
  obtain ⟨bm, rfl, -, hmc⟩ := hm.cell (by omega)
  have hmc := hmc 0 (by omega)
  rw [(dg_of_one hlm).1] at hmc
  have hcm := hm.le
  rw [hlm] at hcm
  rw [hlm, hle]
  have hal1 := nat_alias p px l 1 cs dx w h hx.buf
  rw [hal] at hal1
  have HA1 := Lib.hid hal1
  obtain ⟨bx, rfl, -, hxc⟩ := hx.cell (by rw [dg_one_one]; decide)
  have hxc := hxc 0 (by rw [dg_one_one]; decide)
  have hcx := hx.le
  rw [dg_one_one] at hxc hcx
  rw [show (dg 1).length = 1 by rw [dg_one_one]; rfl]
  have hr : 1 ^ e % m = 1 := by rw [Nat.one_pow]; exact Nat.mod_eq_of_lt (by omega)
  have HB := Lib.hid (show Buf w .none [] from Buf.nil w)
  rw [hr]
  have hm1 : ((m : Int) == 1) = false := by rw [beq_eq_false_iff_ne]; omega
  clear h hx _hy hm hal hal1 he he2 hmB hm2 hlm hle hr
  go_enter_defers Tryz.func179, Tryz.ntmps179
  go_wp2_with fail
  refine HA1.out.mono ?_
  rintro en w1 ⟨rfl, n1, rfl⟩
  go_wp2_with fail
  refine (nat_setWord .none 0 1 [] (w.drewN n1) (HB.out.kept (grown_drewN _ _ .none) (fun _ _ => by simp)) (by decide)).mono ?_
  rintro en w3 ⟨p', cs', rfl, hn, hg, hf⟩
  have HN := Lib.hid hn
  have HG := Lib.hid hg
  have HF := Lib.hid hf
  clear hn hg hf
  go_wp2_with fail
  refine ⟨_, results_tmp rfl _ _ _, ?_⟩
  have e1 : word1 1 = dg 1 := (dg_one (by decide)).symm
  rw [← e1]
  exact NumP.from_none (p := p) ⟨p', cs', rfl, HN.out, grown_trans (grown_drewN _ _ _) HG.out, HF.out⟩

set_option maxHeartbeats 2000000 in
set_option maxRecDepth 100000 in
theorem expNN_wordC0 (p px py pm : Option Addr) (l e m : Nat) (cs dx dy dm : List Nat) (w : World) (h : Buf w p cs) (hx : Num w px (dg 0) dx) (hy : Num w py (dg e) dy) (hm : Num w pm (dg m) dm) (hal : al p px cs = false) (hal2 : al p py cs = true) (he : e < B64) (he2 : 2 ≤ e) (hmB : m < B64) (hm2 : 2 ≤ m) :
    Calls Tryz.prog 179 #[.slice p l cs.length, .pointer .none, .slice px (dg 0).length dx.length, .slice py (dg e).length dy.length, .slice pm (dg m).length dm.length, .bool false] w (NumP p (dg (0 ^ e % m)) w) := by
  have hlm : (dg m).length = 1 := by rw [dg_one hmB]; unfold word1; rw [if_neg (by omega)]; rfl
  have hle : (dg e).length = 1 := by rw [dg_one he]; unfold word1; rw [if_neg (by omega)]; rfl
  obtain ⟨bm, rfl, -, hmc⟩ := hm.cell (by omega)
  have hmc := hmc 0 (by omega)
  rw [(dg_of_one hlm).1] at hmc
  have hcm := hm.le
  rw [hlm] at hcm
  rw [hlm, hle]
  have hal1 := nat_alias p px l 0 cs dx w h hx.buf
  rw [hal] at hal1
  have HA1 := Lib.hid hal1
  rw [show (dg 0).length = 0 by rw [dg_zero]; rfl]
  have hr : 0 ^ e % m = 0 := by rw [Nat.zero_pow (by omega)]; exact Nat.zero_mod _
  have hal3 := fun n => nat_alias p py l 1 cs dy (w.drewN n) (h.kept (grown_drewN _ _ .none) (fun _ _ => by simp)) (hy.buf.kept (grown_drewN _ _ .none) (fun _ _ => by simp))
  rw [hal2] at hal3
  have HA2 := Lib.hid hal3
  have HB := Lib.hid (show Buf w .none [] from Buf.nil w)
  rw [hr]
  have hm1 : ((m : Int) == 1) = false := by rw [beq_eq_false_iff_ne]; omega
  clear h hx hy hm hal hal1 he he2 hmB hm2 hlm hle hr hal2 hal3
  go_enter_defers Tryz.func179, Tryz.ntmps179
  go_wp2_with fail
  refine HA1.out.mono ?_
  rintro en w1 ⟨rfl, n1, rfl⟩
  go_wp2_with fail
  refine (HA2.out n1).mono ?_
  rintro en w2 ⟨rfl, n2, rfl⟩
  go_wp2_with fail
  refine (nat_setWord .none 0 0 [] (w.drewN (n1 + n2)) (HB.out.kept (grown_drewN _ _ .none) (fun _ _ => by simp)) (by decide)).mono ?_
  rintro en w3 ⟨p', cs', rfl, hn, hg, hf⟩
  have HN := Lib.hid hn
  have HG := Lib.hid hg
  have HF := Lib.hid hf
  clear hn hg hf
  go_wp2_with fail
  refine ⟨_, results_tmp rfl _ _ _, ?_⟩
  have e1 : word1 0 = dg 0 := (dg_one (by decide)).symm
  rw [← e1]
  exact NumP.from_none (p := p) ⟨p', cs', rfl, HN.out, grown_trans (grown_drewN _ _ _) HG.out, HF.out⟩

set_option maxHeartbeats 2000000 in
set_option maxRecDepth 100000 in
theorem expNN_wordC1 (p px py pm : Option Addr) (l e m : Nat) (cs dx dy dm : List Nat) (w : World) (h : Buf w p cs) (hx : Num w px (dg 1) dx) (hy : Num w py (dg e) dy) (hm : Num w pm (dg m) dm) (hal : al p px cs = false) (hal2 : al p py cs = true) (he : e < B64) (he2 : 2 ≤ e) (hmB : m < B64) (hm2 : 2 ≤ m) :
    Calls Tryz.prog 179 #[.slice p l cs.length, .pointer .none, .slice px (dg 1).length dx.length, .slice py (dg e).length dy.length, .slice pm (dg m).length dm.length, .bool false] w (NumP p (dg (1 ^ e % m)) w) := by
  have hlm : (dg m).length = 1 := by rw [dg_one hmB]; unfold word1; rw [if_neg (by omega)]; rfl
  have hle : (dg e).length = 1 := by rw [dg_one he]; unfold word1; rw [if_neg (by omega)]; rfl
  obtain ⟨bm, rfl, -, hmc⟩ := hm.cell (by omega)
  have hmc := hmc 0 (by omega)
  rw [(dg_of_one hlm).1] at hmc
  have hcm := hm.le
  rw [hlm] at hcm
  rw [hlm, hle]
  have hal1 := nat_alias p px l 1 cs dx w h hx.buf
  rw [hal] at hal1
  have HA1 := Lib.hid hal1
  obtain ⟨bx, rfl, -, hxc⟩ := hx.cell (by rw [dg_one_one]; decide)
  have hxc := hxc 0 (by rw [dg_one_one]; decide)
  have hcx := hx.le
  rw [dg_one_one] at hxc hcx
  rw [show (dg 1).length = 1 by rw [dg_one_one]; rfl]
  have hr : 1 ^ e % m = 1 := by rw [Nat.one_pow]; exact Nat.mod_eq_of_lt (by omega)
  have hal3 := fun n => nat_alias p py l 1 cs dy (w.drewN n) (h.kept (grown_drewN _ _ .none) (fun _ _ => by simp)) (hy.buf.kept (grown_drewN _ _ .none) (fun _ _ => by simp))
  rw [hal2] at hal3
  have HA2 := Lib.hid hal3
  have HB := Lib.hid (show Buf w .none [] from Buf.nil w)
  rw [hr]
  have hm1 : ((m : Int) == 1) = false := by rw [beq_eq_false_iff_ne]; omega
  clear h hx hy hm hal hal1 he he2 hmB hm2 hlm hle hr hal2 hal3
  go_enter_defers Tryz.func179, Tryz.ntmps179
  go_wp2_with fail
  refine HA1.out.mono ?_
  rintro en w1 ⟨rfl, n1, rfl⟩
  go_wp2_with fail
  refine (HA2.out n1).mono ?_
  rintro en w2 ⟨rfl, n2, rfl⟩
  go_wp2_with fail
  refine (nat_setWord .none 0 1 [] (w.drewN (n1 + n2)) (HB.out.kept (grown_drewN _ _ .none) (fun _ _ => by simp)) (by decide)).mono ?_
  rintro en w3 ⟨p', cs', rfl, hn, hg, hf⟩
  have HN := Lib.hid hn
  have HG := Lib.hid hg
  have HF := Lib.hid hf
  clear hn hg hf
  go_wp2_with fail
  refine ⟨_, results_tmp rfl _ _ _, ?_⟩
  have e1 : word1 1 = dg 1 := (dg_one (by decide)).symm
  rw [← e1]
  exact NumP.from_none (p := p) ⟨p', cs', rfl, HN.out, grown_trans (grown_drewN _ _ _) HG.out, HF.out⟩
end Go.Proofs.YtohhkjamddojmaaGreatDoor.Big
