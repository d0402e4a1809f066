/- Blocks that are kept while Ints are worked with; the twist's parameters. To the twist and back. -/
import Derived.Test.YtohhkjamddojmaaGreatDoorEE
import Derived.Deep.RegionHeld3
namespace Go.Proofs.YtohhkjamddojmaaGreatDoor.Big
open Go.RowKit
attribute [local go_sem] ptr

/-- R, and the block c too -/
def RO (R : Nat → Prop) (c : Nat) (k : Nat) : Prop := R k ∨ k = c
theorem RO.left {R : Nat → Prop} {c k : Nat} (h : R k) : RO R c k := .inl h
theorem RO.self (R : Nat → Prop) (c : Nat) : RO R c c := .inr rfl
theorem RO.not {R : Nat → Prop} {c k : Nat} (h : ¬ R k) (hc : k ≠ c) : ¬ RO R c k := fun e => e.elim h hc
theorem RO.no {R : Nat → Prop} {c k : Nat} (h : ¬ RO R c k) : ¬ R k := fun e => h (.inl e)

section
variable {R : Nat → Prop} {w0 w w' : World} {L L' : List (Nat × Int)}
theorem Ints.same {zs : List Nat} {vs : List Int} (h : Ints R w zs vs) (hg : Grow w w' (fun _ => False)) : Ints R w' zs vs := by
  obtain ⟨ps, qs, h⟩ := h
  exact ⟨ps, qs, ⟨fun k hk => Nat.lt_of_lt_of_le (h.old k hk) hg.size, h.lenV, h.lenP, h.lenQ, fun i z v p q h1 h2 h3 h4 => (h.one i z v p q h1 h2 h3 h4).grow hg id (fun _ _ => id), h.own, h.zz, h.pp, h.zp⟩⟩
theorem Own.box (h : Own R w0 w L) (o : Obj) : Own R w0 (w.alloc o) L :=
  h.step (h.ints.same (grow_alloc w o)) ((grow_alloc w o).weaken (fun _ _ e => e.elim)) rfl rfl
/-- a new block, kept from here on -/
theorem Own.guard (h : Own R w0 w L) (o : Obj) : Own (RO R w.heap.size) (w.alloc o) (w.alloc o) L := by
  have hb := h.box o
  obtain ⟨ps, qs, hf⟩ := h.ints
  obtain ⟨ps', qs', hf'⟩ := hb.ints
  have hsz : (w.alloc o).heap.size = w.heap.size + 1 := Array.size_push _
  have hg := grow_alloc w o
  refine ⟨⟨ps, qs, ⟨?_, hf.lenV, hf.lenP, hf.lenQ, fun i z v p q h1 h2 h3 h4 => (hf.one i z v p q h1 h2 h3 h4).grow hg id (fun _ _ => id), ?_, hf.zz, hf.pp, hf.zp⟩⟩, Kept.refl _ _, hb.tab, fun k hk => .inl (h.low k hk)⟩
  · rintro k (hk | rfl)
    · have := hf.old k hk; omega
    · omega
  · intro i z p h1 h2 hz b hbb
    rintro (hr | rfl)
    · exact hf.own i z p h1 h2 (RO.no hz) b hbb hr
    · have hi : i < (L.map Prod.fst).length := (List.getElem?_eq_some_iff.1 h1).1
      obtain ⟨v, p', q, hv, hp, hq, one⟩ := hf.at h1
      obtain rfl : p = p' := by rw [h2] at hp; exact Option.some.inj hp
      have := one.num.lt _ hbb
      omega
theorem Own.unguard (h : Own R w0 w L) {c : Nat} {o : Obj} (hc : w.heap[c]? = some o) (ho : ∀ n p l q, o ≠ .cells #[.bool n, .slice p l q] 172 (0, 0)) (h' : Own (RO R c) w w' L') : Own R w0 w' L' := by
  have hk : Kept R w w' := h'.kept.weaken (fun k _ hn => RO.no hn)
  obtain ⟨ps, qs, hf⟩ := h'.ints
  have hlt : c < w.heap.size := (Array.getElem?_eq_some_iff.1 hc).1
  have hc' : w'.heap[c]? = some o := by rw [h'.kept.block c hlt (fun e => e (.inr rfl)), hc]
  refine ⟨⟨ps, qs, ⟨fun k hr => hf.old k (.inl hr), hf.lenV, hf.lenP, hf.lenQ, hf.one, ?_, hf.zz, hf.pp, hf.zp⟩⟩, h.kept.trans hk, h'.tab, h.low⟩
  intro i z p h1 h2 hz b hbb
  have hzc : z ≠ c := by
    rintro rfl
    obtain ⟨v, p', q, hv, hp, hq, one⟩ := hf.at h1
    have := one.str
    unfold StrB at this
    rw [hc'] at this
    exact ho _ _ _ _ (Option.some.inj this)
  exact RO.no (hf.own i z p h1 h2 (RO.not hz hzc) b hbb)
/-- a kept block's content -/
theorem Own.drew1 (h : Own R w0 w L) : Own R w0 w.drew L := h.drew 1
theorem Own.block (h : Own R w0 w L) {c : Nat} {o : Obj} (hc : w0.heap[c]? = some o) (hR : R c) : w.heap[c]? = some o := by
  have hlt : c < w0.heap.size := (Array.getElem?_eq_some_iff.1 hc).1
  rw [h.kept.block c hlt (fun e => e hR), hc]
theorem Own.keep (h : Own R w0 w L) {b o : Nat} {v : Value} (hc : w0.cell? ⟨b, o, .none⟩ = some v) (hR : R b) : w.cell? ⟨b, o, .none⟩ = some v := h.kept.cell hR hc

set_option maxHeartbeats 1000000 in
theorem numO (h : Own R w0 w L) (n : Nat) (hn : n < 9223372036854775808) : Calls Tryz.prog 78 #[.int .i64 n] w (NewO R w0 n L) := by
  have HC := Lib.hid (newIntO h n hn)
  clear h hn
  go_enter Tryz.func78, Tryz.ntmps78
  go_wp2_with fail
  refine HC.out.mono ?_
  rintro e w1 ⟨z, rfl, h1⟩
  have H1 := Lib.hid h1
  clear h1
  go_wp2_with fail
  go_ret
  exact ⟨z, rfl, H1.out⟩

set_option maxHeartbeats 4000000 in
set_option maxRecDepth 100000 in
theorem paramsO (h : Own R w0 w L) (p b z : Nat) (hp : p < 9223372036854775808) (hb : b < 9223372036854775808) :
    Calls Tryz.prog 77 #[.agg #[.int .i64 p, .int .i64 b, .int .i64 z]] w (fun e w' => ∃ c pP pB, e = .returned (ptr c) ∧ Own R w0 w' ((pB, (b : Int)) :: (pP, (p : Int)) :: L) ∧ Own (RO R c) w' w' ((pB, (b : Int)) :: (pP, (p : Int)) :: L) ∧ ¬ R pP ∧ ¬ R pB ∧
      w'.heap[c]? = some (.cells #[ptr pP, .pointer .none, ptr pB, .pointer .none, .pointer .none, .int .i64 0, .string ⟨#[]⟩] 184)) := by
  have hG := h.guard (.cells #[.int .i64 p, .int .i64 b, .int .i64 z] 57)
  have hnew : (w.alloc (.cells #[.int .i64 p, .int .i64 b, .int .i64 z] 57)).heap[w.heap.size]? = some (.cells #[.int .i64 p, .int .i64 b, .int .i64 z] 57) := heap_alloc_new _ _
  have c0 : (w.alloc (.cells #[.int .i64 p, .int .i64 b, .int .i64 z] 57)).cell? ⟨w.heap.size, 0, .none⟩ = some (.int .i64 p) := by unfold World.cell?; rw [hnew]; rfl
  have c1 : (w.alloc (.cells #[.int .i64 p, .int .i64 b, .int .i64 z] 57)).cell? ⟨w.heap.size, 1, .none⟩ = some (.int .i64 b) := by unfold World.cell?; rw [hnew]; rfl
  have HBX := Lib.hid (h.box (.cells #[.int .i64 p, .int .i64 b, .int .i64 z] 57))
  have HNW := Lib.hid hnew
  have HG := Lib.hid hG
  have HP := Lib.hid hp
  have HB := Lib.hid hb
  have C0 := Lib.hid c0
  have C1 := Lib.hid c1
  clear h hG hp hb hnew
  go_enter Tryz.func77, Tryz.ntmps77
  go_wp2_with fail
  go_region_held3 (fun w' => w'.cell? ⟨w.heap.size, 0, .none⟩ = some (.int .i64 p) ∧ w'.cell? ⟨w.heap.size, 1, .none⟩ = some (.int .i64 b)) (go_keep) (first | (go_at_call 78; refine (numO H1.out b HB.out).mono ?_; rintro e w2 ⟨pB, rfl, h2, hr2⟩; have k0 := h2.keep C0.out (RO.self _ _); have k1 := h2.keep C1.out (RO.self _ _); have H2 := Lib.hid (And.intro h2 hr2); clear h2 hr2) | (go_at_call 78; refine (numO (Own.drew1 HG.out) p HP.out).mono ?_; rintro e w1 ⟨pP, rfl, h1, hr1⟩; have k0 := h1.keep C0.out (RO.self _ _); have k1 := h1.keep C1.out (RO.self _ _); have H1 := Lib.hid h1; have HR1 := Lib.hid hr1; clear h1 hr1))
  go_wp2_with fail
  have hu := Own.unguard HBX.out HNW.out (by intro _ _ _ _ e; simp at e) H2.out.1
  go_ret
  exact ⟨w2.heap.size, pP, pB, rfl, hu.box _, hu.guard _, RO.no HR1.out, RO.no H2.out.2, heap_alloc_new _ _⟩
end
end Go.Proofs.YtohhkjamddojmaaGreatDoor.Big

namespace Go.Proofs.YtohhkjamddojmaaGreatDoor.Big
open Go.RowKit
attribute [local go_sem] ptr
attribute [local irreducible] Sz

section
variable {R : Nat → Prop} {w0 w w' : World} {L L' : List (Nat × Int)}

set_option maxHeartbeats 4000000 in
set_option maxRecDepth 100000 in
theorem toTwistedO (h : Own R w0 w L) (rc c z2 z3 x y P ix iy i2 i3 iP : Nat) (X Y A B p : Int) (hc1 : w.cell? ⟨rc, 1, .none⟩ = some (ptr c)) (hc2 : w.cell? ⟨rc, 4, .none⟩ = some (ptr z2)) (hc3 : w.cell? ⟨rc, 5, .none⟩ = some (ptr z3)) (hcP : w.cell? ⟨c, 0, .none⟩ = some (ptr P)) (hRr : R rc) (hRc : R c)
    (hx : L[ix]? = some (x, X)) (hy : L[iy]? = some (y, Y)) (h2 : L[i2]? = some (z2, A)) (h3 : L[i3]? = some (z3, B)) (hP : L[iP]? = some (P, p)) (sX : Sz 350 X) (sY : Sz 350 Y) (sA : Sz 350 A) (sB : Sz 350 B) (sp : Sz 630000 p) (hdiv : DivOK p.natAbs) (hp0 : p ≠ 0) :
    Calls Tryz.prog 118 #[ptr rc, ptr x, ptr y] w (fun e w' => ∃ tx ty, e = .returned (.tuple #[ptr tx, ptr ty]) ∧ Own R w0 w' ((ty, Y * B % p) :: (tx, X * A % p) :: L) ∧ ¬ R tx ∧ ¬ R ty) := by
  obtain ⟨hN, rt, rs⟩ := h.new2
  have hs := h.since
  have lrc : rc < w.heap.size := World.block_lt_of_cell? w ⟨rc, 1, .none⟩ hc1
  have lc : c < w.heap.size := World.block_lt_of_cell? w ⟨c, 0, .none⟩ hcP
  have HN := Lib.hid hN
  have RT := Lib.hid rt
  have RS := Lib.hid rs
  have HX := Lib.hid hx
  have HY := Lib.hid hy
  have H2 := Lib.hid h2
  have H3 := Lib.hid h3
  have HP := Lib.hid hP
  have SP := Lib.hid sp
  have SXA : RowKit.Hid (Sz 630000 (X * A)) := Lib.hid ((sX.mul sA).le (by decide : 350 + 350 ≤ 630000))
  have SYB : RowKit.Hid (Sz 630000 (Y * B)) := Lib.hid ((sY.mul sB).le (by decide : 350 + 350 ≤ 630000))
  have SX7 := Lib.hid (sX.le (by decide : 350 ≤ 704))
  have SY7 := Lib.hid (sY.le (by decide : 350 ≤ 704))
  have SA2 := Lib.hid (sA.le (by decide : 350 ≤ 2496))
  have SB2 := Lib.hid (sB.le (by decide : 350 ≤ 2496))
  have HD := Lib.hid hdiv
  have HP0 := Lib.hid hp0
  have HS0 := Lib.hid h
  have K0 := Lib.hid (fun (w' : World) (k : Kept R w w') => (⟨k.cell hRr hc1, k.cell hRr hc2, k.cell hRr hc3, k.cell hRc hcP⟩ : w'.cell? ⟨rc, 1, .none⟩ = some (ptr c) ∧ w'.cell? ⟨rc, 4, .none⟩ = some (ptr z2) ∧ w'.cell? ⟨rc, 5, .none⟩ = some (ptr z3) ∧ w'.cell? ⟨c, 0, .none⟩ = some (ptr P)))
  have KN := Lib.hid (hs.new2.1.kept)
  clear h hN rt rs hx hy h2 h3 hP sX sY sA sB sp hdiv hp0 hs hRr hRc
  unfold ptr at *
  go_enter Tryz.func118, Tryz.ntmps118
  go_wp2_with fail
  refine (mulO HN.out.since 1 (ix + 2) (i2 + 2) rfl HX.out H2.out RS.out SX7.out SA2.out).mono ?_
  rintro e w1 ⟨rfl, h1⟩
  have k1 := KN.out.trans h1.kept
  obtain ⟨c1, c2, c3, cP⟩ := K0.out w1 k1
  have O1 := Lib.hid (show Own R _ w1 ((w.heap.size + 1, 0) :: (w.heap.size, X * A) :: L) from h1)
  have K1 := Lib.hid k1
  clear h1 k1 hc1 hc2 hc3 hcP
  go_wp2_with fail
  refine (modO O1.out.since 1 1 (iP + 2) rfl rfl HP.out (by omega) RS.out SXA.out SP.out HD.out HP0.out).mono ?_
  rintro e w2 ⟨rfl, h2⟩
  have k2 := K1.out.trans h2.kept
  obtain ⟨d1, d2, d3, dP⟩ := K0.out w2 k2
  have O2 := Lib.hid (show Own R _ w2 ((w.heap.size + 1, 0) :: (w.heap.size, X * A % p) :: L) from h2)
  have K2 := Lib.hid k2
  clear h2 k2 c1 c2 c3 cP
  go_wp2_with fail
  refine (mulO O2.out.since 0 (iy + 2) (i3 + 2) rfl HY.out H3.out RT.out SY7.out SB2.out).mono ?_
  rintro e w3 ⟨rfl, h3⟩
  have k3 := K2.out.trans h3.kept
  obtain ⟨c1, c2, c3, cP⟩ := K0.out w3 k3
  have O3 := Lib.hid (show Own R _ w3 ((w.heap.size + 1, Y * B) :: (w.heap.size, X * A % p) :: L) from h3)
  have K3 := Lib.hid k3
  clear h3 k3 d1 d2 d3 dP
  go_wp2_with fail
  refine (modO O3.out.since 0 0 (iP + 2) rfl rfl HP.out (by omega) RT.out SYB.out SP.out HD.out HP0.out).mono ?_
  rintro e w4 ⟨rfl, h4⟩
  have k4 := K3.out.trans h4.kept
  have O4 := Lib.hid (show Own R w0 w4 ((w.heap.size + 1, Y * B % p) :: (w.heap.size, X * A % p) :: L) from ⟨h4.ints, HS0.out.kept.trans k4, h4.tab, h4.low⟩)
  clear h4 k4 c1 c2 c3 cP
  go_wp2_with fail
  go_ret2
  exact ⟨w.heap.size, w.heap.size + 1, rfl, O4.out, RS.out, RT.out⟩

set_option maxHeartbeats 4000000 in
set_option maxRecDepth 100000 in
theorem fromTwistedO (h : Own R w0 w L) (rc c z2 z3 x y P ix iy i2 i3 iP : Nat) (X Y A B p : Int) (hc1 : w.cell? ⟨rc, 1, .none⟩ = some (ptr c)) (hc2 : w.cell? ⟨rc, 6, .none⟩ = some (ptr z2)) (hc3 : w.cell? ⟨rc, 7, .none⟩ = some (ptr z3)) (hcP : w.cell? ⟨c, 0, .none⟩ = some (ptr P)) (hRr : R rc) (hRc : R c)
    (hx : L[ix]? = some (x, X)) (hy : L[iy]? = some (y, Y)) (h2 : L[i2]? = some (z2, A)) (h3 : L[i3]? = some (z3, B)) (hP : L[iP]? = some (P, p)) (sX : Sz 350 X) (sY : Sz 350 Y) (sA : Sz 350 A) (sB : Sz 350 B) (sp : Sz 630000 p) (hdiv : DivOK p.natAbs) (hp0 : p ≠ 0) :
    Calls Tryz.prog 120 #[ptr rc, ptr x, ptr y] w (fun e w' => ∃ tx ty, e = .returned (.tuple #[ptr tx, ptr ty]) ∧ Own R w0 w' ((ty, Y * B % p) :: (tx, X * A % p) :: L) ∧ ¬ R tx ∧ ¬ R ty) := by
  obtain ⟨hN, rt, rs⟩ := h.new2
  have hs := h.since
  have lrc : rc < w.heap.size := World.block_lt_of_cell? w ⟨rc, 1, .none⟩ hc1
  have lc : c < w.heap.size := World.block_lt_of_cell? w ⟨c, 0, .none⟩ hcP
  have HN := Lib.hid hN
  have RT := Lib.hid rt
  have RS := Lib.hid rs
  have HX := Lib.hid hx
  have HY := Lib.hid hy
  have H2 := Lib.hid h2
  have H3 := Lib.hid h3
  have HP := Lib.hid hP
  have SP := Lib.hid sp
  have SXA : RowKit.Hid (Sz 630000 (X * A)) := Lib.hid ((sX.mul sA).le (by decide : 350 + 350 ≤ 630000))
  have SYB : RowKit.Hid (Sz 630000 (Y * B)) := Lib.hid ((sY.mul sB).le (by decide : 350 + 350 ≤ 630000))
  have SX7 := Lib.hid (sX.le (by decide : 350 ≤ 704))
  have SY7 := Lib.hid (sY.le (by decide : 350 ≤ 704))
  have SA2 := Lib.hid (sA.le (by decide : 350 ≤ 2496))
  have SB2 := Lib.hid (sB.le (by decide : 350 ≤ 2496))
  have HD := Lib.hid hdiv
  have HP0 := Lib.hid hp0
  have HS0 := Lib.hid h
  have K0 := Lib.hid (fun (w' : World) (k : Kept R w w') => (⟨k.cell hRr hc1, k.cell hRr hc2, k.cell hRr hc3, k.cell hRc hcP⟩ : w'.cell? ⟨rc, 1, .none⟩ = some (ptr c) ∧ w'.cell? ⟨rc, 6, .none⟩ = some (ptr z2) ∧ w'.cell? ⟨rc, 7, .none⟩ = some (ptr z3) ∧ w'.cell? ⟨c, 0, .none⟩ = some (ptr P)))
  have KN := Lib.hid (hs.new2.1.kept)
  clear h hN rt rs hx hy h2 h3 hP sX sY sA sB sp hdiv hp0 hs hRr hRc
  unfold ptr at *
  go_enter Tryz.func120, Tryz.ntmps120
  go_wp2_with fail
  refine (mulO HN.out.since 1 (ix + 2) (i2 + 2) rfl HX.out H2.out RS.out SX7.out SA2.out).mono ?_
  rintro e w1 ⟨rfl, h1⟩
  have k1 := KN.out.trans h1.kept
  obtain ⟨c1, c2, c3, cP⟩ := K0.out w1 k1
  have O1 := Lib.hid (show Own R _ w1 ((w.heap.size + 1, 0) :: (w.heap.size, X * A) :: L) from h1)
  have K1 := Lib.hid k1
  clear h1 k1 hc1 hc2 hc3 hcP
  go_wp2_with fail
  refine (modO O1.out.since 1 1 (iP + 2) rfl rfl HP.out (by omega) RS.out SXA.out SP.out HD.out HP0.out).mono ?_
  rintro e w2 ⟨rfl, h2⟩
  have k2 := K1.out.trans h2.kept
  obtain ⟨d1, d2, d3, dP⟩ := K0.out w2 k2
  have O2 := Lib.hid (show Own R _ w2 ((w.heap.size + 1, 0) :: (w.heap.size, X * A % p) :: L) from h2)
  have K2 := Lib.hid k2
  clear h2 k2 c1 c2 c3 cP
  go_wp2_with fail
  refine (mulO O2.out.since 0 (iy + 2) (i3 + 2) rfl HY.out H3.out RT.out SY7.out SB2.out).mono ?_
  rintro e w3 ⟨rfl, h3⟩
  have k3 := K2.out.trans h3.kept
  obtain ⟨c1, c2, c3, cP⟩ := K0.out w3 k3
  have O3 := Lib.hid (show Own R _ w3 ((w.heap.size + 1, Y * B) :: (w.heap.size, X * A % p) :: L) from h3)
  have K3 := Lib.hid k3
  clear h3 k3 d1 d2 d3 dP
  go_wp2_with fail
  refine (modO O3.out.since 0 0 (iP + 2) rfl rfl HP.out (by omega) RT.out SYB.out SP.out HD.out HP0.out).mono ?_
  rintro e w4 ⟨rfl, h4⟩
  have k4 := K3.out.trans h4.kept
  have O4 := Lib.hid (show Own R w0 w4 ((w.heap.size + 1, Y * B % p) :: (w.heap.size, X * A % p) :: L) from ⟨h4.ints, HS0.out.kept.trans k4, h4.tab, h4.low⟩)
  clear h4 k4 c1 c2 c3 cP
  go_wp2_with fail
  go_ret2
  exact ⟨w.heap.size, w.heap.size + 1, rfl, O4.out, RS.out, RT.out⟩
end
end Go.Proofs.YtohhkjamddojmaaGreatDoor.Big
