/- NamedAdd. Named: the numbers of a curve as bytes. Numbers in base 65536: the words of the specification's great numbers. -/
import Derived.Test.YtohhkjamddojmaaGreatDoorSO
import Derived.Test.YtohhkjamddojmaaGreatDoorWA
set_option maxHeartbeats 16000000
namespace Go.Proofs.YtohhkjamddojmaaGreatDoor.Bit
open Go.RowKit
open Big EcLaw
attribute [local go_sem] ptr
attribute [local irreducible] Sz
section
variable {R : Nat → Prop} {w0 w w' : World} {L L' : List (Nat × Int)}
theorem nat_of_on {c : Nums} {A : Pt} (h : On c.p 0 c.b A) {U V : Int} (e : A = .aff U V) : ∃ X Y : Nat, U = (X : Int) ∧ V = (Y : Int) ∧ X < c.p ∧ Y < c.p := by
 subst e
 have h1 := h.1
 have h2 := h.2.1
 have h3 := h.2.2.1
 have h4 := h.2.2.2.1
 exact ⟨U.toNat, V.toNat, by omega, by omega, by omega, by omega⟩
set_option maxRecDepth 100000 in
theorem namedAdd1 {c : Nums} (hc : Grp c) (h : Own R w0 w L) (b0 b1 b2 b3 b4 cc P iP gx ox gy oy gu ou gv ov X1 Y1 X2 Y2 : Nat) (xs ys us vs : List Nat) (hP : L[iP]? = some (P, (c.p : Int)))
 (hc0 : w.cell? ⟨b0, 0, .none⟩ = some (ptr cc)) (hc1 : w.cell? ⟨b1, 0, .none⟩ = some (.slice (some ⟨gx, ox, .none⟩) xs.length xs.length)) (hc2 : w.cell? ⟨b2, 0, .none⟩ = some (.slice (some ⟨gy, oy, .none⟩) ys.length ys.length)) (hc3 : w.cell? ⟨b3, 0, .none⟩ = some (.slice (some ⟨gu, ou, .none⟩) us.length us.length)) (hc4 : w.cell? ⟨b4, 0, .none⟩ = some (.slice (some ⟨gv, ov, .none⟩) vs.length vs.length))
 (hcP : w.cell? ⟨cc, 1, .none⟩ = some (ptr P)) (hR0 : R b0) (hR1 : R b1) (hR2 : R b2) (hR3 : R b3) (hR4 : R b4) (hRc : R cc) (hRx : R gx) (hRy : R gy) (hRu : R gu) (hRv : R gv)
 (sx : Sl w gx ox xs) (sy : Sl w gy oy ys) (su : Sl w gu ou us) (sv : Sl w gv ov vs) (ex : bev xs = X1) (ey : bev ys = Y1) (eu : bev us = X2) (ev : bev vs = Y2)
 (o1 : On c.p 0 c.b (.aff X1 Y1)) (o2 : On c.p 0 c.b (.aff X2 Y2)) (hne : Pt.aff (X1 : Int) Y1 ≠ .aff X2 Y2) (hs : EcLaw.add c.p 0 (.aff X1 Y1) (.aff X2 Y2) ≠ .inf) :
 Calls Tryz.prog 70 #[ptr b0, ptr b1, ptr b2, ptr b3, ptr b4] w (fun e w' => ∃ (tx ty X Y : Nat) (M : List (Nat × Int)), e = .returned (.tuple #[ptr tx, ptr ty]) ∧ Own R w0 w' ((ty, (Y : Int)) :: (tx, (X : Int)) :: M) ∧ X < B64 ^ 4 ∧ Y < B64 ^ 4 ∧ EcLaw.add c.p 0 (.aff X1 Y1) (.aff X2 Y2) = .aff X Y) := by
 have HSS := Lz h
 have O0 := Lz h.since
 have K5 := Lz (fun (w' : World) (k : Kept R w w') => (⟨k.cell hR0 hc0, k.cell hR1 hc1, k.cell hR2 hc2, k.cell hR3 hc3, k.cell hR4 hc4⟩ : w'.cell? ⟨b0, 0, .none⟩ = some (ptr cc) ∧ w'.cell? ⟨b1, 0, .none⟩ = some (.slice (some ⟨gx, ox, .none⟩) xs.length xs.length) ∧ w'.cell? ⟨b2, 0, .none⟩ = some (.slice (some ⟨gy, oy, .none⟩) ys.length ys.length) ∧ w'.cell? ⟨b3, 0, .none⟩ = some (.slice (some ⟨gu, ou, .none⟩) us.length us.length) ∧ w'.cell? ⟨b4, 0, .none⟩ = some (.slice (some ⟨gv, ov, .none⟩) vs.length vs.length)))
 have HX := Lz (fun n => greatO (h.since.drew n) gx ox xs.length xs hRx (sx.kept (Kept.drew R w n) hRx).1 sx.2.1 sx.2.2.1 (Nat.le_refl _))
 have HY := Lz (fun w1 (M : List (Nat × Int)) (o : Own R w w1 M) => greatO o gy oy ys.length ys hRy (sy.kept o.kept hRy).1 sy.2.1 sy.2.2.1 (Nat.le_refl _))
 have HU := Lz (fun w1 (M : List (Nat × Int)) (o : Own R w w1 M) => greatO o gu ou us.length us hRu (su.kept o.kept hRu).1 su.2.1 su.2.2.1 (Nat.le_refl _))
 have HV := Lz (fun w1 (M : List (Nat × Int)) (o : Own R w w1 M) => greatO o gv ov vs.length vs hRv (sv.kept o.kept hRv).1 sv.2.1 sv.2.2.1 (Nat.le_refl _))
 have HM := Lz (fun w1 (x y u v : Nat) (o : Own R w w1 ((v, (Y2 : Int)) :: (u, (X2 : Int)) :: (y, (Y1 : Int)) :: (x, (X1 : Int)) :: L)) => addB hc o cc x y u v P 3 2 1 0 (iP + 4) X1 Y1 X2 Y2 (o.keep hcP hRc) hRc rfl rfl rfl rfl hP o1 o2 hne hs)
 have HN := Lz (fun U V (e : EcLaw.add c.p 0 (.aff X1 Y1) (.aff X2 Y2) = .aff U V) => nat_of_on (add_on hc.prm o1 o2) e)
 have HP4 := Lz (pB4 hc)
 rw [ex] at HX
 rw [ey] at HY
 rw [eu] at HU
 rw [ev] at HV
 clear h hP hc0 hc1 hc2 hc3 hc4 hcP hR0 hR1 hR2 hR3 hR4 hRc hRx hRy hRu hRv sx sy su sv hc ex ey eu ev o1 o2 hne hs
 have HN0 := Lz (K5.out w (Kept.refl _ _))
 obtain ⟨q0, q1, q2, q3, q4⟩ := HN0.out
 unfold ptr at *
 go_enter Tryz.func70, Tryz.ntmps70
 go_wp2_with fail
 go_region_held3 (fun w' => w'.cell? ⟨b0, 0, .none⟩ = some (.pointer (some ⟨cc, 0, .none⟩)) ∧ w'.cell? ⟨b1, 0, .none⟩ = some (.slice (some ⟨gx, ox, .none⟩) xs.length xs.length) ∧ w'.cell? ⟨b2, 0, .none⟩ = some (.slice (some ⟨gy, oy, .none⟩) ys.length ys.length) ∧ w'.cell? ⟨b3, 0, .none⟩ = some (.slice (some ⟨gu, ou, .none⟩) us.length us.length) ∧ w'.cell? ⟨b4, 0, .none⟩ = some (.slice (some ⟨gv, ov, .none⟩) vs.length vs.length)) (go_keep) (first | (go_at_call 71; refine (HM.out _ x1 y1 x2 y2 N4.out).mono ?_; rintro en w9 ⟨tx, ty, U, V, rfl, hq, e1, e2, hs⟩; obtain ⟨q0, q1, q2, q3, q4⟩ := K5.out _ hq.kept; have H9 := Lz hq; have HB := Lz hs; clear hq e1 e2 hs) | (go_at_call 61; refine (HV.out _ _ N3.out).mono ?_; rintro en v4 ⟨y2, rfl, hq, e1⟩; obtain ⟨q0, q1, q2, q3, q4⟩ := K5.out _ hq.kept; have N4 := Lz hq; clear hq e1) | (go_at_call 61; refine (HU.out _ _ N2.out).mono ?_; rintro en v3 ⟨x2, rfl, hq, e1⟩; obtain ⟨q0, q1, q2, q3, q4⟩ := K5.out _ hq.kept; have N3 := Lz hq; clear hq e1) | (go_at_call 61; refine (HY.out _ _ N1.out).mono ?_; rintro en v2 ⟨y1, rfl, hq, e1⟩; obtain ⟨q0, q1, q2, q3, q4⟩ := K5.out _ hq.kept; have N2 := Lz hq; clear hq e1) | (go_at_call 61; refine (HX.out _).mono ?_; rintro en v1 ⟨x1, rfl, hq, e1⟩; obtain ⟨q0, q1, q2, q3, q4⟩ := K5.out _ hq.kept; have N1 := Lz hq; clear hq e1))
 all_goals
  obtain ⟨X, Y, eU, eV, hX, hY⟩ := HN.out _ _ HB.out
  have HF := Lz HB.out
  rw [eU, eV] at HF
  subst eU eV
  have HO := Lz (HSS.out.after H9.out)
  have HL := Lz (And.intro (Nat.lt_trans hX HP4.out) (Nat.lt_trans hY HP4.out))
  clear hX hY HB H9 HX HY HU HV HM HN HP4 K5 O0
  go_wp2_with fail
  go_ret2
  exact ⟨tx, ty, X, Y, _, rfl, HO.out, HL.out.1, HL.out.2, HF.out⟩
set_option maxRecDepth 100000 in
theorem namedAddO {bits : Nat} {c : Nums} (hf : Four bits c) (h : Own R w0 w []) (ae : Addr) (he : w.cell? ⟨2, 0, .none⟩ = some (eofV ae)) (gx gy gu gv X1 Y1 X2 Y2 : Nat) (ax ay au av : Value) (bx : ByV w gx ax X1) (by_ : ByV w gy ay Y1) (bu : ByV w gu au X2) (bv : ByV w gv av Y2) (hRx : R gx) (hRy : R gy) (hRu : R gu) (hRv : R gv)
 (o1 : On c.p 0 c.b (.aff X1 Y1)) (o2 : On c.p 0 c.b (.aff X2 Y2)) (hne : Pt.aff (X1 : Int) Y1 ≠ .aff X2 Y2) (hs : EcLaw.add c.p 0 (.aff X1 Y1) (.aff X2 Y2) ≠ .inf) :
 Calls Tryz.prog 28 #[.int .i64 (bits : Nat), ax, ay, au, av] w (GreatP R w (fun X Y => EcLaw.add c.p 0 (.aff X1 Y1) (.aff X2 Y2) = .aff X Y)) := by
 obtain ⟨ox, xs, rfl, sx, ex, zx⟩ := bx
 obtain ⟨oy, ys, rfl, sy, ey, zy⟩ := by_
 obtain ⟨ou, us, rfl, su, eu, zu⟩ := bu
 obtain ⟨ov, vs, rfl, sv, ev, zv⟩ := bv
 have hmf : ∀ (fn : Fn) (first cap : Array Value) (w : World), (Instr.makeFunc fn first cap).run Tryz.prog w = .ok (.func fn first cap) w := fun _ _ _ _ => rfl
 have g1 := h.guard (.cells #[.slice (some ⟨gx, ox, .none⟩) xs.length xs.length] 25)
 have e0 := h.since.box (.cells #[.slice (some ⟨gx, ox, .none⟩) xs.length xs.length] 25)
 have n0 := heap_alloc_new w (.cells #[.slice (some ⟨gx, ox, .none⟩) xs.length xs.length] 25)
 have s1 : (w.alloc (.cells #[.slice (some ⟨gx, ox, .none⟩) xs.length xs.length] 25)).heap.size = w.heap.size + 1 := by
  show (Array.push _ _).size = _
  rw [Array.size_push]
 have g2 := g1.guard (.cells #[.slice (some ⟨gy, oy, .none⟩) ys.length ys.length] 25)
 have e1 := g1.since.box (.cells #[.slice (some ⟨gy, oy, .none⟩) ys.length ys.length] 25)
 have n1 := heap_alloc_new (w.alloc (.cells #[.slice (some ⟨gx, ox, .none⟩) xs.length xs.length] 25)) (.cells #[.slice (some ⟨gy, oy, .none⟩) ys.length ys.length] 25)
 have s2 : ((w.alloc (.cells #[.slice (some ⟨gx, ox, .none⟩) xs.length xs.length] 25)).alloc (.cells #[.slice (some ⟨gy, oy, .none⟩) ys.length ys.length] 25)).heap.size = w.heap.size + 1 + 1 := by
  show (Array.push _ _).size = _
  rw [Array.size_push, s1]
 have g3 := g2.guard (.cells #[.slice (some ⟨gu, ou, .none⟩) us.length us.length] 25)
 have e2 := g2.since.box (.cells #[.slice (some ⟨gu, ou, .none⟩) us.length us.length] 25)
 have n2 := heap_alloc_new ((w.alloc (.cells #[.slice (some ⟨gx, ox, .none⟩) xs.length xs.length] 25)).alloc (.cells #[.slice (some ⟨gy, oy, .none⟩) ys.length ys.length] 25)) (.cells #[.slice (some ⟨gu, ou, .none⟩) us.length us.length] 25)
 have s3 : (((w.alloc (.cells #[.slice (some ⟨gx, ox, .none⟩) xs.length xs.length] 25)).alloc (.cells #[.slice (some ⟨gy, oy, .none⟩) ys.length ys.length] 25)).alloc (.cells #[.slice (some ⟨gu, ou, .none⟩) us.length us.length] 25)).heap.size = w.heap.size + 1 + 1 + 1 := by
  show (Array.push _ _).size = _
  rw [Array.size_push, s2]
 have g4 := g3.guard (.cells #[.slice (some ⟨gv, ov, .none⟩) vs.length vs.length] 25)
 have e3 := g3.since.box (.cells #[.slice (some ⟨gv, ov, .none⟩) vs.length vs.length] 25)
 have n3 := heap_alloc_new (((w.alloc (.cells #[.slice (some ⟨gx, ox, .none⟩) xs.length xs.length] 25)).alloc (.cells #[.slice (some ⟨gy, oy, .none⟩) ys.length ys.length] 25)).alloc (.cells #[.slice (some ⟨gu, ou, .none⟩) us.length us.length] 25)) (.cells #[.slice (some ⟨gv, ov, .none⟩) vs.length vs.length] 25)
 simp only [s1] at g2 n1 e1
 simp only [s1, s2] at g3 n2 e2
 simp only [s1, s2, s3] at g4 n3 e3
 have m0_1 := e1.block n0 (RO.self _ _)
 have m0_2 := e2.block m0_1 (.inl (RO.self _ _))
 have m0_3 := e3.block m0_2 (.inl (.inl (RO.self _ _)))
 have m1_2 := e2.block n1 (RO.self _ _)
 have m1_3 := e3.block m1_2 (.inl (RO.self _ _))
 have m2_3 := e3.block n2 (RO.self _ _)
 have k4 := ((((h.since.box (.cells #[.slice (some ⟨gx, ox, .none⟩) xs.length xs.length] 25)).box (.cells #[.slice (some ⟨gy, oy, .none⟩) ys.length ys.length] 25)).box (.cells #[.slice (some ⟨gu, ou, .none⟩) us.length us.length] 25)).box (.cells #[.slice (some ⟨gv, ov, .none⟩) vs.length vs.length] 25)).kept
 have hl2 : R 2 := h.low 2 (by omega)
 have C := Lz (namedO hf g4 ae (k4.cell hl2 he))
 have F := Lz (fun (w2 : World) (K : Nat → Prop) (b cc zP zN zB zX zY : Nat) (B : CurveB (RO (RO (RO (RO R w.heap.size) (w.heap.size + 1)) (w.heap.size + 1 + 1)) (w.heap.size + 1 + 1 + 1)) ((((w.alloc (.cells #[.slice (some ⟨gx, ox, .none⟩) xs.length xs.length] 25)).alloc (.cells #[.slice (some ⟨gy, oy, .none⟩) ys.length ys.length] 25)).alloc (.cells #[.slice (some ⟨gu, ou, .none⟩) us.length us.length] 25)).alloc (.cells #[.slice (some ⟨gv, ov, .none⟩) vs.length vs.length] 25)) w2 c K b cc zP zN zB zX zY) =>
  great70 B.own #[.pointer (some ⟨b, 0, .none⟩), .pointer (some ⟨w.heap.size, 0, .none⟩), .pointer (some ⟨w.heap.size + 1, 0, .none⟩), .pointer (some ⟨w.heap.size + 1 + 1, 0, .none⟩), .pointer (some ⟨w.heap.size + 1 + 1 + 1, 0, .none⟩)] (fun X Y => EcLaw.add c.p 0 (.aff X1 Y1) (.aff X2 Y2) = .aff X Y) (fun w1 o k =>
   have kk : Kept R w w1 := k4.trans ((B.kept.ro.ro.ro.ro).trans (k.weaken (fun _ _ hn hk => hn (B.mono _ (.inl (.inl (.inl (.inl hk))))))))
   have hin : ∀ i, R i → RO (RO (RO K w2.heap.size) (w2.heap.size + 1)) (w2.heap.size + 1 + 1) i := fun i hi => .inl (.inl (.inl (B.mono _ (.inl (.inl (.inl (.inl hi)))))))
   namedAdd1 hf.grp o b (w.heap.size) (w.heap.size + 1) (w.heap.size + 1 + 1) (w.heap.size + 1 + 1 + 1) cc zP 4 gx ox gy oy gu ou gv ov X1 Y1 X2 Y2 xs ys us vs rfl
    (k.cell B.kb B.cb) (k.cell (B.mono _ (.inl (.inl (.inl (RO.self _ _))))) (B.kept.cell (.inl (.inl (.inl (RO.self _ _)))) (zzj m0_3 rfl))) (k.cell (B.mono _ (.inl (.inl (RO.self _ _)))) (B.kept.cell (.inl (.inl (RO.self _ _))) (zzj m1_3 rfl))) (k.cell (B.mono _ (.inl (RO.self _ _))) (B.kept.cell (.inl (RO.self _ _)) (zzj m2_3 rfl))) (k.cell (B.mono _ (RO.self _ _)) (B.kept.cell (RO.self _ _) (zzj n3 rfl)))
    (k.cell B.kc B.cP) (.inl (.inl (.inl B.kb))) (.inl (.inl (.inl (B.mono _ (.inl (.inl (.inl (RO.self _ _)))))))) (.inl (.inl (.inl (B.mono _ (.inl (.inl (RO.self _ _))))))) (.inl (.inl (.inl (B.mono _ (.inl (RO.self _ _)))))) (.inl (.inl (.inl (B.mono _ (RO.self _ _))))) (.inl (.inl (.inl B.kc)))
    (hin _ hRx) (hin _ hRy) (hin _ hRu) (hin _ hRv) (sx.kept kk hRx) (sy.kept kk hRy) (su.kept kk hRu) (sv.kept kk hRv) ex ey eu ev o1 o2 hne hs))
 have HE := Lz (fun (w2 w3 : World) (K : Nat → Prop) (b cc zP zN zB zX zY : Nat) (B : CurveB (RO (RO (RO (RO R w.heap.size) (w.heap.size + 1)) (w.heap.size + 1 + 1)) (w.heap.size + 1 + 1 + 1)) ((((w.alloc (.cells #[.slice (some ⟨gx, ox, .none⟩) xs.length xs.length] 25)).alloc (.cells #[.slice (some ⟨gy, oy, .none⟩) ys.length ys.length] 25)).alloc (.cells #[.slice (some ⟨gu, ou, .none⟩) us.length us.length] 25)).alloc (.cells #[.slice (some ⟨gv, ov, .none⟩) vs.length vs.length] 25)) w2 c K b cc zP zN zB zX zY) (e : Ending) (G : GreatP K w2 (fun X Y => EcLaw.add c.p 0 (.aff X1 Y1) (.aff X2 Y2) = .aff X Y) e w3) =>
  (show GreatP R w (fun X Y => EcLaw.add c.p 0 (.aff X1 Y1) (.aff X2 Y2) = .aff X Y) e w3 from by
   obtain ⟨X, Y, vx, vy, g, g', a1, a2, a3, a4, a5, a6, a7, a8⟩ := G
   have kk : Kept R w w3 := k4.trans ((B.kept.ro.ro.ro.ro).trans (a3.weaken (fun _ _ hn hk => hn (B.mono _ (.inl (.inl (.inl (.inl hk))))))))
   have : w.heap.size ≤ w2.heap.size := (k4.trans B.kept.ro.ro.ro.ro).size
   exact ⟨X, Y, vx, vy, g, g', a1, a2, kk, (h.turned kk).since, a5, a6, by omega, by omega⟩))
 clear h e0 g1 n0 g2 e1 n1 s1 s2 s3 g3 e2 n2 g4 e3 n3 m0_1 m0_2 m0_3 m1_2 m1_3 m2_3 k4 hl2 he hRx hRy hRu hRv sx sy su sv ex ey eu ev zx zy zu zv o1 o2 hne hs
 go_enter Tryz.func28, Tryz.ntmps28
 go_wp2_with fail
 refine C.out.mono ?_
 rintro en w1 ⟨cc, zP, zN, zB, zX, zY, nm, rfl, a1, a2, a3, a4⟩
 have HC := Lz (CurveB.of a1 a2 a3 a4)
 have q0 := zzj (k := 0) (heap_alloc_new w1 (.cells #[ptr cc] 106)) rfl
 have C2 := Lz (F.out _ _ _ _ _ _ _ _ _ HC.out)
 clear a1 a2 a3 a4 F C
 unfold ptr at *
 go_wp2_with fail
 refine C2.out.mono ?_
 rintro en w3 hq
 obtain ⟨X, Y, vx, vy, g, g', rfl, h1⟩ := id hq
 have H3 := Lz (HE.out _ _ _ _ _ _ _ _ _ _ HC.out _ hq)
 clear hq h1 C2
 go_wp2_with fail
 go_ret3
 exact H3.out
end
end Go.Proofs.YtohhkjamddojmaaGreatDoor.Bit

set_option maxHeartbeats 16000000
namespace Go.Proofs.YtohhkjamddojmaaGreatDoor.Bit
open Go.RowKit
open Big EcLaw
attribute [local go_sem] ptr
attribute [local irreducible] Sz
section
variable {R : Nat → Prop} {w0 w w' : World} {L L' : List (Nat × Int)}
def Bys (K : Nat → Prop) (w1 w' : World) (L : List (Nat × Int)) (B : List (Nat × Value × Nat)) : Prop :=
 Kept K w1 w' ∧ Own (fun k => K k ∨ ∃ x, x ∈ B ∧ k = x.1) w' w' L ∧ ∀ x, x ∈ B → ByV w' x.1 x.2.1 x.2.2 ∧ w1.heap.size ≤ x.1
theorem Bys.start {K : Nat → Prop} (h : Own K w w L) : Bys K w w L [] := by
 refine ⟨Kept.refl _ _, ?_, by simp⟩
 have : (fun k => K k ∨ ∃ x : Nat × Value × Nat, x ∈ [] ∧ k = x.1) = K := by funext k; simp
 rw [this]; exact h
theorem Bys.drew {K : Nat → Prop} {B : List (Nat × Value × Nat)} (h : Bys K w w' L B) (n : Nat) : Bys K w (w'.drewN n) L B :=
 ⟨h.1.trans (Kept.drew _ _ _), (h.2.1.drew n).since, fun x hx => ⟨(h.2.2 x hx).1.kept (Kept.drew (fun k => K k ∨ ∃ x, x ∈ B ∧ k = x.1) _ _) (.inr ⟨x, hx, rfl⟩), (h.2.2 x hx).2⟩⟩
theorem Bys.next {K : Nat → Prop} {B : List (Nat × Value × Nat)} (h : Bys K w w' L B) (j : Nat) {x : Nat} (n : Nat) (hj : L[j]? = some (x, (n : Int))) (hn : n < B64 ^ 4) :
 Calls Tryz.prog 57 #[ptr x] w' (fun e w'' => ∃ g o l, e = .returned (.slice (some ⟨g, o, .none⟩) l l) ∧ Bys K w w'' L ((g, .slice (some ⟨g, o, .none⟩) l l, n) :: B)) := by
 refine (intBytesN h.2.1 j n hj (dg_four hn)).mono ?_
 rintro e w3 ⟨g, o, ks, rfl, a1, a2, a3, a4, a5, a6, a7, a8⟩
 refine ⟨g, o, ks.length, rfl, h.1.trans (a1.kept.weaken (fun _ _ hn hk => hn (.inl hk))), ?_, ?_⟩
 · have : (fun k => K k ∨ ∃ x : Nat × Value × Nat, x ∈ (g, Value.slice (some ⟨g, o, .none⟩) ks.length ks.length, n) :: B ∧ k = x.1) = RO (fun k => K k ∨ ∃ x, x ∈ B ∧ k = x.1) g := by
    funext k
    apply propext
    simp only [RO, List.mem_cons]
    constructor
    · rintro (h | ⟨x, rfl | h, e⟩)
      · exact .inl (.inl h)
      · exact .inr e
      · exact .inl (.inr ⟨x, h, e⟩)
    · rintro ((h | ⟨x, h, e⟩) | e)
      · exact .inl h
      · exact .inr ⟨x, .inr h, e⟩
      · exact .inr ⟨_, .inl rfl, e⟩
   rw [this]; exact a2
 · intro x hx
   rcases List.mem_cons.1 hx with rfl | hx
   · exact ⟨ByV.of a2 a3 a4 a5 a6 (by have := dg_four hn; omega), Nat.le_trans h.1.size a8⟩
   · exact ⟨(h.2.2 x hx).1.kept a1.kept (.inr ⟨x, hx, rfl⟩), (h.2.2 x hx).2⟩
def NamedP (R : Nat → Prop) (w : World) (c : Nums) (bits : Nat) (e : Ending) (w' : World) : Prop :=
 ∃ vP vN vB vX vY gP gN gB gX gY, e = .returned (.tuple #[.agg #[vP, vN, vB, vX, vY, .int .i64 (bits : Nat)], .bool true]) ∧ Kept R w w' ∧ Own R w' w' [] ∧
  (ByV w' gP vP c.p ∧ ByV w' gN vN c.n ∧ ByV w' gB vB c.b ∧ ByV w' gX vX c.x ∧ ByV w' gY vY c.y) ∧ w.heap.size ≤ gP ∧ w.heap.size ≤ gN ∧ w.heap.size ≤ gB ∧ w.heap.size ≤ gX ∧ w.heap.size ≤ gY
theorem set6 {w : World} {b : Nat} {a0 a1 a2 a3 a4 a5 v0 v1 v2 v3 v4 v5 : Value} {T : TypeId} (h : w.heap[b]? = some (.cells #[a0, a1, a2, a3, a4, a5] T)) :
 ((((((w.setCell ⟨b, 0, .none⟩ v0).setCell ⟨b, 1, .none⟩ v1).setCell ⟨b, 2, .none⟩ v2).setCell ⟨b, 3, .none⟩ v3).setCell ⟨b, 4, .none⟩ v4).setCell ⟨b, 5, .none⟩ v5).heap[b]? = some (.cells #[v0, v1, v2, v3, v4, v5] T) := by
 simp only [World.setCell, Array.getElem?_modify, if_true]
 rw [h]
 simp
theorem kept_at {w : World} {b o : Nat} {v : Value} (hb : ¬ R b) : Kept R w (w.setCell ⟨b, o, .none⟩ v) := (Grow.of (zzw w b o v)).weaken (fun k _ e => by cases e; exact hb)
theorem kept6 {w : World} {b : Nat} {v0 v1 v2 v3 v4 v5 : Value} (hb : ¬ R b) :
 Kept R w ((((((w.setCell ⟨b, 0, .none⟩ v0).setCell ⟨b, 1, .none⟩ v1).setCell ⟨b, 2, .none⟩ v2).setCell ⟨b, 3, .none⟩ v3).setCell ⟨b, 4, .none⟩ v4).setCell ⟨b, 5, .none⟩ v5) :=
 (((((kept_at hb).trans (kept_at hb)).trans (kept_at hb)).trans (kept_at hb)).trans (kept_at hb)).trans (kept_at hb)
theorem named_end {bits cc gP gN gB gX gY : Nat} {vP vN vB vX vY : Value} {c : Nums} {v5 w1 : World} {o : Obj} (h : Own R w0 w []) (hn : ¬ R w.heap.size) (k0 : Kept R w (w.alloc o)) (k1 : Kept (RO R w.heap.size) (w.alloc o) w1)
 (H : Bys (RO (RO R w.heap.size) cc) w1 v5 L [(gY, vY, c.y), (gX, vX, c.x), (gB, vB, c.b), (gN, vN, c.n), (gP, vP, c.p)]) :
 NamedP R w c bits (.returned (.tuple #[.agg #[vP, vN, vB, vX, vY, .int .i64 (bits : Nat)], .bool true])) ((((((v5.setCell ⟨w.heap.size, 0, .none⟩ vP).setCell ⟨w.heap.size, 1, .none⟩ vN).setCell ⟨w.heap.size, 2, .none⟩ vB).setCell ⟨w.heap.size, 3, .none⟩ vX).setCell ⟨w.heap.size, 4, .none⟩ vY).setCell ⟨w.heap.size, 5, .none⟩ (.int .i64 (bits : Nat))) := by
 have hs : (w.alloc o).heap.size = w.heap.size + 1 := Array.size_push _
 have hz := k1.size
 rw [hs] at hz
 obtain ⟨b1, z1⟩ := H.2.2 _ (.head _)
 obtain ⟨b2, z2⟩ := H.2.2 _ (.tail _ (.head _))
 obtain ⟨b3, z3⟩ := H.2.2 _ (.tail _ (.tail _ (.head _)))
 obtain ⟨b4, z4⟩ := H.2.2 _ (.tail _ (.tail _ (.tail _ (.head _))))
 obtain ⟨b5, z5⟩ := H.2.2 _ (.tail _ (.tail _ (.tail _ (.tail _ (.head _)))))
 simp only at b1 b2 b3 b4 b5 z1 z2 z3 z4 z5
 have kk : Kept R w v5 := k0.trans (k1.ro.trans (H.1.weaken (fun _ _ hn hk => hn (.inl (.inl hk)))))
 have ke := kk.trans (kept6 (v0 := vP) (v1 := vN) (v2 := vB) (v3 := vX) (v4 := vY) (v5 := .int .i64 (bits : Nat)) hn)
 have one : ∀ {g n : Nat} {v : Value}, ByV v5 g v n → w1.heap.size ≤ g → ByV ((((((v5.setCell ⟨w.heap.size, 0, .none⟩ vP).setCell ⟨w.heap.size, 1, .none⟩ vN).setCell ⟨w.heap.size, 2, .none⟩ vB).setCell ⟨w.heap.size, 3, .none⟩ vX).setCell ⟨w.heap.size, 4, .none⟩ vY).setCell ⟨w.heap.size, 5, .none⟩ (.int .i64 (bits : Nat))) g v n :=
  fun {g n v} b z => b.kept (kept6 (R := fun k => k = g) (by omega)) rfl
 exact ⟨vP, vN, vB, vX, vY, gP, gN, gB, gX, gY, rfl, ke, (h.turned ke).since, ⟨one b5 z5, one b4 z4, one b3 z3, one b2 z2, one b1 z1⟩, by omega, by omega, by omega, by omega, by omega⟩
theorem nums_lt {bits : Nat} {c : Nums} (h : Four bits c) : c.p < B64 ^ 4 ∧ c.n < B64 ^ 4 ∧ c.b < B64 ^ 4 ∧ c.x < B64 ^ 4 ∧ c.y < B64 ^ 4 := by
 cases h <;> decide +kernel
set_option maxRecDepth 100000 in
theorem curveNamedO {bits : Nat} {c : Nums} (hf : Four bits c) (h : Own R w0 w []) (ae : Addr) (he : w.cell? ⟨2, 0, .none⟩ = some (eofV ae)) :
 Calls Tryz.prog 15 #[.int .i64 (bits : Nat)] w (NamedP R w c bits) := by
 have g1 := h.guard (.cells #[.slice .none 0 0, .slice .none 0 0, .slice .none 0 0, .slice .none 0 0, .slice .none 0 0, .int .i64 0] 27)
 have e0 := h.since.box (.cells #[.slice .none 0 0, .slice .none 0 0, .slice .none 0 0, .slice .none 0 0, .slice .none 0 0, .int .i64 0] 27)
 have n0 := heap_alloc_new w (.cells #[.slice .none 0 0, .slice .none 0 0, .slice .none 0 0, .slice .none 0 0, .slice .none 0 0, .int .i64 0] 27)
 have hl2 : R 2 := h.low 2 (by omega)
 have C := Lz (namedO hf g1 ae (e0.kept.cell hl2 he))
 have HF := Lz (And.intro e0.kept (And.intro n0 (And.intro h.fresh h)))
 have NL := Lz (nums_lt hf)
 clear h g1 e0 n0 hl2 he hf
 go_enter Tryz.func15, Tryz.ntmps15
 go_wp2_with fail
 refine C.out.mono ?_
 rintro en w1 ⟨cc, zP, zN, zB, zX, zY, nm, rfl, a1, a2, a3, a4⟩
 have HC := Lz (And.intro a1 (And.intro a2 (And.intro a3 a4)))
 have HB := Lz (Bys.start a1)
 have K := Lz (fun (w' : World) (k : Kept (RO (RO R w.heap.size) cc) w1 w') => (⟨k.cell (RO.self _ _) (zzj a3 rfl), k.cell (RO.self _ _) (zzj a3 rfl), k.cell (RO.self _ _) (zzj a3 rfl), k.cell (RO.self _ _) (zzj a3 rfl), k.cell (RO.self _ _) (zzj a3 rfl), k.cell (RO.self _ _) (zzj a3 rfl)⟩ :
  w'.cell? ⟨cc, 1, .none⟩ = some (ptr zP) ∧ w'.cell? ⟨cc, 2, .none⟩ = some (ptr zN) ∧ w'.cell? ⟨cc, 3, .none⟩ = some (ptr zB) ∧ w'.cell? ⟨cc, 4, .none⟩ = some (ptr zX) ∧ w'.cell? ⟨cc, 5, .none⟩ = some (ptr zY) ∧ w'.cell? ⟨cc, 6, .none⟩ = some (.int .i64 (bits : Nat))))
 clear a1 a2 a3 a4 C
 have HN0 := Lz (K.out w1 (Kept.refl _ _))
 obtain ⟨q1, q2, q3, q4, q5, q6⟩ := HN0.out
 unfold ptr at *
 go_wp2_with fail
 have HK0 := Lz (fun (w' : World) (k : Kept (RO (RO R w.heap.size) cc) w1 w') => (by rw [k.block w.heap.size (by have := HC.out.2.1.size; have : w.heap.size < (w.alloc (.cells #[.slice .none 0 0, .slice .none 0 0, .slice .none 0 0, .slice .none 0 0, .slice .none 0 0, .int .i64 0] 27)).heap.size := (Array.getElem?_eq_some_iff.1 HF.out.2.1).1; omega) (fun e => e (.inl (RO.self _ _)))]; exact HC.out.1.block (HC.out.2.1.block _ (Array.getElem?_eq_some_iff.1 HF.out.2.1).1 (fun e => e (RO.self _ _)) ▸ HF.out.2.1) (.inl (RO.self _ _)) : w'.heap[w.heap.size]? = some (.cells #[.slice .none 0 0, .slice .none 0 0, .slice .none 0 0, .slice .none 0 0, .slice .none 0 0, .int .i64 0] 27)))
 have HK7 := Lz (fun (w' : World) (k : Kept (RO (RO R w.heap.size) cc) w1 w') => (⟨zzj (HK0.out w' k) rfl, zzj (HK0.out w' k) rfl, zzj (HK0.out w' k) rfl, zzj (HK0.out w' k) rfl, zzj (HK0.out w' k) rfl, zzj (HK0.out w' k) rfl, block_free (HK0.out w' k), block_free (HK0.out w' k), block_free (HK0.out w' k), block_free (HK0.out w' k), block_free (HK0.out w' k), block_free (HK0.out w' k)⟩ : w'.cell? ⟨w.heap.size, 0, .none⟩ = some (.slice .none 0 0) ∧ w'.cell? ⟨w.heap.size, 1, .none⟩ = some (.slice .none 0 0) ∧ w'.cell? ⟨w.heap.size, 2, .none⟩ = some (.slice .none 0 0) ∧ w'.cell? ⟨w.heap.size, 3, .none⟩ = some (.slice .none 0 0) ∧ w'.cell? ⟨w.heap.size, 4, .none⟩ = some (.slice .none 0 0) ∧ w'.cell? ⟨w.heap.size, 5, .none⟩ = some (.int .i64 0) ∧ w'.frozen? ⟨w.heap.size, 0, .none⟩ = false ∧ w'.frozen? ⟨w.heap.size, 1, .none⟩ = false ∧ w'.frozen? ⟨w.heap.size, 2, .none⟩ = false ∧ w'.frozen? ⟨w.heap.size, 3, .none⟩ = false ∧ w'.frozen? ⟨w.heap.size, 4, .none⟩ = false ∧ w'.frozen? ⟨w.heap.size, 5, .none⟩ = false))
 obtain ⟨r0, r1, r2, r3, r4, r5, r6, r7, r8, r9, r10, r11⟩ := HK7.out w1 (Kept.refl _ _)
 clear HN0
 have hne : ¬ (cc = w.heap.size) := fun e => HC.out.2.2.2 (e ▸ RO.self _ _)
 have hne2 : ¬ (w.heap.size = cc) := fun e => hne e.symm
 go_region_held3 (fun w' => w'.cell? ⟨cc, 1, .none⟩ = some (.pointer (some ⟨zP, 0, .none⟩)) ∧ w'.cell? ⟨cc, 2, .none⟩ = some (.pointer (some ⟨zN, 0, .none⟩)) ∧ w'.cell? ⟨cc, 3, .none⟩ = some (.pointer (some ⟨zB, 0, .none⟩)) ∧ w'.cell? ⟨cc, 4, .none⟩ = some (.pointer (some ⟨zX, 0, .none⟩)) ∧ w'.cell? ⟨cc, 5, .none⟩ = some (.pointer (some ⟨zY, 0, .none⟩)) ∧ w'.cell? ⟨cc, 6, .none⟩ = some (.int .i64 (bits : Nat))) (go_keep) (first | (go_at_call 57; refine (Bys.next (H4.out) 0 _ rfl NL.out.2.2.2.2).mono ?_; rintro en v5 ⟨gY, oY, lY, rfl, hq⟩; obtain ⟨q1, q2, q3, q4, q5, q6⟩ := K.out _ hq.1; obtain ⟨r0, r1, r2, r3, r4, r5, r6, r7, r8, r9, r10, r11⟩ := HK7.out _ hq.1; have H5 := Lz hq; clear hq) | (go_at_call 57; refine (Bys.next (H3.out) 1 _ rfl NL.out.2.2.2.1).mono ?_; rintro en v4 ⟨gX, oX, lX, rfl, hq⟩; obtain ⟨q1, q2, q3, q4, q5, q6⟩ := K.out _ hq.1; obtain ⟨r0, r1, r2, r3, r4, r5, r6, r7, r8, r9, r10, r11⟩ := HK7.out _ hq.1; have H4 := Lz hq; clear hq) | (go_at_call 57; refine (Bys.next (H2.out) 2 _ rfl NL.out.2.2.1).mono ?_; rintro en v3 ⟨gB, oB, lB, rfl, hq⟩; obtain ⟨q1, q2, q3, q4, q5, q6⟩ := K.out _ hq.1; obtain ⟨r0, r1, r2, r3, r4, r5, r6, r7, r8, r9, r10, r11⟩ := HK7.out _ hq.1; have H3 := Lz hq; clear hq) | (go_at_call 57; refine (Bys.next (H1.out) 3 _ rfl NL.out.2.1).mono ?_; rintro en v2 ⟨gN, oN, lN, rfl, hq⟩; obtain ⟨q1, q2, q3, q4, q5, q6⟩ := K.out _ hq.1; obtain ⟨r0, r1, r2, r3, r4, r5, r6, r7, r8, r9, r10, r11⟩ := HK7.out _ hq.1; have H2 := Lz hq; clear hq) | (go_at_call 57; refine (Bys.next (HB.out.drew _) 4 _ rfl NL.out.1).mono ?_; rintro en v1 ⟨gP, oP, lP, rfl, hq⟩; obtain ⟨q1, q2, q3, q4, q5, q6⟩ := K.out _ hq.1; obtain ⟨r0, r1, r2, r3, r4, r5, r6, r7, r8, r9, r10, r11⟩ := HK7.out _ hq.1; have H1 := Lz hq; clear hq))
 all_goals
  obtain ⟨wf, hwf⟩ : ∃ wf, wf = ((((((v5.setCell ⟨w.heap.size, 0, .none⟩ (.slice (some ⟨gP, oP, .none⟩) lP lP)).setCell ⟨w.heap.size, 1, .none⟩ (.slice (some ⟨gN, oN, .none⟩) lN lN)).setCell ⟨w.heap.size, 2, .none⟩ (.slice (some ⟨gB, oB, .none⟩) lB lB)).setCell ⟨w.heap.size, 3, .none⟩ (.slice (some ⟨gX, oX, .none⟩) lX lX)).setCell ⟨w.heap.size, 4, .none⟩ (.slice (some ⟨gY, oY, .none⟩) lY lY)).setCell ⟨w.heap.size, 5, .none⟩ (.int .i64 (bits : Nat))) := ⟨_, rfl⟩
  have HB6 := set6 (v0 := .slice (some ⟨gP, oP, .none⟩) lP lP) (v1 := .slice (some ⟨gN, oN, .none⟩) lN lN) (v2 := .slice (some ⟨gB, oB, .none⟩) lB lB) (v3 := .slice (some ⟨gX, oX, .none⟩) lX lX) (v4 := .slice (some ⟨gY, oY, .none⟩) lY lY) (v5 := .int .i64 (bits : Nat)) (HK0.out v5 H5.out.1)
  have HE := Lz (named_end (bits := bits) HF.out.2.2.2 HF.out.2.2.1 HF.out.1 HC.out.2.1 H5.out)
  rw [← hwf] at HB6 HE ⊢
  have c0 := zzj (k := 0) HB6 rfl
  have c1 := zzj (k := 1) HB6 rfl
  have c2 := zzj (k := 2) HB6 rfl
  have c3 := zzj (k := 3) HB6 rfl
  have c4 := zzj (k := 4) HB6 rfl
  have c5 := zzj (k := 5) HB6 rfl
  clear hwf HB6 HK0 HK7 HB K HC HF H1 H2 H3 H4 H5 r0 r1 r2 r3 r4 r5 r6 r7 r8 r9 r10 r11
  go_wp2_with fail
  simp [bodyPost, results, Tryz.results15, go_sem, c0, c1, c2, c3, c4, c5]
  exact HE.out
end
end Go.Proofs.YtohhkjamddojmaaGreatDoor.Bit

namespace Go.Proofs.YtohhkjamddojmaaGreatDoor.Big
def B16 : Nat := 65536
theorem B16_pos : 0 < B16 := by decide
def bval : List Nat → Nat
 | [] => 0
 | x :: xs => x + B16 * bval xs
def Wb (xs : List Nat) : Prop := ∀ x ∈ xs, x < B16
theorem bval_nil : bval [] = 0 := rfl
theorem bval_append : ∀ a b, bval (a ++ b) = bval a + B16 ^ a.length * bval b
 | [], b => by simp [bval]
 | x :: a, b => by
  show x + B16 * bval (a ++ b) = x + B16 * bval a + B16 ^ (a.length + 1) * bval b
  rw [bval_append a b, Nat.mul_add, Nat.pow_succ]
  have : B16 ^ a.length * B16 * bval b = B16 * (B16 ^ a.length * bval b) := by rw [Nat.mul_comm (B16 ^ a.length) B16, Nat.mul_assoc]
  omega
theorem bval_one (x : Nat) : bval [x] = x := by simp [bval]
theorem bval_snoc (a : List Nat) (x : Nat) : bval (a ++ [x]) = bval a + B16 ^ a.length * x := by rw [bval_append, bval_one]
theorem bval_lt : ∀ a, Wb a → bval a < B16 ^ a.length
 | [], _ => by simp [bval]
 | x :: a, h => by
  have ih := bval_lt a (fun y hy => h y (List.mem_cons_of_mem _ hy))
  have hx := h x (List.mem_cons_self ..)
  show x + B16 * bval a < B16 ^ (a.length + 1)
  have e : B16 ^ (a.length + 1) = B16 * B16 ^ a.length := by rw [Nat.pow_succ, Nat.mul_comm]
  have : B16 * (bval a + 1) ≤ B16 * B16 ^ a.length := Nat.mul_le_mul_left _ ih
  rw [Nat.mul_add, Nat.mul_one] at this
  omega
theorem Wb.append {a b : List Nat} (h : Wb a) (h' : Wb b) : Wb (a ++ b) := fun x hx => (List.mem_append.1 hx).elim (h x) (h' x)
theorem Wb.one {x : Nat} (h : x < B16) : Wb [x] := fun y hy => by rw [List.mem_singleton.1 hy]; exact h
theorem Wb.take {a : List Nat} (h : Wb a) (n : Nat) : Wb (a.take n) := fun x hx => h x (List.mem_of_mem_take hx)
theorem Wb.getD {a : List Nat} (h : Wb a) (i : Nat) : a.getD i 0 < B16 := by
 rw [List.getD]
 by_cases hi : i < a.length
 · rw [List.getElem?_eq_getElem hi]; exact h _ (List.getElem_mem hi)
 · rw [List.getElem?_eq_none (by omega)]; exact B16_pos
theorem Wb.nil : Wb [] := fun x hx => by cases hx
def bnorm : List Nat → List Nat
 | [] => []
 | x :: xs => match bnorm xs with
  | [] => if x = 0 then [] else [x]
  | y :: ys => x :: y :: ys
theorem bnorm_snoc0 : ∀ xs, bnorm (xs ++ [0]) = bnorm xs
 | [] => rfl
 | x :: xs => by
  show (match bnorm (xs ++ [0]) with | [] => if x = 0 then [] else [x] | y :: ys => x :: y :: ys) = _
  rw [bnorm_snoc0 xs]; rfl
theorem bnorm_snoc {x : Nat} (h : x ≠ 0) : ∀ xs, bnorm (xs ++ [x]) = xs ++ [x]
 | [] => by simp [bnorm, h]
 | y :: xs => by
  show (match bnorm (xs ++ [x]) with | [] => if y = 0 then [] else [y] | z :: ys => y :: z :: ys) = _
  rw [bnorm_snoc h xs]
  cases xs <;> rfl
theorem bnorm_prefix : ∀ xs, ∃ k, bnorm xs = xs.take k ∧ k ≤ xs.length
 | [] => ⟨0, rfl, Nat.le_refl _⟩
 | x :: xs => by
  obtain ⟨k, hk, hl⟩ := bnorm_prefix xs
  show ∃ k, (match bnorm xs with | [] => if x = 0 then [] else [x] | y :: ys => x :: y :: ys) = _ ∧ _
  cases hn : bnorm xs with
  | nil =>
   by_cases hx : x = 0
   · exact ⟨0, by simp [hx], by simp⟩
   · exact ⟨1, by simp [hx], by simp⟩
  | cons y ys => exact ⟨k + 1, by rw [List.take_succ_cons, ← hk, hn], by simp; omega⟩
theorem bnorm_take (xs : List Nat) : xs.take (bnorm xs).length = bnorm xs := by
 obtain ⟨k, hk, hl⟩ := bnorm_prefix xs
 rw [hk]; simp [Nat.min_eq_left hl]
theorem bnorm_take_succ {cs : List Nat} {k : Nat} (hk : k < cs.length) (h0 : cs.getD k 0 = 0) : bnorm (cs.take (k + 1)) = bnorm (cs.take k) := by
 rw [zxk _ _ hk, h0, bnorm_snoc0]
theorem bnorm_take_end {cs : List Nat} {k : Nat} (hk : k < cs.length) (h0 : cs.getD k 0 ≠ 0) : (bnorm (cs.take (k + 1))).length = k + 1 := by
 rw [zxk _ _ hk, bnorm_snoc h0]; simp; omega
def bd (n : Nat) : List Nat := if _h : n = 0 then [] else n % B16 :: bd (n / B16)
termination_by n
decreasing_by exact Nat.div_lt_self (by omega) (by unfold B16; omega)
theorem bd_zero : bd 0 = [] := by rw [bd]; simp
theorem bd_pos {n : Nat} (h : n ≠ 0) : bd n = n % B16 :: bd (n / B16) := by rw [bd]; simp [h]
theorem bval_bd (n : Nat) : bval (bd n) = n := by
 induction n using Nat.strongRecOn with
 | ind n ih =>
  by_cases h : n = 0
  · subst h; rw [bd_zero]; rfl
  · rw [bd_pos h]
    show n % B16 + B16 * bval (bd (n / B16)) = n
    rw [ih _ (Nat.div_lt_self (by omega) (by unfold B16; omega))]
    exact Nat.mod_add_div n B16
theorem bd_words (n : Nat) : Wb (bd n) := by
 induction n using Nat.strongRecOn with
 | ind n ih =>
  by_cases h : n = 0
  · subst h; rw [bd_zero]; exact Wb.nil
  · rw [bd_pos h]
    intro x hx
    rcases List.mem_cons.1 hx with rfl | hx
    · exact Nat.mod_lt _ B16_pos
    · exact ih _ (Nat.div_lt_self (by omega) (by unfold B16; omega)) x hx
theorem bd_eq_nil {n : Nat} : bd n = [] ↔ n = 0 := by
 constructor
 · intro h; rw [← bval_bd n, h]; rfl
 · rintro rfl; exact bd_zero
theorem bnorm_bd : ∀ xs, Wb xs → bnorm xs = bd (bval xs)
 | [], _ => by rw [bval_nil, bd_zero]; rfl
 | x :: xs, h => by
  have ih := bnorm_bd xs (fun y hy => h y (List.mem_cons_of_mem _ hy))
  have hx : x < B16 := h x (List.mem_cons_self ..)
  show (match bnorm xs with | [] => if x = 0 then [] else [x] | y :: ys => x :: y :: ys) = bd (x + B16 * bval xs)
  by_cases h0 : bval xs = 0
  · rw [h0, bd_zero] at ih
    rw [ih, h0]
    by_cases hx0 : x = 0
    · subst hx0; simp [bd_zero]
    · have e : bd (x + B16 * 0) = [x] := by
       rw [bd_pos (by omega), Nat.mul_zero, Nat.add_zero, Nat.mod_eq_of_lt hx, Nat.div_eq_of_lt hx, bd_zero]
      rw [e]; simp [hx0]
  · have hp : 0 < B16 * bval xs := Nat.mul_pos B16_pos (by omega)
    have e : bd (x + B16 * bval xs) = x :: bd (bval xs) := by
     rw [bd_pos (by omega), Nat.add_mul_mod_self_left, Nat.mod_eq_of_lt hx, Nat.add_mul_div_left _ _ B16_pos, Nat.div_eq_of_lt hx, Nat.zero_add]
    rw [e, ih]
    cases hd : bd (bval xs) with
    | nil => exact absurd (bd_eq_nil.1 hd) h0
    | cons y ys => rfl
theorem bd_length {n k : Nat} : (bd n).length ≤ k ↔ n < B16 ^ k := by
 constructor
 · intro h
   have := bval_lt _ (bd_words n)
   rw [bval_bd] at this
   exact Nat.lt_of_lt_of_le this (Nat.pow_le_pow_right B16_pos h)
 · intro h
   induction k generalizing n with
   | zero => rw [Nat.pow_zero] at h; obtain rfl : n = 0 := by omega
             simp [bd_zero]
   | succ k ih =>
    by_cases h0 : n = 0
    · subst h0; simp [bd_zero]
    · rw [bd_pos h0, List.length_cons]
      have := ih (n := n / B16) (by rw [Nat.div_lt_iff_lt_mul B16_pos, ← Nat.pow_succ]; exact h)
      omega
theorem bd_last {n : Nat} (h : n ≠ 0) : B16 ^ ((bd n).length - 1) ≤ n := by
 have h1 : ¬ (bd n).length ≤ (bd n).length - 1 := by
  have : (bd n).length ≠ 0 := fun e => h (bd_eq_nil.1 (List.eq_nil_of_length_eq_zero e))
  omega
 rw [bd_length] at h1
 omega
theorem bd_lt {a b : Nat} (h : (bd a).length < (bd b).length) : a < b := by
 have h1 : a < B16 ^ (bd a).length := bd_length.1 (Nat.le_refl _)
 have hb : b ≠ 0 := fun e => by rw [e, bd_zero] at h; simp at h
 have h2 := bd_last hb
 exact Nat.lt_of_lt_of_le h1 (Nat.le_trans (Nat.pow_le_pow_right B16_pos (by omega)) h2)
theorem bval_at {X : List Nat} {k : Nat} (h : k < X.length) : bval X = bval (X.take k) + B16 ^ k * (X.getD k 0 + B16 * bval (X.drop (k + 1))) := by
 conv => lhs; rw [← List.take_append_drop (k + 1) X]
 rw [bval_append, zxk _ _ h, bval_snoc, List.length_append, List.length_take, Nat.min_eq_left (by omega), List.length_singleton, Nat.mul_add, Nat.pow_succ, Nat.mul_assoc]
 omega
theorem bval_lt_at {X Y : List Nat} {k : Nat} (hw : Wb X) (hl : X.length = Y.length) (h : k < X.length) (he : X.drop (k + 1) = Y.drop (k + 1)) (hlt : X.getD k 0 < Y.getD k 0) : bval X < bval Y := by
 rw [bval_at h, bval_at (by omega : k < Y.length), he]
 have h1 := bval_lt _ (hw.take k)
 rw [List.length_take, Nat.min_eq_left (by omega)] at h1
 have h2 : B16 ^ k * (X.getD k 0 + B16 * bval (Y.drop (k + 1)) + 1) ≤ B16 ^ k * (Y.getD k 0 + B16 * bval (Y.drop (k + 1))) := Nat.mul_le_mul_left _ (by omega)
 rw [Nat.mul_add, Nat.mul_one] at h2
 omega
end Go.Proofs.YtohhkjamddojmaaGreatDoor.Big
