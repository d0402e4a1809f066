/- A curve that is worked with by its twist. -/
import Derived.Test.YtohhkjamddojmaaGreatDoorTA
import Derived.Test.YtohhkjamddojmaaGreatDoorTD
namespace Go.Proofs.YtohhkjamddojmaaGreatDoor.Big
open Go.RowKit
attribute [local go_sem] ptr
attribute [local irreducible] Sz

theorem getD_unl {listed : Array Bool} {i : Nat} (h : listed.getD i true = false) : listed.getD i false = false := by
  rcases Nat.lt_or_ge i listed.size with h' | h'
  · simp [h'] at h ⊢; exact h
  · simp [Array.getElem?_eq_none h'] at h
theorem getD_all {listed : Array Bool} {i : Nat} (h : listed.getD i true = true) (hi : i < listed.size) : listed.getD i false = true := by simp [hi] at h ⊢; exact h
/-- what 'newrcurve' gives -/
def RcP (R : Nat → Prop) (w0 : World) (tw : Value) (c zg : Nat) (L : List (Nat × Int)) (g p : Nat) (e : Ending) (w' : World) : Prop :=
  ∃ rc n1 n2 n3 n4 zi t : Nat, e = .returned (ptr rc) ∧ w'.heap[rc]? = some (.cells #[tw, ptr c, ptr zg, ptr zi, ptr n1, ptr n2, ptr n3, ptr n4] 208) ∧ Own R w0 w' ((n4, ((t ^ 3 % p : Nat) : Int)) :: (n3, ((t ^ 2 % p : Nat) : Int)) :: (n2, ((g ^ 3 % p : Nat) : Int)) :: (n1, ((g ^ 2 % p : Nat) : Int)) :: L) ∧ Own (RO R rc) w' w' ((n4, ((t ^ 3 % p : Nat) : Int)) :: (n3, ((t ^ 2 % p : Nat) : Int)) :: (n2, ((g ^ 3 % p : Nat) : Int)) :: (n1, ((g ^ 2 % p : Nat) : Int)) :: L) ∧ t < p ∧ (p : Int) ∣ t * g - 1
theorem statics_of {listed : Array Bool} {l : List Nat} (h : (l.all fun k => listed.getD k false) = true) : ∀ k ∈ l, listed.getD k false = true := List.all_eq_true.1 h
theorem lt_of_unlisted {listed : Array Bool} {i : Nat} (h : listed.getD i true = false) : i < listed.size := by
  rcases Nat.lt_or_ge i listed.size with h' | h'
  · exact h'
  · simp [Array.getElem?_eq_none h'] at h
section
variable {R : Nat → Prop} {w0 w w' : World} {L L' : List (Nat × Int)}
set_option maxHeartbeats 8000000 in
set_option maxRecDepth 100000 in
theorem newrcurveN (h : Own R w0 w L) (c zg P ig iP g p : Nat) (hcP : w.cell? ⟨c, 0, .none⟩ = some (ptr P)) (hRc : R c) (hg : L[ig]? = some (zg, (g : Int))) (hP : L[iP]? = some (P, (p : Int))) (g0 : 0 < g) (gp : g < p) (p2 : 2 ≤ p) (pB : p < B64) (hgc : Int.gcd g p = 1) :
    Calls Tryz.prog 117 #[.nilIface, ptr c, ptr zg] w (RcP R w0 (.nilIface) c zg L g p) := by
  obtain ⟨hN, rn⟩ := h.new
  have lc : c < w.heap.size := World.block_lt_of_cell? w ⟨c, 0, .none⟩ hcP
  have HN := Lib.hid hN
  have HM := Lib.hid (modInverse_word hN.since 0 (ig + 1) (iP + 1) g p rfl hg hP rn g0 gp pB hgc)
  have KN := Lib.hid h.since.new.1.kept
  have K0 := Lib.hid (fun (w' : World) (k : Kept R w w') => (k.cell hRc hcP : w'.cell? ⟨c, 0, .none⟩ = some (ptr P)))
  have HG := Lib.hid hg
  have HP := Lib.hid hP
  have P2 := Lib.hid p2
  have PB := Lib.hid pB
  have GP := Lib.hid gp
  have RN := Lib.hid rn
  have HS := Lib.hid h
  clear h hN rn hg hP g0 gp p2 pB hgc hRc
  unfold ptr at *
  go_enter Tryz.func117, Tryz.ntmps117
  go_wp2_with fail
  refine HM.out.mono ?_
  rintro e w1 ⟨t, rfl, h1, ht, htd⟩
  have k1 := KN.out.trans h1.kept
  have cP := K0.out w1 k1
  have O1 := Lib.hid (show Own R _ w1 ((w.heap.size, (t : Int)) :: L) from h1)
  have K1 := Lib.hid k1
  have HT := Lib.hid ht
  have HTD := Lib.hid htd
  clear h1 k1 ht htd hcP HM
  go_wp2_with fail
  refine wp_region_held_drew (S := fun w' => w'.cell? ⟨c, 0, .none⟩ = some (.pointer (some ⟨P, 0, .none⟩))) (by kernel_rfl) ?_ (fun hHeld => ?_)
  · exact cP
  refine wpAnyH_take (i := 0) (v := ?v0) rfl (by kernel_rfl) (by kernel_rfl) (by kernel_rfl) (fun _ _ _ h => h) (Or.inl ⟨by rfl, ?hy0⟩) (by assumption) ?r0
  case hy0 => (intro w hSw; (try dsimp only at hSw); go_simp; (try with_reducible rfl))
  simp only [Act.put]
  refine wpAnyH_take (i := 1) (v := ?v1) rfl (by kernel_rfl) (by kernel_rfl) (by kernel_rfl) (fun _ _ _ h => h) (Or.inl ⟨by rfl, ?hy1⟩) (by assumption) ?r1
  case hy1 => (intro w hSw; (try dsimp only at hSw); go_simp; (try with_reducible rfl))
  simp only [Act.put]
  refine wpAnyH_take (i := 2) (v := ?v2) rfl (by kernel_rfl) (by kernel_rfl) (by kernel_rfl) (fun _ _ _ h => h) (Or.inl ⟨by rfl, ?hy2⟩) (by assumption) ?r2
  case hy2 => (intro w hSw; (try dsimp only at hSw); go_simp; (try with_reducible rfl))
  simp only [Act.put]
  refine wpAnyH_take (i := 3) (v := ?v3) rfl (by kernel_rfl) (by kernel_rfl) (by kernel_rfl) (fun _ _ _ h => h) (Or.inl ⟨by rfl, ?hy3⟩) (by assumption) ?r3
  case hy3 => (intro w hSw; (try dsimp only at hSw); go_simp; (try with_reducible rfl))
  simp only [Act.put]
  refine wpAnyH_take (i := 5) (v := ?v5) rfl (by kernel_rfl) (by kernel_rfl) (by kernel_rfl) (fun _ _ _ h => h) (Or.inl ⟨by rfl, ?hy5⟩) (by assumption) ?r5
  case hy5 => (intro w hSw; (try dsimp only at hSw); go_simp; (try with_reducible rfl))
  simp only [Act.put]
  refine wpAnyH_take (i := 7) (v := ?v7) rfl (by kernel_rfl) (by kernel_rfl) (by kernel_rfl) (fun _ _ _ h => h) (Or.inl ⟨by rfl, ?hy7⟩) (by assumption) ?r7
  case hy7 => (intro w hSw; (try dsimp only at hSw); go_simp; (try with_reducible rfl))
  simp only [Act.put]
  refine wpAnyH_take (i := 8) (v := ?v8) rfl (by kernel_rfl) (by kernel_rfl) (by kernel_rfl) (fun _ _ _ h => h) (Or.inl ⟨by rfl, ?hy8⟩) (by assumption) ?r8
  case hy8 => (intro w hSw; (try dsimp only at hSw); go_simp; (try with_reducible rfl))
  simp only [Act.put]
  refine wpAnyH_take (i := 9) (v := ?v9) rfl (by kernel_rfl) (by kernel_rfl) (by kernel_rfl) (fun _ _ _ h => h) (Or.inl ⟨by rfl, ?hy9⟩) (by assumption) ?r9
  case hy9 => (intro w hSw; (try dsimp only at hSw); go_simp; (try with_reducible rfl))
  simp only [Act.put]
  refine wpAnyH_take (i := 10) (v := ?v10) rfl (by kernel_rfl) (by kernel_rfl) (by kernel_rfl) (fun _ _ _ h => h) (Or.inl ⟨by rfl, ?hy10⟩) (by assumption) ?r10
  case hy10 => (intro w hSw; (try dsimp only at hSw); go_simp; (try with_reducible rfl))
  simp only [Act.put]
  refine wpAnyH_take (i := 13) (v := ?v13) rfl (by kernel_rfl) (by kernel_rfl) (by kernel_rfl) (fun _ _ _ h => h) (Or.inl ⟨by rfl, ?hy13⟩) (by assumption) ?r13
  case hy13 => (intro w hSw; (try dsimp only at hSw); go_simp; (try with_reducible rfl))
  simp only [Act.put]
  refine wpAnyH_take (i := 15) (v := ?v15) rfl (by kernel_rfl) (by kernel_rfl) (by kernel_rfl) (fun _ _ _ h => h) (Or.inl ⟨by rfl, ?hy15⟩) (by assumption) ?r15
  case hy15 => (intro w hSw; (try dsimp only at hSw); go_simp; (try with_reducible rfl))
  simp only [Act.put]
  refine wpAnyH_take (i := 16) (v := ?v16) rfl (by kernel_rfl) (by kernel_rfl) (by kernel_rfl) (fun _ _ _ h => h) (Or.inl ⟨by rfl, ?hy16⟩) (by assumption) ?r16
  case hy16 => (intro w hSw; (try dsimp only at hSw); go_simp; (try with_reducible rfl))
  simp only [Act.put]
  refine wpAnyH_take (i := 17) (v := ?v17) rfl (by kernel_rfl) (by kernel_rfl) (by kernel_rfl) (fun _ _ _ h => h) (Or.inl ⟨by rfl, ?hy17⟩) (by assumption) ?r17
  case hy17 => (intro w hSw; (try dsimp only at hSw); go_simp; (try with_reducible rfl))
  simp only [Act.put]
  refine wpAnyH_take (i := 18) (v := ?v18) rfl (by kernel_rfl) (by kernel_rfl) (by kernel_rfl) (fun _ _ _ h => h) (Or.inl ⟨by rfl, ?hy18⟩) (by assumption) ?r18
  case hy18 => (intro w hSw; (try dsimp only at hSw); go_simp; (try with_reducible rfl))
  simp only [Act.put]
  refine wpAnyH_take (i := 21) (v := ?v21) rfl (by kernel_rfl) (by kernel_rfl) (by kernel_rfl) (fun _ _ _ h => h) (Or.inl ⟨by rfl, ?hy21⟩) (by assumption) ?r21
  case hy21 => (intro w hSw; (try dsimp only at hSw); go_simp; (try with_reducible rfl))
  simp only [Act.put]
  refine wpAnyH_take (i := 23) (v := ?v23) rfl (by kernel_rfl) (by kernel_rfl) (by kernel_rfl) (fun _ _ _ h => h) (Or.inl ⟨by rfl, ?hy23⟩) (by assumption) ?r23
  case hy23 => (intro w hSw; (try dsimp only at hSw); go_simp; (try with_reducible rfl))
  simp only [Act.put]
  refine wpAnyH_take (i := 24) (v := ?v24) rfl (by kernel_rfl) (by kernel_rfl) (by kernel_rfl) (fun _ _ _ h => h) (Or.inl ⟨by rfl, ?hy24⟩) (by assumption) ?r24
  case hy24 => (intro w hSw; (try dsimp only at hSw); go_simp; (try with_reducible rfl))
  simp only [Act.put]
  refine wpAnyH_take (i := 25) (v := ?v25) rfl (by kernel_rfl) (by kernel_rfl) (by kernel_rfl) (fun _ _ _ h => h) (Or.inl ⟨by rfl, ?hy25⟩) (by assumption) ?r25
  case hy25 => (intro w hSw; (try dsimp only at hSw); go_simp; (try with_reducible rfl))
  simp only [Act.put]
  refine wpAnyH_take (i := 26) (v := ?v26) rfl (by kernel_rfl) (by kernel_rfl) (by kernel_rfl) (fun _ _ _ h => h) (Or.inl ⟨by rfl, ?hy26⟩) (by assumption) ?r26
  case hy26 => (intro w hSw; (try dsimp only at hSw); go_simp; (try with_reducible rfl))
  simp only [Act.put]
  refine wpAnyH_take (i := 29) (v := ?v29) rfl (by kernel_rfl) (by kernel_rfl) (by kernel_rfl) (fun _ _ _ h => h) (Or.inl ⟨by rfl, ?hy29⟩) (by assumption) ?r29
  case hy29 => (intro w hSw; (try dsimp only at hSw); go_simp; (try with_reducible rfl))
  simp only [Act.put]
  refine wpAnyH_take (i := 31) (v := ?v31) rfl (by kernel_rfl) (by kernel_rfl) (by kernel_rfl) (fun _ _ _ h => h) (Or.inl ⟨by rfl, ?hy31⟩) (by assumption) ?r31
  case hy31 => (intro w hSw; (try dsimp only at hSw); go_simp; (try with_reducible rfl))
  simp only [Act.put]
  refine wpAnyH_take (i := 32) (v := ?v32) rfl (by kernel_rfl) (by kernel_rfl) (by kernel_rfl) (fun _ _ _ h => h) (Or.inl ⟨by rfl, ?hy32⟩) (by assumption) ?r32
  case hy32 => (intro w hSw; (try dsimp only at hSw); go_simp; (try with_reducible rfl))
  simp only [Act.put]
  refine wpAnyH_take (i := 33) (v := ?v33) rfl (by kernel_rfl) (by kernel_rfl) (by kernel_rfl) (fun _ _ _ h => h) (Or.inl ⟨by rfl, ?hy33⟩) (by assumption) ?r33
  case hy33 => (intro w hSw; (try dsimp only at hSw); go_simp; (try with_reducible rfl))
  simp only [Act.put]
  refine wpAnyH_take (i := 34) (v := ?v34) rfl (by kernel_rfl) (by kernel_rfl) (by kernel_rfl) (fun _ _ _ h => h) (Or.inl ⟨by rfl, ?hy34⟩) (by assumption) ?r34
  case hy34 => (intro w hSw; (try dsimp only at hSw); go_simp; (try with_reducible rfl))
  simp only [Act.put]
  refine wpAnyH_inv (NI R w (.nilIface) c zg w.heap.size P ((w.heap.size, (t : Int)) :: L) g t p) (low_of (by kernel_rfl)) ?step ?fin _ _ _ _ (by rfl) (Nat.le_of_eq (by kernel_rfl)) ?init
  case init =>
    have J : NJ R w (.nilIface) c zg w.heap.size P ((w.heap.size, (t : Int)) :: L) g t p false false false false false false false false false false false false false false false undef undef undef undef undef undef undef undef undef undef undef undef undef undef (.pointer .none) 0 0 0 0 0 0 0 0 0 w1.drew :=
      ⟨(fun h => by cases h), (fun h => by cases h), (fun h => by cases h), (fun h => by cases h), (fun h => by cases h), (fun h => by cases h), (fun h => by cases h), (fun h => by cases h), (fun h => by cases h), (fun h => by cases h), (fun h => by cases h), (fun h => by cases h), (fun h => by cases h), (fun h => by cases h), (fun h => by cases h), (fun h => by cases h), (fun h => by cases h), fun _ => ⟨_, (⟨O1.out.ints, K1.out, O1.out.tab, O1.out.low⟩ : Own R w w1 _).drew 1, List.Perm.refl _⟩, (fun h => by cases h), (fun h => by cases h), (fun h => by cases h), (fun h => by cases h), (fun h => by cases h)⟩
    exact ⟨false, false, false, false, false, false, false, false, false, false, false, false, false, false, false, undef, undef, undef, undef, undef, undef, undef, undef, undef, undef, undef, undef, undef, undef, .pointer .none, 0, 0, 0, 0, 0, 0, 0, 0, 0, ⟨rfl, rfl, rfl, rfl, rfl, rfl, rfl, rfl, rfl, rfl, rfl, rfl, rfl, rfl, rfl⟩, statics_of (by kernel_rfl), by kernel_rfl, J⟩
  case step =>
    intro listed a w' i hs hun hpre hI
    unfold NI at hI
    obtain ⟨b4, b6, b11, b12, b14, b19, b20, b22, b27, b28, b30, b35, b36, b37, b38, u19, u21, u26, u27, u29, u34, u35, u37, u42, u43, u45, u50, u51, u52, u6, n1, n2, n3, n4, t1, t2, t3, t4, rc, ⟨e4, e6, e11, e12, e14, e19, e20, e22, e27, e28, e30, e35, e36, e37, e38⟩, hst, rfl, J⟩ := hI
    have hls : i < listed.size := lt_of_unlisted hun
    have hlt : i < 39 := by rw [hs] at hls; exact hls
    have hno : ∀ k ∈ ([0, 1, 2, 3, 5, 7, 8, 9, 10, 13, 15, 16, 17, 18, 21, 23, 24, 25, 26, 29, 31, 32, 33, 34] : List Nat), i ≠ k := fun k hk e => by have h1 := hst k hk; rw [← e, getD_unl hun] at h1; cases h1
    have hi : i = 4 ∨ i = 6 ∨ i = 11 ∨ i = 12 ∨ i = 14 ∨ i = 19 ∨ i = 20 ∨ i = 22 ∨ i = 27 ∨ i = 28 ∨ i = 30 ∨ i = 35 ∨ i = 36 ∨ i = 37 ∨ i = 38 := by
      simp only [List.mem_cons, List.not_mem_nil, or_false, forall_eq_or_imp, forall_eq] at hno
      omega
    clear hno hlt hs
    have K0 := K0
    rcases hi with rfl | rfl | rfl | rfl | rfl | rfl | rfl | rfl | rfl | rfl | rfl | rfl | rfl | rfl | rfl
    · have hb : b4 = false := by rw [← e4]; exact getD_unl hun
      subst hb
      have f11 : b11 = false := Bool.eq_false_iff.2 fun h => by have := (J.i11 h).1; cases this
      subst f11
      have f36 : b36 = false := Bool.eq_false_iff.2 fun h => by have := (J.j36 h).1; cases this
      subst f36
      have f37 : b37 = false := Bool.eq_false_iff.2 fun h => by have := J.j37 h; cases this
      subst f37
      have f38 : b38 = false := Bool.eq_false_iff.2 fun h => by have := J.j38 h; cases this
      subst f38
      obtain ⟨M, hO, hp⟩ := J.own rfl
      have HO := Lib.hid hO
      have HQ := Lib.hid hp
      have HJ := Lib.hid J
      clear hO hp J
      refine wpOp_step rfl (fun K' hK => ?_)
      have HK := Lib.hid hK
      clear hK hun hpre
      go_wp2_with fail
      have J := HJ.out
      obtain ⟨hN, hRn⟩ := HO.out.new
      exact HK.out _ _ ⟨(K0.out _ hN.kept), true, b6, false, b12, b14, b19, b20, b22, b27, b28, b30, b35, false, false, false, _, u21, u26, u27, u29, u34, u35, u37, u42, u43, u45, u50, u51, u52, u6, w'.heap.size, n2, n3, n4, t1, t2, t3, t4, rc, ⟨lself hls, lset e6 (by decide), lset e11 (by decide), lset e12 (by decide), lset e14 (by decide), lset e19 (by decide), lset e20 (by decide), lset e22 (by decide), lset e27 (by decide), lset e28 (by decide), lset e30 (by decide), lset e35 (by decide), lset e36 (by decide), lset e37 (by decide), lset e38 (by decide)⟩, fun k hk => getD_set_true (hst k hk), rfl, ⟨fun _ => ⟨rfl, hRn⟩, J.v6, (fun h => by cases h), (fun h => by cases h), J.v12, J.v14, J.v19, J.i19, J.v20, J.v22, J.v27, J.i27, J.v28, J.v30, J.v35, J.i35, (fun h => by cases h), fun _ => ⟨_, hN, (HQ.out.cons _).trans ((optE_cons _ _ _ _).trans (optE_perm _ _ ((optE_cons _ _ _ _).trans (optE_perm _ _ ((optE_cons _ _ _ _).trans (optE_perm _ _ (List.Perm.refl _)))))))⟩, (fun h => by cases h), (fun h => by cases h), (fun h => by cases h), (fun h => by cases h), (fun h => by cases h)⟩⟩
    · have hb : b6 = false := by rw [← e6]; exact getD_unl hun
      subst hb
      have f11 : b11 = false := Bool.eq_false_iff.2 fun h => by have := (J.i11 h).2; cases this
      subst f11
      have f36 : b36 = false := Bool.eq_false_iff.2 fun h => by have := (J.j36 h).1; cases this
      subst f36
      have f37 : b37 = false := Bool.eq_false_iff.2 fun h => by have := J.j37 h; cases this
      subst f37
      have f38 : b38 = false := Bool.eq_false_iff.2 fun h => by have := J.j38 h; cases this
      subst f38
      obtain ⟨M, hO, hp⟩ := J.own rfl
      have HO := Lib.hid hO
      have HQ := Lib.hid hp
      have HJ := Lib.hid J
      clear hO hp J
      refine wpOp_step rfl (fun K' hK => ?_)
      have HK := Lib.hid hK
      clear hK hun hpre
      go_wp2_with fail
      refine (newIntO HO.out 2 (by decide)).mono ?_
      rintro en wN ⟨zN, rfl, hN, hRn⟩
      have HN' := Lib.hid hN
      clear hN
      go_wp2_with fail
      have J := HJ.out
      exact HK.out _ _ ⟨(K0.out _ HN'.out.kept), b4, true, false, b12, b14, b19, b20, b22, b27, b28, b30, b35, false, false, false, u19, _, u26, u27, u29, u34, u35, u37, u42, u43, u45, u50, u51, u52, u6, n1, n2, n3, n4, zN, t2, t3, t4, rc, ⟨lset e4 (by decide), lself hls, lset e11 (by decide), lset e12 (by decide), lset e14 (by decide), lset e19 (by decide), lset e20 (by decide), lset e22 (by decide), lset e27 (by decide), lset e28 (by decide), lset e30 (by decide), lset e35 (by decide), lset e36 (by decide), lset e37 (by decide), lset e38 (by decide)⟩, fun k hk => getD_set_true (hst k hk), rfl, ⟨J.v4, fun _ => rfl, (fun h => by cases h), (fun h => by cases h), J.v12, J.v14, J.v19, J.i19, J.v20, J.v22, J.v27, J.i27, J.v28, J.v30, J.v35, J.i35, (fun h => by cases h), fun _ => ⟨_, HN'.out, (HQ.out.cons _).trans ((optE_cons _ _ _ _).trans (optE_perm _ _ ((optE_cons _ _ _ _).trans (optE_perm _ _ ((optE_cons _ _ _ _).trans (optE_perm _ _ ((optE_cons _ _ _ _).trans (optE_perm _ _ ((optE_cons _ _ _ _).trans (optE_perm _ _ ((optE_cons _ _ _ _).trans (optE_perm _ _ ((optE_cons _ _ _ _).trans (optE_perm _ _ (List.Perm.refl _)))))))))))))))⟩, (fun h => by cases h), (fun h => by cases h), (fun h => by cases h), (fun h => by cases h), (fun h => by cases h)⟩⟩
    · have hb : b11 = false := by rw [← e11]; exact getD_unl hun
      subst hb
      have p4 : b4 = true := by rw [← e4]; exact hpre _ rfl ⟨4, .data⟩ (by simp) rfl
      subst p4
      have p6 : b6 = true := by rw [← e6]; exact hpre _ rfl ⟨6, .data⟩ (by simp) rfl
      subst p6
      have f36 : b36 = false := Bool.eq_false_iff.2 fun h => by have := (J.j36 h).1; cases this
      subst f36
      have f37 : b37 = false := Bool.eq_false_iff.2 fun h => by have := J.j37 h; cases this
      subst f37
      have f38 : b38 = false := Bool.eq_false_iff.2 fun h => by have := J.j38 h; cases this
      subst f38
      obtain ⟨M, hO, hp⟩ := J.own rfl
      obtain ⟨x1, hRn⟩ := J.v4 rfl
      have x2 := J.v6 rfl
      subst x1 x2
      have HO := Lib.hid hO
      have HQ := Lib.hid hp
      have HJ := Lib.hid J
      have HRn := Lib.hid hRn
      have C := ExpM (v := 0) hO g 2 p (hp.trans ((optE_cons _ _ _ _).trans (optE_perm _ _ ((optE_cons _ _ _ _).trans (optE_perm _ _ ((optE_cons _ _ _ _).trans (optE_perm _ _ (List.Perm.refl _))))))).symm) (hp.mem_iff.2 (mem_optE _ _ (mem_optE _ _ (mem_optE _ _ (mem_optE _ _ (mem_optE _ _ (mem_optE _ _ (mem_optE _ _ (mem_optE _ _ (List.mem_cons_of_mem _ (List.mem_of_getElem? HG.out))))))))))) (hp.mem_iff.2 (mem_optE _ _ (mem_optE _ _ (mem_optE _ _ (mem_optE _ _ (mem_optE _ _ (mem_optE _ _ (mem_optE _ _ (mem_optE_self _ _))))))))) (hp.mem_iff.2 (mem_optE _ _ (mem_optE _ _ (mem_optE _ _ (mem_optE _ _ (mem_optE _ _ (mem_optE _ _ (mem_optE _ _ (mem_optE _ _ (List.mem_cons_of_mem _ (List.mem_of_getElem? HP.out))))))))))) (by have := P2.out; omega) hRn (Nat.lt_trans GP.out PB.out) (by decide) (by decide) PB.out P2.out
      have HC := Lib.hid C
      clear hO hp J hRn C
      refine wpOp_step rfl (fun K' hK => ?_)
      have HK := Lib.hid hK
      clear hK hun hpre
      go_wp2_with fail
      refine HC.out.mono ?_
      rintro en wN ⟨rfl, N', hN, hq⟩
      have HN' := Lib.hid hN
      have HQ' := Lib.hid hq
      clear hN hq
      go_wp2_with fail
      have J := HJ.out
      exact HK.out _ _ ⟨(K0.out _ HN'.out.kept), true, true, true, b12, b14, b19, b20, b22, b27, b28, b30, b35, false, false, false, _, _, _, u27, u29, u34, u35, u37, u42, u43, u45, u50, u51, u52, u6, n1, n2, n3, n4, t1, t2, t3, t4, rc, ⟨lset e4 (by decide), lset e6 (by decide), lself hls, lset e12 (by decide), lset e14 (by decide), lset e19 (by decide), lset e20 (by decide), lset e22 (by decide), lset e27 (by decide), lset e28 (by decide), lset e30 (by decide), lset e35 (by decide), lset e36 (by decide), lset e37 (by decide), lset e38 (by decide)⟩, fun k hk => getD_set_true (hst k hk), rfl, ⟨fun _ => ⟨rfl, HRn.out⟩, fun _ => rfl, fun _ => rfl, fun _ => ⟨rfl, rfl⟩, J.v12, J.v14, J.v19, J.i19, J.v20, J.v22, J.v27, J.i27, J.v28, J.v30, J.v35, J.i35, (fun h => by cases h), fun _ => ⟨_, HN'.out, HQ'.out.trans ((optE_cons _ _ _ _).trans (optE_perm _ _ ((optE_cons _ _ _ _).trans (optE_perm _ _ ((optE_cons _ _ _ _).trans (optE_perm _ _ (List.Perm.refl _)))))))⟩, (fun h => by cases h), (fun h => by cases h), (fun h => by cases h), (fun h => by cases h), (fun h => by cases h)⟩⟩
    · have hb : b12 = false := by rw [← e12]; exact getD_unl hun
      subst hb
      have f19 : b19 = false := Bool.eq_false_iff.2 fun h => by have := (J.i19 h).1; cases this
      subst f19
      have f36 : b36 = false := Bool.eq_false_iff.2 fun h => by have := (J.j36 h).2.1; cases this
      subst f36
      have f37 : b37 = false := Bool.eq_false_iff.2 fun h => by have := J.j37 h; cases this
      subst f37
      have f38 : b38 = false := Bool.eq_false_iff.2 fun h => by have := J.j38 h; cases this
      subst f38
      obtain ⟨M, hO, hp⟩ := J.own rfl
      have HO := Lib.hid hO
      have HQ := Lib.hid hp
      have HJ := Lib.hid J
      clear hO hp J
      refine wpOp_step rfl (fun K' hK => ?_)
      have HK := Lib.hid hK
      clear hK hun hpre
      go_wp2_with fail
      have J := HJ.out
      obtain ⟨hN, hRn⟩ := HO.out.new
      exact HK.out _ _ ⟨(K0.out _ hN.kept), b4, b6, b11, true, b14, false, b20, b22, b27, b28, b30, b35, false, false, false, u19, u21, u26, _, u29, u34, u35, u37, u42, u43, u45, u50, u51, u52, u6, n1, w'.heap.size, n3, n4, t1, t2, t3, t4, rc, ⟨lset e4 (by decide), lset e6 (by decide), lset e11 (by decide), lself hls, lset e14 (by decide), lset e19 (by decide), lset e20 (by decide), lset e22 (by decide), lset e27 (by decide), lset e28 (by decide), lset e30 (by decide), lset e35 (by decide), lset e36 (by decide), lset e37 (by decide), lset e38 (by decide)⟩, fun k hk => getD_set_true (hst k hk), rfl, ⟨J.v4, J.v6, J.v11, J.i11, fun _ => ⟨rfl, hRn⟩, J.v14, (fun h => by cases h), (fun h => by cases h), J.v20, J.v22, J.v27, J.i27, J.v28, J.v30, J.v35, J.i35, (fun h => by cases h), fun _ => ⟨_, hN, (HQ.out.cons _).trans ((optE_cons _ _ _ _).trans (optE_perm _ _ ((optE_cons _ _ _ _).trans (optE_perm _ _ (List.Perm.refl _)))))⟩, (fun h => by cases h), (fun h => by cases h), (fun h => by cases h), (fun h => by cases h), (fun h => by cases h)⟩⟩
    · have hb : b14 = false := by rw [← e14]; exact getD_unl hun
      subst hb
      have f19 : b19 = false := Bool.eq_false_iff.2 fun h => by have := (J.i19 h).2; cases this
      subst f19
      have f36 : b36 = false := Bool.eq_false_iff.2 fun h => by have := (J.j36 h).2.1; cases this
      subst f36
      have f37 : b37 = false := Bool.eq_false_iff.2 fun h => by have := J.j37 h; cases this
      subst f37
      have f38 : b38 = false := Bool.eq_false_iff.2 fun h => by have := J.j38 h; cases this
      subst f38
      obtain ⟨M, hO, hp⟩ := J.own rfl
      have HO := Lib.hid hO
      have HQ := Lib.hid hp
      have HJ := Lib.hid J
      clear hO hp J
      refine wpOp_step rfl (fun K' hK => ?_)
      have HK := Lib.hid hK
      clear hK hun hpre
      go_wp2_with fail
      refine (newIntO HO.out 3 (by decide)).mono ?_
      rintro en wN ⟨zN, rfl, hN, hRn⟩
      have HN' := Lib.hid hN
      clear hN
      go_wp2_with fail
      have J := HJ.out
      exact HK.out _ _ ⟨(K0.out _ HN'.out.kept), b4, b6, b11, b12, true, false, b20, b22, b27, b28, b30, b35, false, false, false, u19, u21, u26, u27, _, u34, u35, u37, u42, u43, u45, u50, u51, u52, u6, n1, n2, n3, n4, t1, zN, t3, t4, rc, ⟨lset e4 (by decide), lset e6 (by decide), lset e11 (by decide), lset e12 (by decide), lself hls, lset e19 (by decide), lset e20 (by decide), lset e22 (by decide), lset e27 (by decide), lset e28 (by decide), lset e30 (by decide), lset e35 (by decide), lset e36 (by decide), lset e37 (by decide), lset e38 (by decide)⟩, fun k hk => getD_set_true (hst k hk), rfl, ⟨J.v4, J.v6, J.v11, J.i11, J.v12, fun _ => rfl, (fun h => by cases h), (fun h => by cases h), J.v20, J.v22, J.v27, J.i27, J.v28, J.v30, J.v35, J.i35, (fun h => by cases h), fun _ => ⟨_, HN'.out, (HQ.out.cons _).trans ((optE_cons _ _ _ _).trans (optE_perm _ _ ((optE_cons _ _ _ _).trans (optE_perm _ _ ((optE_cons _ _ _ _).trans (optE_perm _ _ ((optE_cons _ _ _ _).trans (optE_perm _ _ ((optE_cons _ _ _ _).trans (optE_perm _ _ ((optE_cons _ _ _ _).trans (optE_perm _ _ (List.Perm.refl _)))))))))))))⟩, (fun h => by cases h), (fun h => by cases h), (fun h => by cases h), (fun h => by cases h), (fun h => by cases h)⟩⟩
    · have hb : b19 = false := by rw [← e19]; exact getD_unl hun
      subst hb
      have p12 : b12 = true := by rw [← e12]; exact hpre _ rfl ⟨12, .data⟩ (by simp) rfl
      subst p12
      have p14 : b14 = true := by rw [← e14]; exact hpre _ rfl ⟨14, .data⟩ (by simp) rfl
      subst p14
      have f36 : b36 = false := Bool.eq_false_iff.2 fun h => by have := (J.j36 h).2.1; cases this
      subst f36
      have f37 : b37 = false := Bool.eq_false_iff.2 fun h => by have := J.j37 h; cases this
      subst f37
      have f38 : b38 = false := Bool.eq_false_iff.2 fun h => by have := J.j38 h; cases this
      subst f38
      obtain ⟨M, hO, hp⟩ := J.own rfl
      obtain ⟨x1, hRn⟩ := J.v12 rfl
      have x2 := J.v14 rfl
      subst x1 x2
      have HO := Lib.hid hO
      have HQ := Lib.hid hp
      have HJ := Lib.hid J
      have HRn := Lib.hid hRn
      have C := ExpM (v := 0) hO g 3 p (hp.trans ((optE_cons _ _ _ _).trans (optE_perm _ _ ((optE_cons _ _ _ _).trans (optE_perm _ _ (List.Perm.refl _))))).symm) (hp.mem_iff.2 (mem_optE _ _ (mem_optE _ _ (mem_optE _ _ (mem_optE _ _ (mem_optE _ _ (mem_optE _ _ (mem_optE _ _ (mem_optE _ _ (List.mem_cons_of_mem _ (List.mem_of_getElem? HG.out))))))))))) (hp.mem_iff.2 (mem_optE _ _ (mem_optE _ _ (mem_optE _ _ (mem_optE _ _ (mem_optE _ _ (mem_optE _ _ (mem_optE_self _ _)))))))) (hp.mem_iff.2 (mem_optE _ _ (mem_optE _ _ (mem_optE _ _ (mem_optE _ _ (mem_optE _ _ (mem_optE _ _ (mem_optE _ _ (mem_optE _ _ (List.mem_cons_of_mem _ (List.mem_of_getElem? HP.out))))))))))) (by have := P2.out; omega) hRn (Nat.lt_trans GP.out PB.out) (by decide) (by decide) PB.out P2.out
      have HC := Lib.hid C
      clear hO hp J hRn C
      refine wpOp_step rfl (fun K' hK => ?_)
      have HK := Lib.hid hK
      clear hK hun hpre
      go_wp2_with fail
      refine HC.out.mono ?_
      rintro en wN ⟨rfl, N', hN, hq⟩
      have HN' := Lib.hid hN
      have HQ' := Lib.hid hq
      clear hN hq
      go_wp2_with fail
      have J := HJ.out
      exact HK.out _ _ ⟨(K0.out _ HN'.out.kept), b4, b6, b11, true, true, true, b20, b22, b27, b28, b30, b35, false, false, false, u19, u21, u26, _, _, _, u35, u37, u42, u43, u45, u50, u51, u52, u6, n1, n2, n3, n4, t1, t2, t3, t4, rc, ⟨lset e4 (by decide), lset e6 (by decide), lset e11 (by decide), lset e12 (by decide), lset e14 (by decide), lself hls, lset e20 (by decide), lset e22 (by decide), lset e27 (by decide), lset e28 (by decide), lset e30 (by decide), lset e35 (by decide), lset e36 (by decide), lset e37 (by decide), lset e38 (by decide)⟩, fun k hk => getD_set_true (hst k hk), rfl, ⟨J.v4, J.v6, J.v11, J.i11, fun _ => ⟨rfl, HRn.out⟩, fun _ => rfl, fun _ => rfl, fun _ => ⟨rfl, rfl⟩, J.v20, J.v22, J.v27, J.i27, J.v28, J.v30, J.v35, J.i35, (fun h => by cases h), fun _ => ⟨_, HN'.out, HQ'.out.trans ((optE_cons _ _ _ _).trans (optE_perm _ _ ((optE_cons _ _ _ _).trans (optE_perm _ _ (List.Perm.refl _)))))⟩, (fun h => by cases h), (fun h => by cases h), (fun h => by cases h), (fun h => by cases h), (fun h => by cases h)⟩⟩
    · have hb : b20 = false := by rw [← e20]; exact getD_unl hun
      subst hb
      have f27 : b27 = false := Bool.eq_false_iff.2 fun h => by have := (J.i27 h).1; cases this
      subst f27
      have f36 : b36 = false := Bool.eq_false_iff.2 fun h => by have := (J.j36 h).2.2.1; cases this
      subst f36
      have f37 : b37 = false := Bool.eq_false_iff.2 fun h => by have := J.j37 h; cases this
      subst f37
      have f38 : b38 = false := Bool.eq_false_iff.2 fun h => by have := J.j38 h; cases this
      subst f38
      obtain ⟨M, hO, hp⟩ := J.own rfl
      have HO := Lib.hid hO
      have HQ := Lib.hid hp
      have HJ := Lib.hid J
      clear hO hp J
      refine wpOp_step rfl (fun K' hK => ?_)
      have HK := Lib.hid hK
      clear hK hun hpre
      go_wp2_with fail
      have J := HJ.out
      obtain ⟨hN, hRn⟩ := HO.out.new
      exact HK.out _ _ ⟨(K0.out _ hN.kept), b4, b6, b11, b12, b14, b19, true, b22, false, b28, b30, b35, false, false, false, u19, u21, u26, u27, u29, u34, _, u37, u42, u43, u45, u50, u51, u52, u6, n1, n2, w'.heap.size, n4, t1, t2, t3, t4, rc, ⟨lset e4 (by decide), lset e6 (by decide), lset e11 (by decide), lset e12 (by decide), lset e14 (by decide), lset e19 (by decide), lself hls, lset e22 (by decide), lset e27 (by decide), lset e28 (by decide), lset e30 (by decide), lset e35 (by decide), lset e36 (by decide), lset e37 (by decide), lset e38 (by decide)⟩, fun k hk => getD_set_true (hst k hk), rfl, ⟨J.v4, J.v6, J.v11, J.i11, J.v12, J.v14, J.v19, J.i19, fun _ => ⟨rfl, hRn⟩, J.v22, (fun h => by cases h), (fun h => by cases h), J.v28, J.v30, J.v35, J.i35, (fun h => by cases h), fun _ => ⟨_, hN, (HQ.out.cons _).trans ((optE_cons _ _ _ _).trans (optE_perm _ _ (List.Perm.refl _)))⟩, (fun h => by cases h), (fun h => by cases h), (fun h => by cases h), (fun h => by cases h), (fun h => by cases h)⟩⟩
    · have hb : b22 = false := by rw [← e22]; exact getD_unl hun
      subst hb
      have f27 : b27 = false := Bool.eq_false_iff.2 fun h => by have := (J.i27 h).2; cases this
      subst f27
      have f36 : b36 = false := Bool.eq_false_iff.2 fun h => by have := (J.j36 h).2.2.1; cases this
      subst f36
      have f37 : b37 = false := Bool.eq_false_iff.2 fun h => by have := J.j37 h; cases this
      subst f37
      have f38 : b38 = false := Bool.eq_false_iff.2 fun h => by have := J.j38 h; cases this
      subst f38
      obtain ⟨M, hO, hp⟩ := J.own rfl
      have HO := Lib.hid hO
      have HQ := Lib.hid hp
      have HJ := Lib.hid J
      clear hO hp J
      refine wpOp_step rfl (fun K' hK => ?_)
      have HK := Lib.hid hK
      clear hK hun hpre
      go_wp2_with fail
      refine (newIntO HO.out 2 (by decide)).mono ?_
      rintro en wN ⟨zN, rfl, hN, hRn⟩
      have HN' := Lib.hid hN
      clear hN
      go_wp2_with fail
      have J := HJ.out
      exact HK.out _ _ ⟨(K0.out _ HN'.out.kept), b4, b6, b11, b12, b14, b19, b20, true, false, b28, b30, b35, false, false, false, u19, u21, u26, u27, u29, u34, u35, _, u42, u43, u45, u50, u51, u52, u6, n1, n2, n3, n4, t1, t2, zN, t4, rc, ⟨lset e4 (by decide), lset e6 (by decide), lset e11 (by decide), lset e12 (by decide), lset e14 (by decide), lset e19 (by decide), lset e20 (by decide), lself hls, lset e27 (by decide), lset e28 (by decide), lset e30 (by decide), lset e35 (by decide), lset e36 (by decide), lset e37 (by decide), lset e38 (by decide)⟩, fun k hk => getD_set_true (hst k hk), rfl, ⟨J.v4, J.v6, J.v11, J.i11, J.v12, J.v14, J.v19, J.i19, J.v20, fun _ => rfl, (fun h => by cases h), (fun h => by cases h), J.v28, J.v30, J.v35, J.i35, (fun h => by cases h), fun _ => ⟨_, HN'.out, (HQ.out.cons _).trans ((optE_cons _ _ _ _).trans (optE_perm _ _ ((optE_cons _ _ _ _).trans (optE_perm _ _ ((optE_cons _ _ _ _).trans (optE_perm _ _ ((optE_cons _ _ _ _).trans (optE_perm _ _ ((optE_cons _ _ _ _).trans (optE_perm _ _ (List.Perm.refl _)))))))))))⟩, (fun h => by cases h), (fun h => by cases h), (fun h => by cases h), (fun h => by cases h), (fun h => by cases h)⟩⟩
    · have hb : b27 = false := by rw [← e27]; exact getD_unl hun
      subst hb
      have p20 : b20 = true := by rw [← e20]; exact hpre _ rfl ⟨20, .data⟩ (by simp) rfl
      subst p20
      have p22 : b22 = true := by rw [← e22]; exact hpre _ rfl ⟨22, .data⟩ (by simp) rfl
      subst p22
      have f36 : b36 = false := Bool.eq_false_iff.2 fun h => by have := (J.j36 h).2.2.1; cases this
      subst f36
      have f37 : b37 = false := Bool.eq_false_iff.2 fun h => by have := J.j37 h; cases this
      subst f37
      have f38 : b38 = false := Bool.eq_false_iff.2 fun h => by have := J.j38 h; cases this
      subst f38
      obtain ⟨M, hO, hp⟩ := J.own rfl
      obtain ⟨x1, hRn⟩ := J.v20 rfl
      have x2 := J.v22 rfl
      subst x1 x2
      have HO := Lib.hid hO
      have HQ := Lib.hid hp
      have HJ := Lib.hid J
      have HRn := Lib.hid hRn
      have C := ExpM (v := 0) hO t 2 p (hp.trans ((optE_cons _ _ _ _).trans (optE_perm _ _ (List.Perm.refl _))).symm) (hp.mem_iff.2 (mem_optE _ _ (mem_optE _ _ (mem_optE _ _ (mem_optE _ _ (mem_optE _ _ (mem_optE _ _ (mem_optE _ _ (mem_optE _ _ (List.mem_cons_self)))))))))) (hp.mem_iff.2 (mem_optE _ _ (mem_optE _ _ (mem_optE _ _ (mem_optE _ _ (mem_optE _ _ (mem_optE_self _ _))))))) (hp.mem_iff.2 (mem_optE _ _ (mem_optE _ _ (mem_optE _ _ (mem_optE _ _ (mem_optE _ _ (mem_optE _ _ (mem_optE _ _ (mem_optE _ _ (List.mem_cons_of_mem _ (List.mem_of_getElem? HP.out))))))))))) (by have := P2.out; omega) hRn (Nat.lt_trans HT.out PB.out) (by decide) (by decide) PB.out P2.out
      have HC := Lib.hid C
      clear hO hp J hRn C
      refine wpOp_step rfl (fun K' hK => ?_)
      have HK := Lib.hid hK
      clear hK hun hpre
      go_wp2_with fail
      refine HC.out.mono ?_
      rintro en wN ⟨rfl, N', hN, hq⟩
      have HN' := Lib.hid hN
      have HQ' := Lib.hid hq
      clear hN hq
      go_wp2_with fail
      have J := HJ.out
      exact HK.out _ _ ⟨(K0.out _ HN'.out.kept), b4, b6, b11, b12, b14, b19, true, true, true, b28, b30, b35, false, false, false, u19, u21, u26, u27, u29, u34, _, _, _, u43, u45, u50, u51, u52, u6, n1, n2, n3, n4, t1, t2, t3, t4, rc, ⟨lset e4 (by decide), lset e6 (by decide), lset e11 (by decide), lset e12 (by decide), lset e14 (by decide), lset e19 (by decide), lset e20 (by decide), lset e22 (by decide), lself hls, lset e28 (by decide), lset e30 (by decide), lset e35 (by decide), lset e36 (by decide), lset e37 (by decide), lset e38 (by decide)⟩, fun k hk => getD_set_true (hst k hk), rfl, ⟨J.v4, J.v6, J.v11, J.i11, J.v12, J.v14, J.v19, J.i19, fun _ => ⟨rfl, HRn.out⟩, fun _ => rfl, fun _ => rfl, fun _ => ⟨rfl, rfl⟩, J.v28, J.v30, J.v35, J.i35, (fun h => by cases h), fun _ => ⟨_, HN'.out, HQ'.out.trans ((optE_cons _ _ _ _).trans (optE_perm _ _ (List.Perm.refl _)))⟩, (fun h => by cases h), (fun h => by cases h), (fun h => by cases h), (fun h => by cases h), (fun h => by cases h)⟩⟩
    · have hb : b28 = false := by rw [← e28]; exact getD_unl hun
      subst hb
      have f35 : b35 = false := Bool.eq_false_iff.2 fun h => by have := (J.i35 h).1; cases this
      subst f35
      have f36 : b36 = false := Bool.eq_false_iff.2 fun h => by have := (J.j36 h).2.2.2; cases this
      subst f36
      have f37 : b37 = false := Bool.eq_false_iff.2 fun h => by have := J.j37 h; cases this
      subst f37
      have f38 : b38 = false := Bool.eq_false_iff.2 fun h => by have := J.j38 h; cases this
      subst f38
      obtain ⟨M, hO, hp⟩ := J.own rfl
      have HO := Lib.hid hO
      have HQ := Lib.hid hp
      have HJ := Lib.hid J
      clear hO hp J
      refine wpOp_step rfl (fun K' hK => ?_)
      have HK := Lib.hid hK
      clear hK hun hpre
      go_wp2_with fail
      have J := HJ.out
      obtain ⟨hN, hRn⟩ := HO.out.new
      exact HK.out _ _ ⟨(K0.out _ hN.kept), b4, b6, b11, b12, b14, b19, b20, b22, b27, true, b30, false, false, false, false, u19, u21, u26, u27, u29, u34, u35, u37, u42, _, u45, u50, u51, u52, u6, n1, n2, n3, w'.heap.size, t1, t2, t3, t4, rc, ⟨lset e4 (by decide), lset e6 (by decide), lset e11 (by decide), lset e12 (by decide), lset e14 (by decide), lset e19 (by decide), lset e20 (by decide), lset e22 (by decide), lset e27 (by decide), lself hls, lset e30 (by decide), lset e35 (by decide), lset e36 (by decide), lset e37 (by decide), lset e38 (by decide)⟩, fun k hk => getD_set_true (hst k hk), rfl, ⟨J.v4, J.v6, J.v11, J.i11, J.v12, J.v14, J.v19, J.i19, J.v20, J.v22, J.v27, J.i27, fun _ => ⟨rfl, hRn⟩, J.v30, (fun h => by cases h), (fun h => by cases h), (fun h => by cases h), fun _ => ⟨_, hN, (HQ.out.cons _).trans (List.Perm.refl _)⟩, (fun h => by cases h), (fun h => by cases h), (fun h => by cases h), (fun h => by cases h), (fun h => by cases h)⟩⟩
    · have hb : b30 = false := by rw [← e30]; exact getD_unl hun
      subst hb
      have f35 : b35 = false := Bool.eq_false_iff.2 fun h => by have := (J.i35 h).2; cases this
      subst f35
      have f36 : b36 = false := Bool.eq_false_iff.2 fun h => by have := (J.j36 h).2.2.2; cases this
      subst f36
      have f37 : b37 = false := Bool.eq_false_iff.2 fun h => by have := J.j37 h; cases this
      subst f37
      have f38 : b38 = false := Bool.eq_false_iff.2 fun h => by have := J.j38 h; cases this
      subst f38
      obtain ⟨M, hO, hp⟩ := J.own rfl
      have HO := Lib.hid hO
      have HQ := Lib.hid hp
      have HJ := Lib.hid J
      clear hO hp J
      refine wpOp_step rfl (fun K' hK => ?_)
      have HK := Lib.hid hK
      clear hK hun hpre
      go_wp2_with fail
      refine (newIntO HO.out 3 (by decide)).mono ?_
      rintro en wN ⟨zN, rfl, hN, hRn⟩
      have HN' := Lib.hid hN
      clear hN
      go_wp2_with fail
      have J := HJ.out
      exact HK.out _ _ ⟨(K0.out _ HN'.out.kept), b4, b6, b11, b12, b14, b19, b20, b22, b27, b28, true, false, false, false, false, u19, u21, u26, u27, u29, u34, u35, u37, u42, u43, _, u50, u51, u52, u6, n1, n2, n3, n4, t1, t2, t3, zN, rc, ⟨lset e4 (by decide), lset e6 (by decide), lset e11 (by decide), lset e12 (by decide), lset e14 (by decide), lset e19 (by decide), lset e20 (by decide), lset e22 (by decide), lset e27 (by decide), lset e28 (by decide), lself hls, lset e35 (by decide), lset e36 (by decide), lset e37 (by decide), lset e38 (by decide)⟩, fun k hk => getD_set_true (hst k hk), rfl, ⟨J.v4, J.v6, J.v11, J.i11, J.v12, J.v14, J.v19, J.i19, J.v20, J.v22, J.v27, J.i27, J.v28, fun _ => rfl, (fun h => by cases h), (fun h => by cases h), (fun h => by cases h), fun _ => ⟨_, HN'.out, (HQ.out.cons _).trans ((optE_cons _ _ _ _).trans (optE_perm _ _ ((optE_cons _ _ _ _).trans (optE_perm _ _ ((optE_cons _ _ _ _).trans (optE_perm _ _ ((optE_cons _ _ _ _).trans (optE_perm _ _ (List.Perm.refl _)))))))))⟩, (fun h => by cases h), (fun h => by cases h), (fun h => by cases h), (fun h => by cases h), (fun h => by cases h)⟩⟩
    · have hb : b35 = false := by rw [← e35]; exact getD_unl hun
      subst hb
      have p28 : b28 = true := by rw [← e28]; exact hpre _ rfl ⟨28, .data⟩ (by simp) rfl
      subst p28
      have p30 : b30 = true := by rw [← e30]; exact hpre _ rfl ⟨30, .data⟩ (by simp) rfl
      subst p30
      have f36 : b36 = false := Bool.eq_false_iff.2 fun h => by have := (J.j36 h).2.2.2; cases this
      subst f36
      have f37 : b37 = false := Bool.eq_false_iff.2 fun h => by have := J.j37 h; cases this
      subst f37
      have f38 : b38 = false := Bool.eq_false_iff.2 fun h => by have := J.j38 h; cases this
      subst f38
      obtain ⟨M, hO, hp⟩ := J.own rfl
      obtain ⟨x1, hRn⟩ := J.v28 rfl
      have x2 := J.v30 rfl
      subst x1 x2
      have HO := Lib.hid hO
      have HQ := Lib.hid hp
      have HJ := Lib.hid J
      have HRn := Lib.hid hRn
      have C := ExpM (v := 0) hO t 3 p (hp.trans (List.Perm.refl _).symm) (hp.mem_iff.2 (mem_optE _ _ (mem_optE _ _ (mem_optE _ _ (mem_optE _ _ (mem_optE _ _ (mem_optE _ _ (mem_optE _ _ (mem_optE _ _ (List.mem_cons_self)))))))))) (hp.mem_iff.2 (mem_optE _ _ (mem_optE _ _ (mem_optE _ _ (mem_optE _ _ (mem_optE_self _ _)))))) (hp.mem_iff.2 (mem_optE _ _ (mem_optE _ _ (mem_optE _ _ (mem_optE _ _ (mem_optE _ _ (mem_optE _ _ (mem_optE _ _ (mem_optE _ _ (List.mem_cons_of_mem _ (List.mem_of_getElem? HP.out))))))))))) (by have := P2.out; omega) hRn (Nat.lt_trans HT.out PB.out) (by decide) (by decide) PB.out P2.out
      have HC := Lib.hid C
      clear hO hp J hRn C
      refine wpOp_step rfl (fun K' hK => ?_)
      have HK := Lib.hid hK
      clear hK hun hpre
      go_wp2_with fail
      refine HC.out.mono ?_
      rintro en wN ⟨rfl, N', hN, hq⟩
      have HN' := Lib.hid hN
      have HQ' := Lib.hid hq
      clear hN hq
      go_wp2_with fail
      have J := HJ.out
      exact HK.out _ _ ⟨(K0.out _ HN'.out.kept), b4, b6, b11, b12, b14, b19, b20, b22, b27, true, true, true, false, false, false, u19, u21, u26, u27, u29, u34, u35, u37, u42, _, _, _, u51, u52, u6, n1, n2, n3, n4, t1, t2, t3, t4, rc, ⟨lset e4 (by decide), lset e6 (by decide), lset e11 (by decide), lset e12 (by decide), lset e14 (by decide), lset e19 (by decide), lset e20 (by decide), lset e22 (by decide), lset e27 (by decide), lset e28 (by decide), lset e30 (by decide), lself hls, lset e36 (by decide), lset e37 (by decide), lset e38 (by decide)⟩, fun k hk => getD_set_true (hst k hk), rfl, ⟨J.v4, J.v6, J.v11, J.i11, J.v12, J.v14, J.v19, J.i19, J.v20, J.v22, J.v27, J.i27, fun _ => ⟨rfl, HRn.out⟩, fun _ => rfl, fun _ => rfl, fun _ => ⟨rfl, rfl⟩, (fun h => by cases h), fun _ => ⟨_, HN'.out, HQ'.out.trans (List.Perm.refl _)⟩, (fun h => by cases h), (fun h => by cases h), (fun h => by cases h), (fun h => by cases h), (fun h => by cases h)⟩⟩
    · have hb : b36 = false := by rw [← e36]; exact getD_unl hun
      subst hb
      have p11 : b11 = true := by rw [← e11]; exact hpre _ rfl ⟨11, .data⟩ (by simp) rfl
      subst p11
      have p19 : b19 = true := by rw [← e19]; exact hpre _ rfl ⟨19, .data⟩ (by simp) rfl
      subst p19
      have p27 : b27 = true := by rw [← e27]; exact hpre _ rfl ⟨27, .data⟩ (by simp) rfl
      subst p27
      have p35 : b35 = true := by rw [← e35]; exact hpre _ rfl ⟨35, .data⟩ (by simp) rfl
      subst p35
      have f37 : b37 = false := Bool.eq_false_iff.2 fun h => by have := J.j37 h; cases this
      subst f37
      have f38 : b38 = false := Bool.eq_false_iff.2 fun h => by have := J.j38 h; cases this
      subst f38
      obtain ⟨M, hO, hp⟩ := J.own rfl
      have x1 := J.v11 rfl
      have x2 := J.v19 rfl
      have x3 := J.v27 rfl
      have x4 := J.v35 rfl
      subst x1 x2 x3 x4
      have HO := Lib.hid hO
      have HQ := Lib.hid hp
      have HJ := Lib.hid J
      clear hO hp J
      refine wpOp_step rfl (fun K' hK => ?_)
      have HK := Lib.hid hK
      clear hK hun hpre
      go_wp2_with fail
      have J := HJ.out
      exact HK.out _ _ ⟨(K0.out _ HO.out.kept), b4, b6, true, b12, b14, true, b20, b22, true, b28, b30, true, true, false, false, u19, u21, _, u27, u29, _, u35, u37, _, u43, u45, _, _, u52, u6, n1, n2, n3, n4, t1, t2, t3, t4, rc, ⟨lset e4 (by decide), lset e6 (by decide), lset e11 (by decide), lset e12 (by decide), lset e14 (by decide), lset e19 (by decide), lset e20 (by decide), lset e22 (by decide), lset e27 (by decide), lset e28 (by decide), lset e30 (by decide), lset e35 (by decide), lself hls, lset e37 (by decide), lset e38 (by decide)⟩, fun k hk => getD_set_true (hst k hk), rfl, ⟨J.v4, J.v6, fun _ => rfl, J.i11, J.v12, J.v14, fun _ => rfl, J.i19, J.v20, J.v22, fun _ => rfl, J.i27, J.v28, J.v30, fun _ => rfl, J.i35, fun _ => rfl, fun _ => ⟨_, HO.out, HQ.out⟩, (fun h => by cases h), fun _ => ⟨rfl, rfl, rfl, rfl⟩, fun _ => rfl, (fun h => by cases h), (fun h => by cases h)⟩⟩
    · have hb : b37 = false := by rw [← e37]; exact getD_unl hun
      subst hb
      have p36 : b36 = true := by rw [← e36]; exact hpre _ rfl ⟨36, .data⟩ (by simp) rfl
      subst p36
      have f38 : b38 = false := Bool.eq_false_iff.2 fun h => by have := J.j38 h; cases this
      subst f38
      have x1 := J.v36 rfl
      subst x1
      obtain ⟨y1, y2, y3, y4⟩ := J.j36 rfl
      obtain ⟨M, hO, hp⟩ := J.own rfl
      have HO := Lib.hid hO
      have HQ := Lib.hid hp
      have HJ := Lib.hid J
      have HY := Lib.hid (And.intro y1 (And.intro y2 (And.intro y3 y4)))
      clear hO hp J y1 y2 y3 y4
      refine wpOp_step rfl (fun K' hK => ?_)
      have HK := Lib.hid hK
      clear hK hun hpre
      go_wp2_with fail
      have J := HJ.out
      exact HK.out _ _ ⟨(K0.out _ (HO.out.box _).kept), b4, b6, b11, b12, b14, b19, b20, b22, b27, b28, b30, b35, true, true, false, u19, u21, u26, u27, u29, u34, u35, u37, u42, u43, u45, u50, _, _, u6, n1, n2, n3, n4, t1, t2, t3, t4, w'.heap.size, ⟨lset e4 (by decide), lset e6 (by decide), lset e11 (by decide), lset e12 (by decide), lset e14 (by decide), lset e19 (by decide), lset e20 (by decide), lset e22 (by decide), lset e27 (by decide), lset e28 (by decide), lset e30 (by decide), lset e35 (by decide), lset e36 (by decide), lself hls, lset e38 (by decide)⟩, fun k hk => getD_set_true (hst k hk), rfl, ⟨J.v4, J.v6, J.v11, J.i11, J.v12, J.v14, J.v19, J.i19, J.v20, J.v22, J.v27, J.i27, J.v28, J.v30, J.v35, J.i35, fun _ => rfl, (fun h => by cases h), fun _ => ⟨rfl, heap_alloc_new _ _, M, HO.out.box _, HO.out.guard _, HQ.out⟩, fun _ => HY.out, fun _ => rfl, (fun h => by cases h), (fun h => by cases h)⟩⟩
    · have hb : b38 = false := by rw [← e38]; exact getD_unl hun
      subst hb
      have p37 : b37 = true := by rw [← e37]; exact hpre _ rfl ⟨37, .data⟩ (by simp) rfl
      subst p37
      obtain ⟨x1, hheap, M, hO, hG, hp⟩ := J.fin rfl
      subst x1
      have HO := Lib.hid hO
      have HJ := Lib.hid J
      clear hO hG hp J hheap
      refine wpOp_step rfl (fun K' hK => ?_)
      have HK := Lib.hid hK
      clear hK hun hpre
      go_wp2_with fail
      have J := HJ.out
      exact HK.out _ _ ⟨(K0.out _ HO.out.kept), b4, b6, b11, b12, b14, b19, b20, b22, b27, b28, b30, b35, b36, true, true, u19, u21, u26, u27, u29, u34, u35, u37, u42, u43, u45, u50, u51, _, _, n1, n2, n3, n4, t1, t2, t3, t4, rc, ⟨lset e4 (by decide), lset e6 (by decide), lset e11 (by decide), lset e12 (by decide), lset e14 (by decide), lset e19 (by decide), lset e20 (by decide), lset e22 (by decide), lset e27 (by decide), lset e28 (by decide), lset e30 (by decide), lset e35 (by decide), lset e36 (by decide), lset e37 (by decide), lself hls⟩, fun k hk => getD_set_true (hst k hk), rfl, ⟨J.v4, J.v6, J.v11, J.i11, J.v12, J.v14, J.v19, J.i19, J.v20, J.v22, J.v27, J.i27, J.v28, J.v30, J.v35, J.i35, J.v36, (fun h => by cases h), J.fin, J.j36, J.j37, fun _ => rfl, fun _ => rfl⟩⟩
  case fin =>
    intro listed a w' hs hall hI
    unfold NI at hI
    obtain ⟨b4, b6, b11, b12, b14, b19, b20, b22, b27, b28, b30, b35, b36, b37, b38, u19, u21, u26, u27, u29, u34, u35, u37, u42, u43, u45, u50, u51, u52, u6, n1, n2, n3, n4, t1, t2, t3, t4, rc, ⟨e4, e6, e11, e12, e14, e19, e20, e22, e27, e28, e30, e35, e36, e37, e38⟩, hst, rfl, J⟩ := hI
    have al : ∀ k, k < 39 → listed.getD k false = true := fun k hk => getD_all (hall k hk) (by rw [hs]; exact hk)
    have p4 : b4 = true := by rw [← e4]; exact al 4 (by decide)
    subst p4
    have p6 : b6 = true := by rw [← e6]; exact al 6 (by decide)
    subst p6
    have p11 : b11 = true := by rw [← e11]; exact al 11 (by decide)
    subst p11
    have p12 : b12 = true := by rw [← e12]; exact al 12 (by decide)
    subst p12
    have p14 : b14 = true := by rw [← e14]; exact al 14 (by decide)
    subst p14
    have p19 : b19 = true := by rw [← e19]; exact al 19 (by decide)
    subst p19
    have p20 : b20 = true := by rw [← e20]; exact al 20 (by decide)
    subst p20
    have p22 : b22 = true := by rw [← e22]; exact al 22 (by decide)
    subst p22
    have p27 : b27 = true := by rw [← e27]; exact al 27 (by decide)
    subst p27
    have p28 : b28 = true := by rw [← e28]; exact al 28 (by decide)
    subst p28
    have p30 : b30 = true := by rw [← e30]; exact al 30 (by decide)
    subst p30
    have p35 : b35 = true := by rw [← e35]; exact al 35 (by decide)
    subst p35
    have p36 : b36 = true := by rw [← e36]; exact al 36 (by decide)
    subst p36
    have p37 : b37 = true := by rw [← e37]; exact al 37 (by decide)
    subst p37
    have p38 : b38 = true := by rw [← e38]; exact al 38 (by decide)
    subst p38
    have x1 := J.v38 rfl
    obtain ⟨x2, hheap, M, hO, hG, hp⟩ := J.fin rfl
    subst x1
    have hq := hp.trans ((List.perm_append_comm (l₁ := [(n4, ((t ^ 3 % p : Nat) : Int)), (n3, ((t ^ 2 % p : Nat) : Int)), (n2, ((g ^ 3 % p : Nat) : Int)), (n1, ((g ^ 2 % p : Nat) : Int))]) (l₂ := [(t4, 3), (t3, 2), (t2, 3), (t1, 2), (w.heap.size, (t : Int))])).append_right L)
    have hF : RcP R w0 (.nilIface) c zg L g p (.returned (ptr rc)) w' :=
      ⟨rc, n1, n2, n3, n4, w.heap.size, t, rfl, hheap, HS.out.after (hO.perm hq).tail.tail.tail.tail.tail, (hG.perm hq).tail.tail.tail.tail.tail, HT.out, HTD.out⟩
    have HF := Lib.hid hF
    clear hq hheap hO hG hp J al hall hst hs cP hF
    clear e4 e6 e11 e12 e14 e19 e20 e22 e27 e28 e30 e35 e36 e37 e38
    go_wp2_with fail
    go_ret
    exact HF.out
end
end Go.Proofs.YtohhkjamddojmaaGreatDoor.Big
