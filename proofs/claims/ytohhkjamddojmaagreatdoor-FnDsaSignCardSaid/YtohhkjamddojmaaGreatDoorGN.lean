/- Numbers of at most two bytes. Fresh bytes: the r of a secret number. Fresh bytes. -/
import Derived.Test.YtohhkjamddojmaaGreatDoorDG
import Derived.Test.YtohhkjamddojmaaGreatDoorGJ
namespace Go.Proofs.YtohhkjamddojmaaGreatDoor.Big
open Go.RowKit NumLaw
attribute [local go_sem] ptr

set_option maxHeartbeats 4000000 in
set_option maxRecDepth 100000 in
theorem numberS (g o c : Nat) (ks : List Nat) (w : World) (hl : ks.length ≤ 2) (hlt : ∀ i, ks.getD i 0 < 256)
    (hc : ∀ i, i < ks.length → w.cell? ⟨g, o + i, .none⟩ = some (.int .u8 (ks.getD i 0 : Nat))) :
    Calls Tryz.prog 43 #[.slice (some ⟨g, o, .none⟩) ks.length c] w (fun e w' => e = .returned (.int .i64 (bev ks : Nat)) ∧ w' = w) := by
  obtain ⟨v, hv⟩ : ∃ v, v = bev ks := ⟨_, rfl⟩
  obtain ⟨m, hm⟩ : ∃ m, m = ks.length := ⟨_, rfl⟩
  have H := Lib.hid (And.intro hl (And.intro hlt (And.intro hc (And.intro hv hm))))
  rw [← hv, ← hm]
  clear hv hm hl hlt hc
  go_enter Tryz.func43, Tryz.ntmps43
  go_wp2_with fail
  go_loop [3, 8] (fun x y => ∃ i : Nat, i ≤ m ∧ x = .int .i64 (bev (ks.take i) : Nat) ∧ y = .int .i64 i) (fun _ y => (m - intOf y).toNat)
  case atStart => exact ⟨0, Nat.zero_le _, rfl, rfl⟩
  case round =>
    obtain ⟨i, hi, rfl, rfl⟩ := hrel
    by_cases he : i = m
    · subst he
      have e : bev (ks.take i) = v := by rw [H.out.2.2.2.2, List.take_length, H.out.2.2.2.1]
      rw [e]
      have e2 : ¬ (i : Int) < (i : Int) := by omega
      go_wp2_with fail
      go_ret
      exact ⟨rfl, rfl⟩
    · have him : i < ks.length := by have := H.out.2.2.2.2; omega
      have c1 := H.out.2.2.1 i him
      have b1 := H.out.2.1 i
      have hB : bev (ks.take i) < 256 := by
        have := H.out.1
        match i, (show i < 2 by omega) with
        | 0, _ => simp [bev]
        | 1, _ => rw [bev_take (i := 0) (by omega)]; simp [bev]; exact H.out.2.1 0
      have NX := Lib.hid (bev_take him)
      obtain ⟨acc, hacc⟩ : ∃ acc, acc = bev (ks.take i) := ⟨_, rfl⟩
      obtain ⟨d, hd⟩ : ∃ d, d = ks.getD i 0 := ⟨_, rfl⟩
      rw [← hacc, ← hd] at NX
      rw [← hacc] at hB ⊢
      rw [← hd] at c1 b1
      have im : (i : Int) < m := by omega
      have im2 : i < m := by omega
      have HO := Lib.hid (i64_or acc d hB b1)
      have IM := Lib.hid im2
      clear hacc hd hi he him
      go_wp2_with fail
      have m2 := H.out.1
      have m3 := H.out.2.2.2.2
      have ew : wrap64 ((i : Int) + 1) = ((i + 1 : Nat) : Int) := by rw [wrapD (by have := IM.out; omega)]; rfl
      rw [HO.out, ew]
      exact ⟨⟨i + 1, IM.out, by rw [NX.out], rfl⟩, by have := IM.out; simp only [intOf]; omega⟩
end Go.Proofs.YtohhkjamddojmaaGreatDoor.Big

namespace Go.Proofs.YtohhkjamddojmaaGreatDoor.Big
open Go.RowKit NumLaw
attribute [local go_sem] ptr

set_option maxHeartbeats 4000000 in
set_option maxRecDepth 100000 in
theorem freshR (kb bb rb o n c i x y P Q G : Nat) (w : World) (hi : i ≤ 2) (hn : 8 ≤ n) (hc : n ≤ c) (hx : x < 256) (hy : y < 256) (hP : 2 ≤ P) (hP31 : P < 2147483648) (hQ : 0 < Q) (hG : G < P)
    (cP : w.cell? ⟨kb, 0, .none⟩ = some (.int .i64 P)) (cQ : w.cell? ⟨kb, 1, .none⟩ = some (.int .i64 Q)) (cG : w.cell? ⟨kb, 2, .none⟩ = some (.int .i64 G))
    (cB : w.cell? ⟨bb, 0, .none⟩ = some (.slice (some ⟨rb, o, .none⟩) n c)) (c0 : w.cell? ⟨rb, o + i, .none⟩ = some (.int .u8 x)) (c1 : w.cell? ⟨rb, o + i + 1, .none⟩ = some (.int .u8 y)) :
    Calls Tryz.prog 89 #[.int .i64 i, ptr kb, ptr bb] w (fun e w' => e = .returned (.int .i64 (G ^ (x * 256 + y) % P % Q : Nat)) ∧ ∃ k, w' = w.drewN k) := by
  obtain ⟨m, hm⟩ : ∃ m, m = x * 256 + y := ⟨_, rfl⟩
  obtain ⟨r, hr⟩ : ∃ r, r = G ^ m % P := ⟨_, rfl⟩
  have HNm := Lib.hid (show ∀ k, Calls Tryz.prog 43 #[.slice (some ⟨rb, o + i, .none⟩) 2 (c - i)] (w.drewN k) (fun e w' => e = .returned (.int .i64 m) ∧ ∃ j, w' = w.drewN j) from fun k => (numberS rb (o + i) (c - i) [x, y] (w.drewN k) (by simp) (fun j => by
    match j with
    | 0 => exact hx
    | 1 => exact hy
    | j + 2 => simp) (fun j hj => by
    match j, hj with
    | 0, _ => exact c0
    | 1, _ => exact c1)).mono (fun _ _ ⟨he, hw⟩ => ⟨by rw [he, hm]; simp [bev], k, hw⟩))
  have HPw := Lib.hid (show ∀ w, Calls Tryz.prog 32 #[.int .i64 G, .int .i64 (m : Int), .int .i64 P] w (fun e w' => e = .returned (.int .i64 (r : Int)) ∧ w' = w) from fun w => by
    have := powI (G : Int) m P w (by omega) (by omega) (by omega)
    rwa [show ((G : Int) % (P : Int)).toNat = G by rw [← Int.natCast_emod, Int.toNat_natCast, Nat.mod_eq_of_lt hG], ← hr] at this)
  have i1 : (i : Int) ≤ ((i + 2 : Nat) : Int) := by omega
  have i2 : ((i + 2 : Nat) : Int) ≤ c := by omega
  have i3 : i + 2 - i = 2 := by omega
  have i4 : i + 2 ≤ c := by omega
  have qz : ¬ Q = 0 := by omega
  have mr : (r : Int).tmod (Q : Int) = ((r % Q : Nat) : Int) := rfl
  rw [← hm, ← hr]
  have ei2 : wrap64 ((i : Int) + 2) = ((i + 2 : Nat) : Int) := by rw [wrapD (by clear mr; omega)]; rfl
  have ei : IntKind.i64.wrap ((i : Int) + 2) = ((i + 2 : Nat) : Int) := by rw [wraps_i64 _ (by clear mr ei2; omega) (Int.lt_of_le_of_lt (b := 4) (by clear mr ei2; omega) (by decide))]; rfl
  clear hm hr hP hP31 hQ hG c0 c1
  unfold ptr at *
  go_enter Tryz.func89, Tryz.ntmps89
  go_upto_region 1 with fail
  go_quiet ((first | (go_at_call 43; exact HNm.out _) | (go_at_call 32; exact quietD HPw.out _ _)))
  go_wp2_with fail
  go_ret
  exact ⟨rfl, _, rfl⟩
end Go.Proofs.YtohhkjamddojmaaGreatDoor.Big

namespace Go.Proofs.YtohhkjamddojmaaGreatDoor.Big
open Go.RowKit NumLaw
attribute [local go_sem] ptr

section
variable {R : Nat → Prop} {w0 w w' : World} {L L' : List (Nat × Int)}
set_option maxHeartbeats 4000000 in
set_option maxRecDepth 100000 in
theorem freshO (h : Own R w0 w []) (P Q G Y X rb o n c : Nat) (bs : Nat → Nat) (HK : KeyN P Q G Y X) (hRr : R rb) (hc : n ≤ c) (hb : ∀ i, bs i < 256) (hr : ∀ i, i < n → w.cell? ⟨rb, o + i, .none⟩ = some (.int .u8 (bs i : Nat))) (h8 : 8 ≤ n) (h60 : n ≤ 60) :
    Calls Tryz.prog 41 #[.agg #[.int .i64 P, .int .i64 Q, .int .i64 G, .int .i64 Y, .int .i64 X], .slice (some ⟨rb, o, .none⟩) n c] w (fun e w' => ∃ t, e = .returned (.bool t) ∧ Own R w0 w' [] ∧ (t = true → FreshN P Q G bs)) := by
  have n8 : ¬ (n : Int) < 8 := by omega
  have n60 : ¬ (60 : Int) < n := by omega
  have m1 := heap_alloc_new (w.alloc (.cells #[.int .i64 P, .int .i64 Q, .int .i64 G, .int .i64 Y, .int .i64 X] 68)) (.cells #[.slice (some ⟨rb, o, .none⟩) n c] 25)
  have s1 : (w.alloc (.cells #[.int .i64 P, .int .i64 Q, .int .i64 G, .int .i64 Y, .int .i64 X] 68)).heap.size = w.heap.size + 1 := Array.size_push _
  have m0 := ((grown_alloc (w.alloc (.cells #[.int .i64 P, .int .i64 Q, .int .i64 G, .int .i64 Y, .int .i64 X] 68)) (.cells #[.slice (some ⟨rb, o, .none⟩) n c] 25) .none).block w.heap.size (by omega) (by simp)).trans (heap_alloc_new w (.cells #[.int .i64 P, .int .i64 Q, .int .i64 G, .int .i64 Y, .int .i64 X] 68))
  rw [s1] at m1
  have kw : Kept R w ((w.alloc (.cells #[.int .i64 P, .int .i64 Q, .int .i64 G, .int .i64 Y, .int .i64 X] 68)).alloc (.cells #[.slice (some ⟨rb, o, .none⟩) n c] 25)) := ((h.since.box _).box _).kept
  obtain ⟨r0, hr0⟩ : ∃ r, r = G ^ (bs 0 * 256 + bs 1) % P % Q := ⟨_, rfl⟩
  obtain ⟨r2, hr2⟩ : ∃ r, r = G ^ (bs 2 * 256 + bs 3) % P % Q := ⟨_, rfl⟩
  have HF : ∀ j, j ≤ 2 → ∀ V : World, V.heap = ((w.alloc (.cells #[.int .i64 P, .int .i64 Q, .int .i64 G, .int .i64 Y, .int .i64 X] 68)).alloc (.cells #[.slice (some ⟨rb, o, .none⟩) n c] 25)).heap → Calls Tryz.prog 89 #[.int .i64 (j : Nat), ptr w.heap.size, ptr (w.heap.size + 1)] V (fun e w' => e = .returned (.int .i64 (G ^ (bs j * 256 + bs (j + 1)) % P % Q : Nat)) ∧ ∃ m, w' = V.drewN m) := fun j hj V hV => by
    have cc : ∀ a, V.cell? a = ((w.alloc (.cells #[.int .i64 P, .int .i64 Q, .int .i64 G, .int .i64 Y, .int .i64 X] 68)).alloc (.cells #[.slice (some ⟨rb, o, .none⟩) n c] 25)).cell? a := fun a => by unfold World.cell?; rw [hV]
    exact freshR w.heap.size (w.heap.size + 1) rb o n c j (bs j) (bs (j + 1)) P Q G V hj h8 hc (hb _) (hb _) (by have := HK.qp; have := HK.q15; omega) HK.p31 (by have := HK.q15; omega) HK.gp (by rw [cc]; exact block_cell (k := 0) m0 rfl) (by rw [cc]; exact block_cell (k := 1) m0 rfl) (by rw [cc]; exact block_cell (k := 2) m0 rfl) (by rw [cc]; exact block_cell (k := 0) m1 rfl) (by rw [cc]; exact kw.cell hRr (hr j (by omega))) (by rw [cc]; exact kw.cell hRr (hr (j + 1) (by omega)))
  have HF0 := Lib.hid (show ∀ V : World, V.heap = ((w.alloc (.cells #[.int .i64 P, .int .i64 Q, .int .i64 G, .int .i64 Y, .int .i64 X] 68)).alloc (.cells #[.slice (some ⟨rb, o, .none⟩) n c] 25)).heap → Calls Tryz.prog 89 #[.int .i64 0, ptr w.heap.size, ptr (w.heap.size + 1)] V (fun e w' => e = .returned (.int .i64 (r0 : Nat)) ∧ ∃ m, w' = V.drewN m) from fun V hV => by rw [hr0]; exact HF 0 (by omega) V hV)
  have HF2 := Lib.hid (show ∀ V : World, V.heap = ((w.alloc (.cells #[.int .i64 P, .int .i64 Q, .int .i64 G, .int .i64 Y, .int .i64 X] 68)).alloc (.cells #[.slice (some ⟨rb, o, .none⟩) n c] 25)).heap → Calls Tryz.prog 89 #[.int .i64 2, ptr w.heap.size, ptr (w.heap.size + 1)] V (fun e w' => e = .returned (.int .i64 (r2 : Nat)) ∧ ∃ m, w' = V.drewN m) from fun V hV => by rw [hr2]; exact HF 2 (by omega) V hV)
  have HRR := Lib.hid (And.intro hr0 hr2)
  clear m1 s1 m0 kw HF hr0 hr2
  have HN := Lib.hid (And.intro h (And.intro HK (And.intro hRr (And.intro hc (And.intro hb (And.intro hr (And.intro h8 h60)))))))
  clear h HK hRr hc hb hr h8 h60
  go_enter Tryz.func41, Tryz.ntmps41
  go_wp2_with fail
  have HK := Lib.hid (show Own R w0 ((w.alloc (.cells #[.int .i64 P, .int .i64 Q, .int .i64 G, .int .i64 Y, .int .i64 X] 68)).alloc (.cells #[.slice (some ⟨rb, o, .none⟩) n c] 25)) [] ∧ Kept R w ((w.alloc (.cells #[.int .i64 P, .int .i64 Q, .int .i64 G, .int .i64 Y, .int .i64 X] 68)).alloc (.cells #[.slice (some ⟨rb, o, .none⟩) n c] 25)) from ⟨(HN.out.1.box _).box _, ((HN.out.1.since.box _).box _).kept⟩)
  go_loop [18] (fun x => ∃ i : Nat, i ≤ n ∧ x = .int .i64 i ∧ RowKit.Hid (∀ j, j < i → 1 ≤ bs j ∧ bs j ≤ 127)) (fun x => (n - intOf x).toNat)
  case atStart => exact ⟨0, Nat.zero_le _, rfl, fun j hj => absurd hj (Nat.not_lt_zero _)⟩
  case round =>
    obtain ⟨i, hi, rfl, HI⟩ := hrel
    by_cases he : i = n
    · subst he
      have e2 : ¬ (i : Int) < (i : Int) := by omega
      have HO0 := Lib.hid HK.out.1
      have HBV := Lib.hid (show ∀ j, j < 4 → 1 ≤ bs j ∧ bs j ≤ 127 from fun j hj => HI.out j (by have := HN.out.2.2.2.2.2.2.1; omega))
      clear HK HN HI e2
      have p0 := HRR.out
      clear p0
      have O0 := Lib.hid HO0.out
      clear HO0
      unfold ptr at *
      by_cases z0 : r0 = 0
      · have HRF := Lib.hid HRR.out
        clear HRR
        subst z0
        go_wp2_with fail
        refine (HF0.out _ (by exact rfl)).mono ?_
        rintro e V1 ⟨rfl, m1, rfl⟩
        go_wp2_with fail
        go_ret
        exact ⟨false, rfl, O0.out.drew _, by intro h; cases h⟩
      · have z0I : (0 : Int) < r0 := by omega
        by_cases z2 : r2 = 0
        · have HRF := Lib.hid HRR.out
          clear HRR
          subst z2
          go_wp2_with fail
          refine (HF0.out _ (by exact rfl)).mono ?_
          rintro e V1 ⟨rfl, m1, rfl⟩
          go_wp2_with fail
          refine (HF2.out _ (by exact rfl)).mono ?_
          rintro e V2 ⟨rfl, m2, rfl⟩
          go_wp2_with fail
          go_ret
          exact ⟨false, rfl, O0.out.drew _, by intro h; cases h⟩
        · have z2I : (0 : Int) < r2 := by omega
          by_cases ee : r0 = r2
          · have HRF := Lib.hid HRR.out
            clear HRR z2
            subst ee
            go_wp2_with fail
            refine (HF0.out _ (by exact rfl)).mono ?_
            rintro e V1 ⟨rfl, m1, rfl⟩
            go_wp2_with fail
            refine (HF2.out _ (by exact rfl)).mono ?_
            rintro e V2 ⟨rfl, m2, rfl⟩
            go_wp2_with fail
            refine (HF0.out _ (by exact rfl)).mono ?_
            rintro e V3 ⟨rfl, m3, rfl⟩
            go_wp2_with fail
            refine (HF2.out _ (by exact rfl)).mono ?_
            rintro e V4 ⟨rfl, m4, rfl⟩
            go_wp2_with fail
            go_ret
            exact ⟨false, rfl, O0.out.drew _, by intro h; cases h⟩
          · have eI : ((r0 : Int) == r2) = false := by rw [beq_eq_false_iff_ne]; omega
            have eJ : ((r0 : Int) != r2) = true := by rw [bne_iff_ne]; omega
            have HZ := Lib.hid (And.intro z0 (And.intro z2 ee))
            clear z0 z2 ee
            go_wp2_with fail
            refine (HF0.out _ (by exact rfl)).mono ?_
            rintro e V1 ⟨rfl, m1, rfl⟩
            go_wp2_with fail
            refine (HF2.out _ (by exact rfl)).mono ?_
            rintro e V2 ⟨rfl, m2, rfl⟩
            go_wp2_with fail
            refine (HF0.out _ (by exact rfl)).mono ?_
            rintro e V3 ⟨rfl, m3, rfl⟩
            go_wp2_with fail
            refine (HF2.out _ (by exact rfl)).mono ?_
            rintro e V4 ⟨rfl, m4, rfl⟩
            go_wp2_with fail
            go_ret
            refine ⟨true, rfl, O0.out.drew _, fun _ => ?_⟩
            obtain ⟨a1, a2, a3⟩ := HZ.out
            obtain ⟨b1, b2⟩ := HRR.out
            exact ⟨fun i hi => (HBV.out i hi).1, fun i hi => (HBV.out i hi).2, by rw [← b1]; omega, by rw [← b2]; omega, by rw [← b1, ← b2]; exact a3⟩
    · have im : (i : Int) < n := by omega
      have im2 : i < n := by omega
      have c1 := HK.out.2.cell HN.out.2.2.1 (HN.out.2.2.2.2.2.1 i im2)
      have IM := Lib.hid im2
      by_cases hl : bs i < 1
      · obtain ⟨v, hv⟩ : ∃ v, v = bs i := ⟨_, rfl⟩
        rw [← hv] at c1 hl
        have hlI : (v : Int) < 1 := by omega
        clear hv he hi
        go_wp2_with fail
        go_ret
        exact .inl ⟨rfl, HK.out.1⟩
      · by_cases hl2 : 127 < bs i
        · obtain ⟨v, hv⟩ : ∃ v, v = bs i := ⟨_, rfl⟩
          rw [← hv] at c1 hl hl2
          have hlI : ¬ (v : Int) < 1 := by omega
          have hlJ : (127 : Int) < v := by omega
          clear hv he hi
          go_wp2_with fail
          go_ret
          exact .inl ⟨rfl, HK.out.1⟩
        · have HJ := Lib.hid (show ∀ j, j < i + 1 → 1 ≤ bs j ∧ bs j ≤ 127 from fun j hj => by
            by_cases h : j = i
            · subst h; omega
            · exact HI.out j (by omega))
          obtain ⟨v, hv⟩ : ∃ v, v = bs i := ⟨_, rfl⟩
          rw [← hv] at c1 hl hl2
          have hlI : ¬ (v : Int) < 1 := by omega
          have hlJ : ¬ (127 : Int) < v := by omega
          clear hv he hi
          go_wp2_with fail
          exact ⟨⟨i + 1, IM.out, rfl, HJ.out⟩, by have := IM.out; simp only [intOf]; omega⟩
end
end Go.Proofs.YtohhkjamddojmaaGreatDoor.Big
