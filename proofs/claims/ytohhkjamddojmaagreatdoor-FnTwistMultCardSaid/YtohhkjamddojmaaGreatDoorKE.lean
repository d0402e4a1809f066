/- Bytes that are owned; sums with the point at infinity; multiples as the specification has them. -/
import Derived.Test.YtohhkjamddojmaaGreatDoorKD
namespace Go.Proofs.YtohhkjamddojmaaGreatDoor.Big
open Go.RowKit
open EcLaw (Pt Prm On Cv)
attribute [local go_sem] ptr
attribute [local irreducible] Sz

section
variable {R : Nat → Prop} {w0 w w' : World} {L L' : List (Nat × Int)}
/-- behind what makes new blocks alone -/
theorem Own.grownN (h : Own R w0 w L) (hg : w.grownBy w' .none) : Own R w0 w' L :=
  h.step (h.ints.same ((Grow.of hg).weaken (fun _ _ e => by cases e))) ((Grow.of hg).weaken (fun _ _ e => by cases e)) rfl rfl
/-- one of the new blocks is kept from here on -/
theorem Own.guardN (h : Own R w0 w L) (hg : w.grownBy w' .none) {g : Nat} (hgb : w.heap.size ≤ g) (hlt : g < w'.heap.size) : Own (RO R g) w' w' L := by
  have hb := h.grownN hg
  obtain ⟨ps, qs, hf⟩ := h.ints
  have hgr : Grow w w' (fun _ => False) := (Grow.of hg).weaken (fun _ _ e => by cases e)
  refine ⟨⟨ps, qs, ⟨?_, hf.lenV, hf.lenP, hf.lenQ, fun i z v p q h1 h2 h3 h4 => (hf.one i z v p q h1 h2 h3 h4).grow hgr id (fun _ _ => id), ?_, hf.zz, hf.pp, hf.zp⟩⟩, Kept.refl _ _, hb.tab, fun k hk => .inl (h.low k hk)⟩
  · rintro k (hk | rfl)
    · have := hf.old k hk; have := hg.size; omega
    · exact hlt
  · intro i z p h1 h2 hz b hbb
    rintro (hr | rfl)
    · exact hf.own i z p h1 h2 (RO.no hz) b hbb hr
    · obtain ⟨v, p', q, hv, hp, hq, one⟩ := hf.at h1
      obtain rfl : p = p' := by rw [h2] at hp; exact Option.some.inj hp
      have := one.num.lt _ hbb
      omega
/-- more blocks are kept -/
theorem Own.widen (h : Own R w0 w L) {R' : Nat → Prop} (hR : ∀ k, R k → R' k) (hb : ∀ k, R' k → k < w.heap.size) : Own R' w w [] :=
  ⟨⟨[], [], ⟨hb, rfl, rfl, rfl, fun i z v p q h1 => by simp at h1, fun i z p h1 => by simp at h1, fun i j z h1 => by simp at h1, fun i j p q b h1 => by simp at h1, fun i j z p h1 => by simp at h1⟩⟩, Kept.refl _ _, h.tab, fun k hk => hR k (h.low k hk)⟩
theorem Own.narrow (h : Own R w0 w L) {R' : Nat → Prop} (hR : ∀ k, R k → R' k) (h' : Own R' w w' L') : Own R w0 w' [] := h.turned (h'.kept.weaken (fun k _ hn hk => hn (hR k hk)))
theorem Own.old (h : Own R w0 w L) {k : Nat} (hk : R k) : k < w.heap.size := by
  obtain ⟨ps, qs, hf⟩ := h.ints
  exact hf.old k hk
/-- bytes of a number, owned -/
def BytesO (R : Nat → Prop) (w0 : World) (L : List (Nat × Int)) (n m : Nat) (e : Ending) (w' : World) : Prop :=
  ∃ (ks : List Nat) (g cap : Nat), e = .returned (.slice (some ⟨g, 0, .none⟩) ks.length cap) ∧ Own R w0 w' L ∧ Own (RO R g) w' w' L ∧ (∀ i, i < ks.length → w'.cell? ⟨g, 0 + i, .none⟩ = some (.int .u8 (ks.getD i 0 : Nat))) ∧ (∀ i, ks.getD i 0 < 256) ∧ ks.length ≤ m ∧ ks.length ≤ cap ∧ bev ks = n ∧ w0.heap.size ≤ g
theorem bytesO (h : Own R w0 w L) (n z : Nat) (hn : n < 9223372036854775808) (hz : z < 256) : Calls Tryz.prog 18 #[.int .i64 n, .int .i64 z] w (BytesO R w0 L n (z + 8)) := by
  refine (bytesOf w n z hn hz).mono ?_
  rintro e w' ⟨ks, ⟨g, cap, rfl, hown, hg⟩, h1, h2, h3⟩
  obtain ⟨hgb, hlt⟩ := hown.lt g rfl
  have hgd : ∀ i, ks.getD i 0 < 256 := fun i => by
    rw [List.getD_eq_getElem?_getD]
    cases e : ks[i]? with
    | none => simp
    | some k => exact h2 k (List.mem_of_getElem? e)
  refine ⟨ks, g, cap, rfl, h.grownN hg, h.guardN hg hgb hlt, fun i hi => ?_, hgd, h3, ?_, h1, Nat.le_trans h.kept.size hgb⟩
  · rw [Nat.zero_add, hown.cellAt i (by omega), List.getElem?_map, List.getElem?_eq_getElem hi, Option.map_some, List.getD_eq_getElem?_getD, List.getElem?_eq_getElem hi]
    rfl
  · rcases hown.2 with ⟨e, _⟩ | ⟨g', cap', cur, e, _, _, hle, _⟩
    · cases e
    · cases e
      exact hle
set_option maxHeartbeats 4000000 in
set_option maxRecDepth 100000 in
/-- a point and the point at infinity -/
theorem specAddI (h : Own R w0 w []) (p A B x y : Nat) :
    Calls Tryz.prog 55 #[.agg #[.int .i64 p, .int .i64 A, .int .i64 B], ptV .inf, ptV (.aff x y)] w (fun e w' => e = .returned (ptV (.aff x y)) ∧ Own R w0 w' []) := by
  have H := Lib.hid h
  clear h
  simp only [ptV]
  go_enter Tryz.func55, Tryz.ntmps55
  go_wp2_with fail
  simp [bodyPost, results, Tryz.results55, go_sem]
  exact (((H.out.box _).box _).box _).box _
theorem ptV_agg (A : Pt) : ∃ (a c : Int) (n : Bool), ptV A = .agg #[.int .i64 a, .int .i64 c, .bool n] := by
  cases A with
  | inf => exact ⟨_, _, _, rfl⟩
  | aff x y => exact ⟨_, _, _, rfl⟩
/-- a multiple and the point -/
theorem specAddM (h : Own R w0 w []) (p A B x y k : Nat) (h5 : 5 ≤ p) (hp : p < 65536) (hP : NumLaw.IsP p) (ha : A < p) (o : On (p : Int) A B (.aff x y)) :
    Calls Tryz.prog 55 #[.agg #[.int .i64 p, .int .i64 A, .int .i64 B], ptV (EcLaw.mul p A k (.aff x y)), ptV (.aff x y)] w (fun e w' => e = .returned (ptV (EcLaw.mul p A (k + 1) (.aff x y))) ∧ Own R w0 w' []) := by
  have hpr : Prm (p : Int) := prm_of hP (by omega)
  have hOn := EcLaw.mul_on hpr o k
  show Calls Tryz.prog 55 _ w (fun e w' => e = .returned (ptV (EcLaw.add p A (EcLaw.mul p A k (.aff x y)) (.aff x y))) ∧ Own R w0 w' [])
  rcases mul_nat hpr o k with e | ⟨u, v, e, -, -⟩
  · rw [e]
    exact specAddI h p A B x y
  · rw [e] at hOn
    rw [e]
    exact specAddO h p A B u v x y h5 hp hP ha hOn o
end
end Go.Proofs.YtohhkjamddojmaaGreatDoor.Big
