/- Blocks that are kept, more of it; bytes that are owned; new Ints of bytes. -/
import Derived.Test.YtohhkjamddojmaaGreatDoorSB
import Derived.Test.YtohhkjamddojmaaGreatDoorTH
namespace Go.Proofs.YtohhkjamddojmaaGreatDoor.Big
open Go.RowKit
attribute [local go_sem] ptr

theorem setT {w : World} {b : Nat} {x y z X Y Z : Value} {T : TypeId} (h : w.heap[b]? = some (.cells #[x, y, z] T)) :
    (((w.setCell ⟨b, 0, .none⟩ X).setCell ⟨b, 1, .none⟩ Y).setCell ⟨b, 2, .none⟩ Z).heap[b]? = some (.cells #[X, Y, Z] T) ∧ w.grownBy (((w.setCell ⟨b, 0, .none⟩ X).setCell ⟨b, 1, .none⟩ Y).setCell ⟨b, 2, .none⟩ Z) (some b) := by
  refine ⟨?_, grown_trans (grown_set w b 0 X) (grown_trans (grown_set _ b 1 Y) (grown_set _ b 2 Z))⟩
  simp only [World.setCell, Array.getElem?_modify, if_true]
  rw [h]
  simp
section
variable {R : Nat → Prop} {w0 w w' : World} {L L' : List (Nat × Int)}
/-- behind what makes new blocks alone -/
theorem Own.grownN (h : Own R w0 w L) (hg : w.grownBy w' .none) : Own R w0 w' L :=
  h.step (h.ints.same ((Grow.of hg).weaken (fun _ _ e => by cases e))) ((Grow.of hg).weaken (fun _ _ e => by cases e)) rfl rfl
/-- one of the new blocks is kept from here on -/
theorem Own.guardN (h : Own R w0 w L) (hg : w.grownBy w' .none) {g : Nat} (hgb : w.heap.size ≤ g) (hlt : g < w'.heap.size) : Own (RO R g) w' w' L := by
  have hb := h.grownN hg
  obtain ⟨ps, qs, hf⟩ := h.ints
  have hgr : Grow w w' (fun _ => False) := (Grow.of hg).weaken (fun _ _ e => by cases e)
  refine ⟨⟨ps, qs, ⟨?_, hf.lenV, hf.lenP, hf.lenQ, fun i z v p q h1 h2 h3 h4 => (hf.one i z v p q h1 h2 h3 h4).grow hgr id (fun _ _ => id), ?_, hf.zz, hf.pp, hf.zp⟩⟩, Kept.refl _ _, hb.tab, fun k hk => .inl (h.low k hk)⟩
  · rintro k (hk | rfl)
    · have := hf.old k hk; have := hg.size; omega
    · exact hlt
  · intro i z p h1 h2 hz b hbb
    rintro (hr | rfl)
    · exact hf.own i z p h1 h2 (RO.no hz) b hbb hr
    · obtain ⟨v, p', q, hv, hp, hq, one⟩ := hf.at h1
      obtain rfl : p = p' := by rw [h2] at hp; exact Option.some.inj hp
      have := one.num.lt _ hbb
      omega
/-- more blocks are kept -/
theorem Own.widen (h : Own R w0 w L) {R' : Nat → Prop} (hR : ∀ k, R k → R' k) (hb : ∀ k, R' k → k < w.heap.size) : Own R' w w [] :=
  ⟨⟨[], [], ⟨hb, rfl, rfl, rfl, fun i z v p q h1 => by simp at h1, fun i z p h1 => by simp at h1, fun i j z h1 => by simp at h1, fun i j p q b h1 => by simp at h1, fun i j z p h1 => by simp at h1⟩⟩, Kept.refl _ _, h.tab, fun k hk => hR k (h.low k hk)⟩
theorem Own.narrow (h : Own R w0 w L) {R' : Nat → Prop} (hR : ∀ k, R k → R' k) (h' : Own R' w w' L') : Own R w0 w' [] := h.turned (h'.kept.weaken (fun k _ hn hk => hn (hR k hk)))
theorem Own.old (h : Own R w0 w L) {k : Nat} (hk : R k) : k < w.heap.size := by
  obtain ⟨ps, qs, hf⟩ := h.ints
  exact hf.old k hk
/-- bytes of a number, owned -/
def BytesO (R : Nat → Prop) (w0 : World) (L : List (Nat × Int)) (n m : Nat) (e : Ending) (w' : World) : Prop :=
  ∃ (ks : List Nat) (g cap : Nat), e = .returned (.slice (some ⟨g, 0, .none⟩) ks.length cap) ∧ Own R w0 w' L ∧ Own (RO R g) w' w' L ∧ (∀ i, i < ks.length → w'.cell? ⟨g, 0 + i, .none⟩ = some (.int .u8 (ks.getD i 0 : Nat))) ∧ (∀ i, ks.getD i 0 < 256) ∧ ks.length ≤ m ∧ ks.length ≤ cap ∧ bev ks = n ∧ w0.heap.size ≤ g
theorem bytesO (h : Own R w0 w L) (n z : Nat) (hn : n < 9223372036854775808) (hz : z < 256) : Calls Tryz.prog 18 #[.int .i64 n, .int .i64 z] w (BytesO R w0 L n (z + 8)) := by
  refine (bytesOf w n z hn hz).mono ?_
  rintro e w' ⟨ks, ⟨g, cap, rfl, hown, hg⟩, h1, h2, h3⟩
  obtain ⟨hgb, hlt⟩ := hown.lt g rfl
  have hgd : ∀ i, ks.getD i 0 < 256 := fun i => by
    rw [List.getD_eq_getElem?_getD]
    cases e : ks[i]? with
    | none => simp
    | some k => exact h2 k (List.mem_of_getElem? e)
  refine ⟨ks, g, cap, rfl, h.grownN hg, h.guardN hg hgb hlt, fun i hi => ?_, hgd, h3, ?_, h1, Nat.le_trans h.kept.size hgb⟩
  · rw [Nat.zero_add, hown.cellAt i (by omega), List.getElem?_map, List.getElem?_eq_getElem hi, Option.map_some, List.getD_eq_getElem?_getD, List.getElem?_eq_getElem hi]
    rfl
  · rcases hown.2 with ⟨e, _⟩ | ⟨g', cap', cur, e, _, _, hle, _⟩
    · cases e
    · cases e
      exact hle
/-- great: a new Int of bytes -/
theorem greatO (h : Own R w0 w L) (kb ko kc : Nat) (ks : List Nat) (hRk : R kb)
    (hk : ∀ i, i < ks.length → w.cell? ⟨kb, ko + i, .none⟩ = some (.int .u8 (ks.getD i 0 : Nat))) (hks : ∀ i, ks.getD i 0 < 256) (hn : ks.length ≤ 700000) (hc : ks.length ≤ kc) :
    Calls Tryz.prog 61 #[.slice (some ⟨kb, ko, .none⟩) ks.length kc] w (NewO R w0 (bev ks : Int) L) := by
  obtain ⟨hN, hR⟩ := h.new
  have hk2 : ∀ i, i < ks.length → (w.alloc (.cells #[.bool false, .slice .none 0 0] 172)).cell? ⟨kb, ko + i, .none⟩ = some (.int .u8 (ks.getD i 0 : Nat)) := fun i hi => (h.since.box (.cells #[.bool false, .slice .none 0 0] 172)).kept.cell hRk (hk i hi)
  have HC := Lib.hid (setBytesO hN 0 kb ko kc ks rfl hR hRk hk2 hks hn hc)
  have HR := Lib.hid hR
  clear h hN hR hk hk2 hks hn hc hRk
  unfold ptr at *
  go_enter Tryz.func61, Tryz.ntmps61
  go_wp2_with fail
  refine HC.out.mono ?_
  rintro e w1 ⟨rfl, h1⟩
  have H1 := Lib.hid h1
  clear h1
  go_wp2_with fail
  go_ret
  exact ⟨_, rfl, H1.out, HR.out⟩
end
end Go.Proofs.YtohhkjamddojmaaGreatDoor.Big
