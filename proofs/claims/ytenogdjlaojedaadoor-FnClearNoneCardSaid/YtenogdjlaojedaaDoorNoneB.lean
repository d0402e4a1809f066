/- 'own', and the roads of 'clearsign.Decode' and 'impl.ClearDecode' in bytes without a hyphen. -/
import Derived.Test.YtenogdjlaojedaaDoorNoneA
import Derived.Lib.SlBytesConst
import Derived.Lib.ConvBytes
namespace Go.Proofs.YtenogdjlaojedaaDoor.None
open Go.RowKit

theorem info5 : (Tryd.prog.info? 5).map (fun i => (i.zero, i.size, i.bytes)) = some (some (.int .u8 0), 1, 1) := by kernel_rfl

set_option maxHeartbeats 400000 in
/-- 'own' of bytes that lie somewhere: new memory that holds the same bytes -/
theorem own_some (ad : Addr) (n c : Nat) (zs : List Int) (w : World) (hl : zs.length = n) (hn : n ≤ 4096)
    (hc : ∀ j u, (zs.map (Value.int .u8))[j]? = some u → w.cell? (ad.add j) = some u) :
    Calls Tryd.prog 28 #[.slice (some ad) n c] w fun e w' => ∃ v, e = .returned v ∧ w'.ownsRow w.heap.size 5 1 v n (zs.map (Value.int .u8)) ∧ Below w.heap.size w w' ∧ (v = .slice none 0 0 ↔ n = 0) := by
  obtain ⟨i0, hi, hz0, hz1, hz2⟩ := info_parts info5
  go_enter Tryd.func28, Tryd.ntmps28
  go_wp2_with (at_builtin; refine wpList_append_own _ rfl _ _ 36 rfl w.heap.size 5 i0 (.int .u8 0) 1 1 Tryd.underlying36 hi hz0 hz1 hz2 rfl (by decide) _ 0 [] rfl (World.ownsRow_nil _ _ _ _) ad n c (zs.map (Value.int .u8)) rfl ?c1 hc ?c2 ?c3 ?c4 ?c5 ?_)
  case c1 => simp [hl]
  case c2 => intro u hu; simp at hu; obtain ⟨a, _, rfl⟩ := hu; rfl
  case c3 => unfold maxLen; omega
  case c4 => omega
  case c5 => exact Nat.le_refl _
  · intro v' w1 hown hgrow hnil
    go_wp2
    go_ret
    refine ⟨v', rfl, by simpa using hown, (Below.refl _ _).grown hgrow (Nat.le_refl _) ?_, by simpa using hnil⟩
    intro k hk
    cases hk


/-- a string becomes bytes, and these a string again -/
theorem bcell {W w1 : World} (hb : Below W.heap.size W w1) : (∀ b o, b < W.heap.size → w1.cell? ⟨b, o, none⟩ = W.cell? ⟨b, o, none⟩) ∧ (∀ b o, b < W.heap.size → w1.frozen? ⟨b, o, none⟩ = W.frozen? ⟨b, o, none⟩) :=
  ⟨fun b o h => hb.cell (p := ⟨b, o, none⟩) h, fun b o h => hb.frozen (p := ⟨b, o, none⟩) h⟩

/-- an owned row that is not nil: its place and its cells -/
theorem own_cells {w : World} {base n : Nat} {v : Value} {zs : List Int} (h : w.ownsRow base 5 1 v n (zs.map (Value.int .u8))) (hn : 0 < n) (hl : zs.length = n) :
    ∃ g cap, v = .slice (some ⟨g, 0, none⟩) n cap ∧ n ≤ cap ∧ base ≤ g ∧ ∀ i, i < n → w.cell? ⟨g, 0 + i, none⟩ = some (.int .u8 (zs.getD i 0)) := by
  rcases h.2 with ⟨_, h0⟩ | ⟨g, cap, cur, rfl, hb, hg, hc, _, hs, hx⟩
  · omega
  · refine ⟨g, cap, rfl, hc, hb, fun i hi => ?_⟩
    rw [Nat.zero_add]
    have e : cur.toList[i]? = some (.int .u8 (zs.getD i 0)) := by
      have := congrArg (fun l => l[i]?) hx
      simp only [List.getElem?_take, List.getElem?_map] at this
      rw [if_pos (by omega)] at this
      rw [this, List.getElem?_eq_getElem (by omega)]
      simp [List.getD, List.getElem?_eq_getElem (show i < zs.length by omega)]
    simp [World.cell?, hg]
    simpa using e

theorem conv_there (w : World) (S : ByteArray) : ∃ c w1, (∀ src, Tryd.prog.underlying src = some .string → (convert src 36 (.string S)).run Tryd.prog w = .ok (.slice (some ⟨w.heap.size, 0, none⟩) S.size c) w1) ∧ Below w.heap.size w w1 ∧ w1.heap.size = w.heap.size + 1 ∧
    ∀ w2, Below w1.heap.size w1 w2 → ∀ dst, Tryd.prog.underlying dst = some .string → (convert 36 dst (.slice (some ⟨w.heap.size, 0, none⟩) S.size c)).run Tryd.prog w2 = .ok (.string S) w2 := by
  refine ⟨_, _, fun src hs => Lib.run_convert_string_bytes w src 36 5 S hs Tryd.underlying36 Tryd.underlying5, ?_, Lib.bytesWorld_size w 5 S, ?_⟩
  · refine ⟨?_, ?_, ?_, ?_, fun k hk => Lib.bytesWorld_at_old w 5 S k hk⟩
    · simp [Lib.bytesWorld, World.freeze, World.alloc, World.drew, -World.alloc_eq, -World.drew_eq]
    · simp [Lib.bytesWorld, World.freeze, World.alloc, World.drew, -World.alloc_eq, -World.drew_eq]
    · simp [Lib.bytesWorld, World.freeze, World.alloc, World.drew, -World.alloc_eq, -World.drew_eq]
    · rw [Lib.bytesWorld_size]; omega
  · intro w2 hb dst hd
    have := run_convert_bytes_back (P := Tryd.prog) w2 36 dst 5 ⟨w.heap.size, 0, none⟩ (grownCap w S.size 0 5) S.data.toList Tryd.underlying36 Tryd.underlying5 hd ?_
    · simpa using this
    · intro j hj
      have hj' : j < S.size := by simpa using hj
      have h1 := Lib.bytesWorld_cell w 5 S j hj'
      have h2 : w2.cell? ⟨w.heap.size, j, none⟩ = _ := cell_later hb h1
      have e : (⟨w.heap.size, 0, none⟩ : Addr).add j = ⟨w.heap.size, j, none⟩ := by unfold Addr.add; split <;> simp_all
      rw [e, h2]
      simp [List.getD, List.getElem?_eq_getElem hj]

def startB : ByteArray := { data := #[10, 45, 45, 45, 45, 45, 66, 69, 71, 73, 78, 32, 80, 71, 80, 32, 83, 73, 71, 78, 69, 68, 32, 77, 69, 83, 83, 65, 71, 69, 45, 45, 45, 45, 45] }
abbrev startC : Array Value := #[Value.int .u8 10, Value.int .u8 45, Value.int .u8 45, Value.int .u8 45, Value.int .u8 45, Value.int .u8 45, Value.int .u8 66, Value.int .u8 69, Value.int .u8 71, Value.int .u8 73, Value.int .u8 78, Value.int .u8 32, Value.int .u8 80, Value.int .u8 71, Value.int .u8 80, Value.int .u8 32, Value.int .u8 83, Value.int .u8 73, Value.int .u8 71, Value.int .u8 78, Value.int .u8 69, Value.int .u8 68, Value.int .u8 32, Value.int .u8 77, Value.int .u8 69, Value.int .u8 83, Value.int .u8 83, Value.int .u8 65, Value.int .u8 71, Value.int .u8 69, Value.int .u8 45, Value.int .u8 45, Value.int .u8 45, Value.int .u8 45, Value.int .u8 45]
theorem startC_eq : startC = startB.data.map (fun b => Value.int .u8 b.toNat) := by kernel_rfl
def dashB : ByteArray := startB.extract 1 35
theorem dash0 : dashB.toList[0]? = some 45 := by decide +kernel
theorem start1 : startB.toList[1]? = some 45 := by decide +kernel
theorem dash_size : dashB.size = 34 := by decide +kernel

set_option maxHeartbeats 400000 in
theorem prefix_none (m c2 : Nat) (p2 : Option Addr) (w : World) (hm : 0 < m) :
    Calls Tryd.prog 32 #[.slice none 0 0, .slice p2 m c2] w fun e w' => e = .returned (.bool false) ∧ w = w' := by
  go_enter Tryd.func32, Tryd.ntmps32
  go_wp2
  go_ret
  exact ⟨rfl, rfl⟩

set_option maxHeartbeats 400000 in
theorem index_none (m c2 : Nat) (p2 : Option Addr) (w : World) (hm : 0 < m) (hm2 : m ≤ 4096) :
    Calls Tryd.prog 39 #[.slice none 0 0, .slice p2 m c2] w fun e w' => e = .returned (.int .i64 (-1)) ∧ w = w' := by
  go_enter Tryd.func39, Tryd.ntmps39
  go_wp2
  go_loop [5] (fun i => i = .int .i64 0) (fun _ => 0)
  case atStart => rfl
  case round =>
    subst hrel
    go_wp2
    go_ret
    exact ⟨rfl, rfl⟩

set_option maxRecDepth 100000 in
set_option maxHeartbeats 1000000 in
/-- Decode finds no message in bytes without a hyphen -/
theorem decode_no (b o n c : Nat) (zs : List Int) (w : World) (h : NoHy w b o n zs) (hnc : n ≤ c) :
    Calls Tryd.prog 27 #[.slice (some ⟨b, o, none⟩) n c] w fun e w' => e = .returned (.tuple #[.pointer none, .slice (some ⟨b, o, none⟩) n c]) ∧ Below w.heap.size w w' := by
  have kc := fun (w : World) (C : Array Value) (n c : Nat) => Lib.run_convert_bytes_const (P := Tryd.prog) w 36 5 C n c Tryd.underlying36 Tryd.underlying5
  obtain ⟨c1, w1, hrun0, hb1, hz1, hback⟩ := conv_there w dashB
  have hrun : (convert 9 36 (.string (ByteArray.extract { data := #[10, 45, 45, 45, 45, 45, 66, 69, 71, 73, 78, 32, 80, 71, 80, 32, 83, 73, 71, 78, 69, 68, 32, 77, 69, 83, 83, 65, 71, 69, 45, 45, 45, 45, 45] } 1 35))).run Tryd.prog w = .ok (.slice (some ⟨w.heap.size, 0, none⟩) 34 c1) w1 := by
    have := hrun0 9 Tryd.underlying9
    rw [dash_size] at this
    exact this
  rw [dash_size] at hback
  have HZ := Lib.hid hz1
  have HBK := Lib.hid hback
  have h1 : NoHy w1 b o n zs := ⟨h.len, h.max, fun i hi => cell_later hb1 (h.cell i hi), h.byte⟩
  have H1 := Lib.hid h1
  clear hz1 hback hrun0 h h1
  go_enter Tryd.func27, Tryd.ntmps27
  go_wp2_with fail
  refine (prefix_no b o n c 34 c1 _ zs dashB _ H1.out hnc (by omega) (by omega) dash0 (HBK.out w1 (Below.refl _ _))).mono ?_
  rintro e w' ⟨rfl, rfl⟩
  go_wp2_with fail
  have hal := (Below.refl w1.heap.size w1).alloc (Nat.le_refl _) (.cells startC 5 (35, 36))
  refine (index_no b o n c 35 35 1 (some ⟨w1.heap.size, 0, none⟩) zs startB _ ⟨H1.out.len, H1.out.max, fun i hi => cell_later hal (H1.out.cell i hi), H1.out.byte⟩ hnc (by omega) (by omega) start1 ?_).mono ?_
  · intro dst hd
    have := run_convert_bytes_back (P := Tryd.prog) (w1.alloc (.cells startC 5 (35, 36))) 36 dst 5 ⟨w1.heap.size, 0, none⟩ 35 startB.data.toList Tryd.underlying36 Tryd.underlying5 hd ?_
    · exact this
    · intro j hj
      have e : (⟨w1.heap.size, 0, none⟩ : Addr).add j = ⟨w1.heap.size, j, none⟩ := by unfold Addr.add; split <;> simp_all
      rw [e, World.cell?_alloc_mark, startC_eq]
      rw [Array.getElem?_map, Array.getElem?_eq_getElem (by simpa using hj)]
      rfl
  · rintro e w' ⟨rfl, rfl⟩
    go_wp2_with fail
    go_ret2
    exact ⟨rfl, hb1.trans (hal.mono (by have := HZ.out; omega))⟩
set_option maxRecDepth 100000 in
set_option maxHeartbeats 1000000 in
/-- Decode of nil -/
theorem decode_none (w : World) :
    Calls Tryd.prog 27 #[.slice none 0 0] w fun e w' => e = .returned (.tuple #[.pointer none, .slice none 0 0]) ∧ Below w.heap.size w w' := by
  have kc := fun (w : World) (C : Array Value) (n c : Nat) => Lib.run_convert_bytes_const (P := Tryd.prog) w 36 5 C n c Tryd.underlying36 Tryd.underlying5
  obtain ⟨c1, w1, hrun0, hb1, hz1, hback⟩ := conv_there w dashB
  have hrun : (convert 9 36 (.string (ByteArray.extract { data := #[10, 45, 45, 45, 45, 45, 66, 69, 71, 73, 78, 32, 80, 71, 80, 32, 83, 73, 71, 78, 69, 68, 32, 77, 69, 83, 83, 65, 71, 69, 45, 45, 45, 45, 45] } 1 35))).run Tryd.prog w = .ok (.slice (some ⟨w.heap.size, 0, none⟩) 34 c1) w1 := by
    have := hrun0 9 Tryd.underlying9
    rw [dash_size] at this
    exact this
  rw [dash_size] at hback
  have HZ := Lib.hid hz1
  clear hz1 hback hrun0
  go_enter Tryd.func27, Tryd.ntmps27
  go_wp2_with fail
  refine (prefix_none 34 c1 _ _ (by omega)).mono ?_
  rintro e w' ⟨rfl, rfl⟩
  go_wp2_with fail
  have hal := (Below.refl w1.heap.size w1).alloc (Nat.le_refl _) (.cells startC 5 (35, 36))
  refine (index_none 35 35 _ _ (by omega) (by omega)).mono ?_
  rintro e w' ⟨rfl, rfl⟩
  go_wp2_with fail
  go_ret2
  exact ⟨rfl, hb1.trans (hal.mono (by have := HZ.out; omega))⟩

end Go.Proofs.YtenogdjlaojedaaDoor.None
