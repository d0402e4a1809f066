/- A region that draws its order, by an invariant over what has come up; lists owned in another order. The region in which a curve with a twist is made: what holds while it is carried out, in whatever order. -/
import Derived.Test.YtohhkjamddojmaaGreatDoorTA
namespace Go.Proofs.YtohhkjamddojmaaGreatDoor.Big
open Go.RowKit

section
variable {P : Program} {ops : Array Oper} {Q : Exit → Act → World → Prop} {md : Region.Mode} {S : World → Prop}
/-- what has not come up yet -/
def pend (ops : Array Oper) (listed : Array Bool) : Nat := (List.range ops.size).countP (fun i => !listed.getD i true)
theorem pend_set {listed : Array Bool} {i : Nat} (hs : listed.size = ops.size) (hi : listed.getD i true = false) : pend ops (listed.setIfInBounds i true) + 1 = pend ops listed := by
  have hlt : i < ops.size := by
    rcases Nat.lt_or_ge i listed.size with h | h
    · omega
    · simp [Array.getElem?_eq_none h] at hi
  unfold pend
  have key : ∀ n, i < n → n ≤ ops.size → (List.range n).countP (fun j => !(listed.setIfInBounds i true).getD j true) + 1 = (List.range n).countP (fun j => !listed.getD j true) := by
    intro n
    induction n with
    | zero => intro h; omega
    | succ n ih =>
      intro h hn
      rw [List.range_succ, List.countP_append, List.countP_append]
      by_cases hin : i = n
      · subst hin
        have e1 : (List.range i).countP (fun j => !(listed.setIfInBounds i true).getD j true) = (List.range i).countP (fun j => !listed.getD j true) := by
          apply List.countP_congr
          intro j hj
          have : i ≠ j := by have := List.mem_range.1 hj; omega
          rw [getD_set_ne true this]
        have e2 : (listed.setIfInBounds i true).getD i true = true := by simp [hs, hlt]
        rw [e1]
        simp only [List.countP_cons, List.countP_nil, e2, hi]
        simp
      · have := ih (by omega) (by omega)
        have hne : i ≠ n := hin
        simp only [List.countP_cons, List.countP_nil, getD_set_ne true hne]
        omega
  exact key ops.size hlt (Nat.le_refl _)
theorem some_ready {listed : Array Bool} (hs : listed.size = ops.size) (hlow : ∀ (i : Nat) (o : Oper), ops[i]? = some o → ∀ e ∈ o.after, Region.binds md e = true → e.on < i) :
    ∀ n i, i ≤ n → i < ops.size → listed.getD i true = false → ∃ j, j ∈ Region.ready md ops listed := by
  intro n
  induction n with
  | zero =>
    intro i hi hlt hun
    obtain rfl : i = 0 := by omega
    exact ⟨0, mem_ready.2 ⟨hun, ops[0], Array.getElem?_eq_getElem hlt, fun e he hb => absurd (hlow 0 _ (Array.getElem?_eq_getElem hlt) e he hb) (Nat.not_lt_zero _)⟩⟩
  | succ n ih =>
    intro i hi hlt hun
    by_cases hall : ∀ j, j < i → listed.getD j false = true
    · exact ⟨i, mem_ready.2 ⟨hun, ops[i], Array.getElem?_eq_getElem hlt, fun e he hb => hall _ (hlow i _ (Array.getElem?_eq_getElem hlt) e he hb)⟩⟩
    · have hex : ∃ j, j < i ∧ listed.getD j false ≠ true := by
        rcases Classical.em (∃ j, j < i ∧ listed.getD j false ≠ true) with h | h
        · exact h
        · exact absurd (fun j hj => Classical.byContradiction fun hn => h ⟨j, hj, hn⟩) hall
      obtain ⟨j, hj, hjn⟩ := hex
      refine ih j (by omega) (by omega) ?_
      have hjs : j < listed.size := by omega
      simp [hjs] at hjn ⊢
      exact hjn
theorem wpAnyH_inv (I : Array Bool → Act → World → Prop) (hlow : ∀ (i : Nat) (o : Oper), ops[i]? = some o → ∀ e ∈ o.after, Region.binds md e = true → e.on < i)
    (step : ∀ listed a w i, listed.size = ops.size → listed.getD i true = false → (∀ o, ops[i]? = some o → ∀ e ∈ o.after, Region.binds md e = true → listed.getD e.on false = true) → I listed a w → wpOp P ops Q i (fun a' w' => S w' ∧ I (listed.setIfInBounds i true) a' w') a w)
    (fin : ∀ listed a w, listed.size = ops.size → (∀ i, i < ops.size → listed.getD i true = true) → I listed a w → Q .normal a w) :
    ∀ fuel listed a w, listed.size = ops.size → pend ops listed ≤ fuel → I listed a w → wpAnyH P md ops Q S fuel listed a w := by
  have done : ∀ listed a w, listed.size = ops.size → Region.ready md ops listed = [] → I listed a w → Q .normal a w := by
    intro listed a w hs hr hI
    refine fin listed a w hs (fun i hi => ?_) hI
    cases hun : listed.getD i true with
    | true => rfl
    | false =>
      obtain ⟨j, hj⟩ := some_ready hs hlow i i (Nat.le_refl _) hi hun
      rw [hr] at hj
      cases hj
  intro fuel
  induction fuel with
  | zero =>
    intro listed a w hs hp hI
    have hr : Region.ready md ops listed = [] := by
      cases hr : Region.ready md ops listed with
      | nil => rfl
      | cons j js =>
        exfalso
        have hj : j ∈ Region.ready md ops listed := by rw [hr]; exact List.mem_cons_self
        have := pend_set hs (mem_ready.1 hj).1
        omega
    exact ⟨hr, done listed a w hs hr hI⟩
  | succ fuel ih =>
    intro listed a w hs hp hI
    refine ⟨fun hr => done listed a w hs hr hI, fun i hi => ?_⟩
    obtain ⟨hun, o, ho, hall⟩ := mem_ready.1 hi
    refine wpOp_mono ?_ (step listed a w i hs hun (fun o' ho' => by rw [ho] at ho'; cases ho'; exact hall) hI)
    rintro a' w' ⟨hS, hI'⟩
    refine ⟨hS, ih _ a' w' (by simp [hs]) ?_ hI'⟩
    have := pend_set hs hun
    omega
/-- an operation without a guard, as the walk has it -/
theorem wpOp_of {i : Nat} {o : Oper} {K : Act → World → Prop} {a : Act} {w : World} (ho : ops[i]? = some o) (hg : o.guard = none) (h : o.wp P a w K Q) : wpOp P ops Q i K a w := by
  unfold wpOp
  rw [ho]
  simp only [Region.wanted, hg, if_true]
  exact .inl h
end

/-! ### what is owned, in another order -/
theorem perm_index {α : Type} {l l' : List α} (h : l.Perm l') : ∃ f : Nat → Nat, (∀ i, i < l'.length → f i < l.length ∧ l'[i]? = l[f i]?) ∧ ∀ i j, i < l'.length → j < l'.length → f i = f j → i = j := by
  induction h with
  | nil => exact ⟨id, fun i hi => absurd hi (Nat.not_lt_zero _), fun _ _ _ _ e => e⟩
  | @cons x l₁ l₂ _ ih =>
    obtain ⟨f, h1, h2⟩ := ih
    refine ⟨fun i => match i with | 0 => 0 | i + 1 => f i + 1, ?_, ?_⟩
    · intro i hi
      cases i with
      | zero => exact ⟨Nat.succ_pos _, rfl⟩
      | succ i =>
        have := h1 i (by simpa using hi)
        exact ⟨by simpa using this.1, by simpa using this.2⟩
    · intro i j hi hj e
      cases i <;> cases j
      · rfl
      · simp at e
      · simp at e
      · rename_i i j
        have := h2 i j (by simpa using hi) (by simpa using hj) (by simpa using e)
        omega
  | swap x y l =>
    refine ⟨fun i => match i with | 0 => 1 | 1 => 0 | i + 2 => i + 2, ?_, ?_⟩
    · intro i hi
      match i, hi with
      | 0, _ => exact ⟨by simp, rfl⟩
      | 1, _ => exact ⟨by simp, rfl⟩
      | i + 2, hi => exact ⟨by simpa using hi, rfl⟩
    · intro i j hi hj e
      match i, j with
      | 0, 0 => rfl
      | 0, 1 => simp at e
      | 0, j + 2 => simp at e
      | 1, 0 => simp at e
      | 1, 1 => rfl
      | 1, j + 2 => simp at e
      | i + 2, 0 => simp at e
      | i + 2, 1 => simp at e
      | i + 2, j + 2 => simp at e; omega
  | trans _ _ ih1 ih2 =>
    obtain ⟨f, f1, f2⟩ := ih1
    obtain ⟨g, g1, g2⟩ := ih2
    refine ⟨fun i => f (g i), ?_, ?_⟩
    · intro i hi
      obtain ⟨a1, a2⟩ := g1 i hi
      obtain ⟨b1, b2⟩ := f1 _ a1
      exact ⟨b1, a2.trans b2⟩
    · intro i j hi hj e
      exact g2 i j hi hj (f2 _ _ (g1 i hi).1 (g1 j hj).1 e)
section
variable {R : Nat → Prop} {w0 w : World} {L L' : List (Nat × Int)}
theorem Own.perm (h : Own R w0 w L) (hp : L.Perm L') : Own R w0 w L' := by
  obtain ⟨f, f1, f2⟩ := perm_index hp
  have hl : L'.length = L.length := hp.length_eq.symm
  obtain ⟨ps, qs, hf⟩ := h.ints
  have lp := hf.lenP
  have lq := hf.lenQ
  rw [List.length_map] at lp lq
  have nth : ∀ {α : Type} (l : List α) (d : α) (i : Nat), l.length = L.length → i < L'.length → ((List.range L'.length).map (fun i => l.getD (f i) d))[i]? = l[f i]? := by
    intro α l d i hl hi
    have := (f1 i hi).1
    rw [List.getElem?_map, List.getElem?_range hi]
    simp only [Option.map_some, List.getD_eq_getElem?_getD]
    rw [List.getElem?_eq_getElem (by omega)]
    rfl
  refine ⟨⟨(List.range L'.length).map (fun i => ps.getD (f i) none), (List.range L'.length).map (fun i => qs.getD (f i) []), hf.sel f (by simp) (by simp) (by simp) ?_ ?_ ?_ ?_ ?_⟩, h.kept, h.tab, h.low⟩
  · intro i j hi hj; rw [List.length_map] at hi hj; exact f2 i j hi hj
  · intro i hi; rw [List.length_map] at hi; rw [List.getElem?_map, List.getElem?_map, (f1 i hi).2]
  · intro i hi; rw [List.length_map] at hi; rw [List.getElem?_map, List.getElem?_map, (f1 i hi).2]
  · intro i hi; rw [List.length_map] at hi; exact nth ps none i lp hi
  · intro i hi; rw [List.length_map] at hi; exact nth qs [] i lq hi
/-- an Int that is written comes first -/
theorem perm_set {L M : List (Nat × Int)} {i z : Nat} {v u : Int} (hp : L.Perm ((z, v) :: M)) (hi : L[i]? = some (z, v)) : (L.set i (z, u)).Perm ((z, u) :: M) := by
  have hlt : i < L.length := (List.getElem?_eq_some_iff.1 hi).1
  have e1 : L = L.take i ++ (z, v) :: L.drop (i + 1) := by
    have : L[i] = (z, v) := (List.getElem?_eq_some_iff.1 hi).2
    rw [← this]; simp
  have e2 : L.set i (z, u) = L.take i ++ (z, u) :: L.drop (i + 1) := by rw [List.set_eq_take_append_cons_drop, if_pos hlt]
  rw [e2]
  have p1 : (L.take i ++ (z, v) :: L.drop (i + 1)).Perm ((z, v) :: (L.take i ++ L.drop (i + 1))) := List.perm_middle
  have p2 : ((z, v) :: (L.take i ++ L.drop (i + 1))).Perm ((z, v) :: M) := by
    rw [e1] at hp
    exact p1.symm.trans (by simpa using hp)
  have p3 := p2.cons_inv
  exact List.perm_middle.trans (p3.cons _)
end
end Go.Proofs.YtohhkjamddojmaaGreatDoor.Big

namespace Go.Proofs.YtohhkjamddojmaaGreatDoor.Big
open Go.RowKit

def optE (b : Bool) (x : Nat × Int) (l : List (Nat × Int)) : List (Nat × Int) := if b then x :: l else l
theorem count_optE (b : Bool) (x a : Nat × Int) (l : List (Nat × Int)) : (optE b x l).count a = (if b then (if x == a then 1 else 0) else 0) + l.count a := by
  unfold optE
  cases b
  · simp
  · simp [List.count_cons]; omega
theorem optE_perm (b : Bool) (x : Nat × Int) {l l' : List (Nat × Int)} (h : l.Perm l') : (optE b x l).Perm (optE b x l') := by
  unfold optE
  cases b
  · exact h
  · exact h.cons x
theorem optE_cons (b : Bool) (x y : Nat × Int) (l : List (Nat × Int)) : (x :: optE b y l).Perm (optE b y (x :: l)) := by
  unfold optE
  cases b
  · exact List.Perm.refl _
  · exact List.Perm.swap _ _ _
theorem mem_optE (b : Bool) (x : Nat × Int) {y : Nat × Int} {l : List (Nat × Int)} (h : y ∈ l) : y ∈ optE b x l := by
  unfold optE
  cases b
  · exact h
  · exact List.mem_cons_of_mem _ h
theorem mem_optE_self (x : Nat × Int) (l : List (Nat × Int)) : x ∈ optE true x l := List.mem_cons_self
theorem lset {listed : Array Bool} {i k : Nat} {b : Bool} (h : listed.getD k false = b) (hne : i ≠ k) : (listed.setIfInBounds i true).getD k false = b := by rw [getD_set_ne false hne]; exact h
theorem lself {listed : Array Bool} {i : Nat} (h : i < listed.size) : (listed.setIfInBounds i true).getD i false = true := by simp [h]
def lowB (md : Region.Mode) (ops : Array Oper) : Bool := (List.range ops.size).all fun i => match ops[i]? with
  | some o => o.after.all fun e => !Region.binds md e || decide (e.on < i)
  | none => true
theorem low_of {md : Region.Mode} {ops : Array Oper} (h : lowB md ops = true) (i : Nat) (o : Oper) (ho : ops[i]? = some o) (e : Edge) (he : e ∈ o.after) (hb : Region.binds md e = true) : e.on < i := by
  have hi : i < ops.size := (Array.getElem?_eq_some_iff.1 ho).1
  have h1 := List.all_eq_true.1 h i (List.mem_range.2 hi)
  simp only [ho] at h1
  have h2 := Array.all_eq_true_iff_forall_mem.1 h1 e he
  simp [hb] at h2
  exact h2
section
variable {R : Nat → Prop} {w0 w : World} {M M' : List (Nat × Int)}
theorem mem_at {x : Nat × Int} (h : x ∈ M) : ∃ i : Nat, M[i]? = some x := List.mem_iff_getElem?.1 h
theorem ExpM (h : Own R w0 w M) {z x y m : Nat} {v : Int} (a e n : Nat) (hp : M.Perm ((z, v) :: M')) (hx : (x, (a : Int)) ∈ M) (hy : (y, (e : Int)) ∈ M) (hm : (m, (n : Int)) ∈ M) (hv : v ≠ n) (hR : ¬ R z)
    (ha : a < B64) (he : e < B64) (he2 : 2 ≤ e) (hn : n < B64) (hn2 : 2 ≤ n) :
    Calls Tryz.prog 126 #[ptr z, ptr x, ptr y, ptr m] w (fun en w' => en = .returned (ptr z) ∧ ∃ N, Own R w0 w' N ∧ N.Perm ((z, ((a ^ e % n : Nat) : Int)) :: M')) := by
  obtain ⟨i, hi⟩ := mem_at (hp.mem_iff.2 List.mem_cons_self)
  obtain ⟨j, hj⟩ := mem_at hx
  obtain ⟨k, hk⟩ := mem_at hy
  obtain ⟨o, ho⟩ := mem_at hm
  have hio : i ≠ o := by
    rintro rfl
    rw [hi] at ho
    exact hv (Prod.mk.inj (Option.some.inj ho)).2
  exact (ExpO h i j k o a e n hi hj hk ho hio hR ha he he2 hn hn2).mono fun _ _ ⟨h1, h2⟩ => ⟨h1, _, h2, perm_set hp hi⟩
end

/-- which operations have come up, what has been made -/
structure NJ (R : Nat → Prop) (w0 : World) (tw : Value) (c zg zi P : Nat) (L1 : List (Nat × Int)) (g t p : Nat) (b4 b6 b11 b12 b14 b19 b20 b22 b27 b28 b30 b35 b36 b37 b38 : Bool) (u19 u21 u26 u27 u29 u34 u35 u37 u42 u43 u45 u50 u51 u52 u6 : Value) (n1 n2 n3 n4 t1 t2 t3 t4 rc : Nat) (w : World) : Prop where
  v4 : b4 = true → u19 = ptr n1 ∧ ¬ R n1
  v6 : b6 = true → u21 = ptr t1
  v11 : b11 = true → u26 = ptr n1
  i11 : b11 = true → b4 = true ∧ b6 = true
  v12 : b12 = true → u27 = ptr n2 ∧ ¬ R n2
  v14 : b14 = true → u29 = ptr t2
  v19 : b19 = true → u34 = ptr n2
  i19 : b19 = true → b12 = true ∧ b14 = true
  v20 : b20 = true → u35 = ptr n3 ∧ ¬ R n3
  v22 : b22 = true → u37 = ptr t3
  v27 : b27 = true → u42 = ptr n3
  i27 : b27 = true → b20 = true ∧ b22 = true
  v28 : b28 = true → u43 = ptr n4 ∧ ¬ R n4
  v30 : b30 = true → u45 = ptr t4
  v35 : b35 = true → u50 = ptr n4
  i35 : b35 = true → b28 = true ∧ b30 = true
  v36 : b36 = true → u51 = .agg #[tw, ptr c, ptr zg, ptr zi, ptr n1, ptr n2, ptr n3, ptr n4]
  own : b37 = false → ∃ M, Own R w0 w M ∧ M.Perm (optE b28 (n4, if b35 then (((t) ^ 3 % p : Nat) : Int) else 0) (optE b20 (n3, if b27 then (((t) ^ 2 % p : Nat) : Int) else 0) (optE b12 (n2, if b19 then (((g) ^ 3 % p : Nat) : Int) else 0) (optE b4 (n1, if b11 then (((g) ^ 2 % p : Nat) : Int) else 0) (optE b30 (t4, 3) (optE b22 (t3, 2) (optE b14 (t2, 3) (optE b6 (t1, 2) (L1)))))))))
  fin : b37 = true → u52 = ptr rc ∧ w.heap[rc]? = some (.cells #[tw, ptr c, ptr zg, ptr zi, ptr n1, ptr n2, ptr n3, ptr n4] 208) ∧ ∃ M, Own R w0 w M ∧ Own (RO R rc) w w M ∧ M.Perm (optE b28 (n4, if b35 then (((t) ^ 3 % p : Nat) : Int) else 0) (optE b20 (n3, if b27 then (((t) ^ 2 % p : Nat) : Int) else 0) (optE b12 (n2, if b19 then (((g) ^ 3 % p : Nat) : Int) else 0) (optE b4 (n1, if b11 then (((g) ^ 2 % p : Nat) : Int) else 0) (optE b30 (t4, 3) (optE b22 (t3, 2) (optE b14 (t2, 3) (optE b6 (t1, 2) (L1)))))))))
  j36 : b36 = true → b11 = true ∧ b19 = true ∧ b27 = true ∧ b35 = true
  j37 : b37 = true → b36 = true
  j38 : b38 = true → b37 = true
  v38 : b38 = true → u6 = ptr rc

/-- the invariant of the region -/
def NI (R : Nat → Prop) (w0 : World) (tw : Value) (c zg zi P : Nat) (L1 : List (Nat × Int)) (g t p : Nat) (listed : Array Bool) (a : Act) (w : World) : Prop :=
  ∃ (b4 b6 b11 b12 b14 b19 b20 b22 b27 b28 b30 b35 b36 b37 b38 : Bool) (u19 u21 u26 u27 u29 u34 u35 u37 u42 u43 u45 u50 u51 u52 u6 : Value) (n1 n2 n3 n4 t1 t2 t3 t4 rc : Nat), (listed.getD 4 false = b4 ∧ listed.getD 6 false = b6 ∧ listed.getD 11 false = b11 ∧ listed.getD 12 false = b12 ∧ listed.getD 14 false = b14 ∧ listed.getD 19 false = b19 ∧ listed.getD 20 false = b20 ∧ listed.getD 22 false = b22 ∧ listed.getD 27 false = b27 ∧ listed.getD 28 false = b28 ∧ listed.getD 30 false = b30 ∧ listed.getD 35 false = b35 ∧ listed.getD 36 false = b36 ∧ listed.getD 37 false = b37 ∧ listed.getD 38 false = b38) ∧ (∀ k ∈ ([0, 1, 2, 3, 5, 7, 8, 9, 10, 13, 15, 16, 17, 18, 21, 23, 24, 25, 26, 29, 31, 32, 33, 34] : List Nat), listed.getD k false = true) ∧
    a = ⟨#[tw, ptr c, ptr zg, undef, undef, undef, u6, ptr zi, ptr zi, ptr zg, ptr c, ptr c, ptr c, ptr P, ptr zi, tw, ptr c, ptr zg, ptr zi, u19, ptr zg, u21, ptr c, ptr c, ptr c, ptr P, u26, u27, ptr zg, u29, ptr c, ptr c, ptr c, ptr P, u34, u35, ptr zi, u37, ptr c, ptr c, ptr c, ptr P, u42, u43, ptr zi, u45, ptr c, ptr c, ptr c, ptr P, u50, u51, u52], []⟩ ∧ NJ R w0 tw c zg zi P L1 g t p b4 b6 b11 b12 b14 b19 b20 b22 b27 b28 b30 b35 b36 b37 b38 u19 u21 u26 u27 u29 u34 u35 u37 u42 u43 u45 u50 u51 u52 u6 n1 n2 n3 n4 t1 t2 t3 t4 rc w
end Go.Proofs.YtohhkjamddojmaaGreatDoor.Big
