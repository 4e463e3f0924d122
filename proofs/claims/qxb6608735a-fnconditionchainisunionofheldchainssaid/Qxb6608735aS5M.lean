import Derived.Test.Qxb6608735aS5L
import Derived.Laws.OwnMore
namespace Go.Proofs.Qxb6608735a
open Go.RowKit Go.Maps Go.WideMaps Go.Joins
set_option linter.unusedVariables false

theorem info4 : (Try.prog.info? 4).map (fun i => (i.zero, i.size, i.bytes)) = some (some (.bool false), 1, 1) := by kernel_rfl
theorem zero4 (w : World) : (zeroValue 4).run Try.prog w = .ok (.bool false) w := by kernel_rfl

/-! ### the set of the others -/
def Dt (ss : List ByteArray) : Nat → DataW Unit
  | 0 => .map []
  | k + 1 => (Dt ss k).put (keyS (ss.getD k ByteArray.empty)) (.lit (.bool true))
theorem Dt_isMap (ss : List ByteArray) : ∀ k, IsMap (Dt ss k)
  | 0 => isMap_empty
  | k + 1 => (Dt_isMap ss k).put _ _
theorem Dt_has (ss : List ByteArray) (s : ByteArray) : ∀ k, Maps.has (Dt ss k) (keyS s) = true ↔ ∃ i, i < k ∧ ss.getD i ByteArray.empty = s
  | 0 => by simp [Dt, Maps.has]
  | k + 1 => by
    by_cases e : ss.getD k ByteArray.empty = s
    · constructor
      · intro _; exact ⟨k, by omega, e⟩
      · intro _; rw [Dt, e]; exact has_put_same (Dt_isMap ss k) (isKey _) _
    · rw [Dt, has_put_other (fun h => keyS_ne e h.symm), Dt_has ss s k]
      constructor
      · rintro ⟨i, hi, h⟩; exact ⟨i, by omega, h⟩
      · rintro ⟨i, hi, h⟩
        have : i ≠ k := fun e' => e (e' ▸ h)
        exact ⟨i, by omega, h⟩
theorem Dt_at (ss : List ByteArray) (s : ByteArray) : ∀ k, (Dt ss k).atKey (keyS s) (.lit (.bool false)) = .lit (.bool (Maps.has (Dt ss k) (keyS s)))
  | 0 => by simp [Dt, DataW.atKey, Maps.has]
  | k + 1 => by
    by_cases e : ss.getD k ByteArray.empty = s
    · rw [Dt, e, has_put_same (Dt_isMap ss k) (isKey _) _]
      exact atKey_put_same (Dt_isMap ss k) (isKey _) _ _
    · rw [Dt, has_put_other (fun h => keyS_ne e h.symm), atKey_put_other (fun h => keyS_ne e h.symm)]
      exact Dt_at ss s k
theorem plainElem_bool_inv {P : Program} {e : TypeId} (he : P.underlying e = some .bool) {v : Value} {z : DataW Unit × List MemPlace} (h : plainElem P e v = some z) : ∃ x, v = .bool x ∧ z = (.lit (.bool x), []) := by
  unfold plainElem at h
  rw [he] at h
  cases v <;> simp at h
  exact ⟨_, rfl, h.symm⟩
theorem look_true {w : World} {b n k : Nat} {ss : List ByteArray} {s : ByteArray} (h : w.ownsMap Try.prog 9 (plainElem Try.prog 4) b n (Dt ss k)) (hk : keyOf Try.prog 9 (.string s) = some (keyS s)) :
    (Instr.lookup 100 (.map (some b)) (.string s) false).run Try.prog w = .ok (.bool (Maps.has (Dt ss k) (keyS s))) w := by
  obtain ⟨v, ps, hrun, hv⟩ := h.lookup law9 Try.underlying100 (zero4 w) (plainElem_bool Try.underlying4 false) hk
  rw [Dt_at] at hv
  obtain ⟨x, rfl, hx⟩ := plainElem_bool_inv Try.underlying4 hv
  simp only [Prod.mk.injEq, DataW.lit.injEq, Lit.bool.injEq] at hx
  rw [hrun, hx.1]

/-! ### rows of booleans -/
def BRow (w : World) (g n : Nat) (f : Nat → Prop) : Prop := ∃ b : Nat → Bool, Filled w g n n (fun i => .bool (b i)) 4 ∧ ∀ i, i < n → (b i = true ↔ f i)
theorem Filled.put {w : World} {g n k : Nat} {f : Nat → Value} {e : TypeId} (h : Filled w g n k f e) {j : Nat} (hj : j < k) (hk : k ≤ n) (v : Value) : Filled (w.setCell ⟨g, j, none⟩ v) g n k (fun i => if i = j then v else f i) e := by
  obtain ⟨L, h1, h2, h3⟩ := h
  refine ⟨L.set j v, row_set h1 j v, by simpa using h2, fun i hi => ?_⟩
  by_cases e : i = j
  · subst e; rw [List.getElem?_set_self (by omega)]; simp
  · rw [List.getElem?_set_ne (by omega)]; simp only [if_neg e]; exact h3 i hi
theorem Filled.at {w : World} {g n k : Nat} {f : Nat → Value} {e : TypeId} (h : Filled w g n k f e) {j : Nat} (hj : j < k) : w.cell? ⟨g, j, none⟩ = some (f j) := by
  obtain ⟨L, h1, h2, h3⟩ := h
  rw [cell_row h1]; exact h3 j hj
theorem BRow.made {w : World} {base g n : Nat} (h : w.ownsRow base 4 1 (.slice (some ⟨g, 0, none⟩) n n) n (madeCells #[.bool false] n).toList) : BRow w g n (fun _ => False) := by
  obtain ⟨h1, h2⟩ := row_full h
  refine ⟨fun _ => false, ⟨_, h1, h2, fun i hi => ?_⟩, by simp⟩
  rw [toList_madeCells_one]
  simp [hi]
theorem BRow.set {w : World} {g n j : Nat} {f : Nat → Prop} (h : BRow w g n f) (hj : j < n) : BRow (w.setCell ⟨g, j, none⟩ (.bool true)) g n (fun i => f i ∨ i = j) := by
  obtain ⟨b, h1, h2⟩ := h
  refine ⟨fun i => if i = j then true else b i, (h1.put hj (Nat.le_refl _) (.bool true)).congr (fun i hi => ?_), fun i hi => ?_⟩
  · by_cases e : i = j <;> simp [e]
  · by_cases e : i = j
    · simp [e]
    · simp [e, h2 i hi]
theorem BRow.get {w : World} {g n i : Nat} {f : Nat → Prop} (h : BRow w g n f) (hi : i < n) : ∃ b : Bool, w.cell? ⟨g, i, none⟩ = some (.bool b) ∧ (b = true ↔ f i) := by
  obtain ⟨b, h1, h2⟩ := h
  exact ⟨b i, h1.at hi, h2 i hi⟩
theorem BRow.frozen {w : World} {g n : Nat} {f : Nat → Prop} (h : BRow w g n f) (j : Nat) : w.frozen? ⟨g, j, none⟩ = false := by
  obtain ⟨b, h1, h2⟩ := h
  exact h1.frozen j
theorem BRow.lt {w : World} {g n : Nat} {f : Nat → Prop} (h : BRow w g n f) : g < w.heap.size := by
  obtain ⟨b, h1, h2⟩ := h
  exact h1.lt
theorem BRow.below {w w' : World} {g n B : Nat} {f : Nat → Prop} (h : BRow w g n f) (hb : Below B w w') (hg : g < B) : BRow w' g n f := by
  obtain ⟨b, h1, h2⟩ := h
  exact ⟨b, h1.below hb hg, h2⟩
theorem BRow.congr {w : World} {g n : Nat} {f f' : Nat → Prop} (h : BRow w g n f) (hf : ∀ i, i < n → (f i ↔ f' i)) : BRow w g n f' := by
  obtain ⟨b, h1, h2⟩ := h
  exact ⟨b, h1, fun i hi => (h2 i hi).trans (hf i hi)⟩

/-! ### the plain model -/
def MetC (ls : List ByteArray) (ow : List Int) (os : List ByteArray) (s : ByteArray) : Prop :=
  (Maps.has (Dm ls ls.length) (keyS s) = true ∧ cAt ls s < ow.length ∧ -1 ≤ ow.getD (cAt ls s).toNat 0) ∨ (Maps.has (Dm ls ls.length) (keyS s) = false ∧ ∃ x, x < os.length ∧ os.getD x ByteArray.empty = s)
def UsedC (ls : List ByteArray) (ow : List Int) (cs : List ByteArray) (k j : Nat) : Prop :=
  ∃ i, i < k ∧ Maps.has (Dm ls ls.length) (keyS (cs.getD i ByteArray.empty)) = true ∧ ow.getD (cAt ls (cs.getD i ByteArray.empty)).toNat 0 = j
def MarkC (lo hi : List Int) (U : Nat → Prop) (k t : Nat) : Prop := ∃ j, j < k ∧ U j ∧ lo.getD j 0 ≤ t ∧ (t : Int) < hi.getD j 0

/-! ### insertion -/
def insAt (zs : List Int) (n : Nat) (v : Int) : List Int := zs.take n ++ v :: zs.drop n
theorem insAt_len (zs : List Int) (n : Nat) (v : Int) (h : n ≤ zs.length) : (insAt zs n v).length = zs.length + 1 := by simp [insAt]; omega
theorem mem_ins {zs : List Int} {n : Nat} {v x : Int} : x ∈ insAt zs n v ↔ x ∈ zs ∨ x = v := by
  rw [insAt, List.mem_append, List.mem_cons]
  conv => rhs; rw [← List.take_append_drop n zs]
  rw [List.mem_append]
  constructor
  · rintro (h | h | h)
    · exact .inl (.inl h)
    · exact .inr h
    · exact .inl (.inr h)
  · rintro ((h | h) | h)
    · exact .inl h
    · exact .inr (.inr h)
    · exact .inr (.inl h)
theorem up_ins {zs : List Int} {n : Nat} {v : Int} (hu : Up zs) (h1 : ∀ u, u < n → zs.getD u 0 < v) (h2 : n < zs.length → v < zs.getD n 0) (hn : n ≤ zs.length) : Up (insAt zs n v) := by
  have hs := hu
  rw [← List.take_append_drop n zs, Up, List.pairwise_append] at hs
  obtain ⟨a1, a2, a3⟩ := hs
  have b1 : ∀ x ∈ zs.take n, x < v := fun x hx => by
    obtain ⟨i, hi, e⟩ := List.mem_iff_getElem.1 hx
    have hi' : i < n := by simp at hi; omega
    have hi2 : i < zs.length := by omega
    have := h1 i hi'
    rw [List.getElem_take] at e
    simp [List.getD, List.getElem?_eq_getElem hi2, e] at this
    exact this
  have b2 : ∀ x ∈ zs.drop n, v < x := fun x hx => by
    have hlt : n < zs.length := by
      have := List.length_pos_of_mem hx
      simp at this; omega
    have hv := h2 hlt
    rw [drop_cons hlt] at hx a2
    rcases List.mem_cons.1 hx with e | e
    · rw [e]; exact hv
    · have := (List.pairwise_cons.1 a2).1 x e; omega
  rw [insAt, Up, List.pairwise_append]
  refine ⟨a1, List.pairwise_cons.2 ⟨b2, a2⟩, fun x hx y hy => ?_⟩
  rcases List.mem_cons.1 hy with e | e
  · rw [e]; exact b1 x hx
  · exact a3 x hx y e
/-- the row while it is being moved up -/
def shV (zs : List Int) (s i : Nat) : Int := if i ≤ s then (zs ++ [0]).getD i 0 else zs.getD (i - 1) 0
def shF (zs : List Int) (s i : Nat) : Value := .int .i64 (shV zs s i)
theorem sh_start (zs : List Int) (i : Nat) (h : i < zs.length + 1) : intF (zs ++ [0]) i = shF zs zs.length i := by
  rw [intF, shF, shV, if_pos (by omega)]
theorem sh_read (zs : List Int) (s : Nat) (h : s < zs.length) : shV zs (s + 1) s = zs.getD s 0 := by
  rw [shV, if_pos (by omega)]
  simp [List.getD, List.getElem?_append_left h]
theorem sh_step (zs : List Int) (s i : Nat) (h : s < zs.length) (hi : i < zs.length + 1) : (if i = s + 1 then Value.int .i64 (zs.getD s 0) else shF zs (s + 1) i) = shF zs s i := by
  by_cases e : i = s + 1
  · rw [if_pos e, shF, shV, if_neg (by omega), e, Nat.add_sub_cancel]
  · rw [if_neg e, shF, shF, shV, shV]
    by_cases e2 : i ≤ s
    · rw [if_pos e2, if_pos (by omega)]
    · rw [if_neg e2, if_neg (by omega)]
theorem sh_end (zs : List Int) (n i : Nat) (v : Int) (h : n ≤ zs.length) (hi : i < zs.length + 1) : (if i = n then Value.int .i64 v else shF zs n i) = intF (insAt zs n v) i := by
  rw [intF, insAt]
  have ht : (zs.take n).length = n := by simp; omega
  by_cases e : i = n
  · rw [if_pos e, List.getD, List.getElem?_append_right (by omega), ht, e]; simp
  · rw [if_neg e, shF, shV]
    by_cases e2 : i ≤ n
    · rw [if_pos e2]
      have h1 : i < n := by omega
      simp only [List.getD]
      rw [List.getElem?_append_left (show i < zs.length by omega), List.getElem?_append_left (by omega), List.getElem?_take_of_lt h1]
    · rw [if_neg e2]
      simp only [List.getD]
      rw [List.getElem?_append_right (by omega), ht, show i - n = (i - n - 1) + 1 from by omega, List.getElem?_cons_succ, List.getElem?_drop, show n + (i - n - 1) = i - 1 from by omega]
theorem own_filled {w : World} {B : Nat} {v : Value} {zs : List Int} (h : w.ownsRow B 2 1 v zs.length (zs.map (Value.int .i64))) (h0 : 0 < zs.length) :
    ∃ g cap, v = .slice (some ⟨g, 0, none⟩) zs.length cap ∧ B ≤ g ∧ g < w.heap.size ∧ zs.length ≤ cap ∧ cap ≤ maxLen ∧ Filled w g cap zs.length (intF zs) 2 := by
  obtain ⟨hl, ⟨h, h0'⟩ | ⟨g, cap, cur, hv, hg, hh, h1, h2, h3, h4⟩⟩ := h
  · omega
  · refine ⟨g, cap, hv, hg, row_lt hh, h1, h2, cur.toList, by simpa using hh, by simpa using h3, fun i hi => ?_⟩
    have e2 : cur.toList[i]? = (cur.toList.take (zs.length * 1))[i]? := by
      rw [List.getElem?_take_of_lt (by omega)]
    rw [e2, h4]
    simp [intF, List.getD, List.getElem?_eq_getElem hi]
end Go.Proofs.Qxb6608735a
