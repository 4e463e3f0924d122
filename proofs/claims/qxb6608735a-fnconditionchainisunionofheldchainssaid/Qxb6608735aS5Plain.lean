import Derived.Test.Qxb6608735aS5J
namespace Go.Proofs.Qxb6608735a
set_option linter.unusedVariables false

/-- strictly ascending -/
def Up (zs : List Int) : Prop := zs.Pairwise (· < ·)
theorem up_of_asc {zs : List Int} (h : Asc zs) : Up zs := by
  rw [Up, List.pairwise_iff_getElem]
  intro i j hi hj hij
  have := h i j hij hj
  simpa [List.getD, List.getElem?_eq_getElem hi, List.getElem?_eq_getElem hj] using this
theorem asc_of_up {zs : List Int} (h : Up zs) : Asc zs := by
  rw [Up, List.pairwise_iff_getElem] at h
  intro i j hij hj
  have := h i j (by omega) hj hij
  simpa [List.getD, List.getElem?_eq_getElem hj, List.getElem?_eq_getElem (show i < zs.length by omega)] using this
/-- two ascending lists with the same members are one -/
theorem up_ext : ∀ {xs ys : List Int}, Up xs → Up ys → (∀ v, v ∈ xs ↔ v ∈ ys) → xs = ys
  | [], [], _, _, _ => rfl
  | [], y :: ys, _, _, h => by have := (h y).2 (by simp); simp at this
  | x :: xs, [], _, _, h => by have := (h x).1 (by simp); simp at this
  | x :: xs, y :: ys, hx, hy, h => by
    obtain ⟨hx1, hx2⟩ := List.pairwise_cons.1 hx
    obtain ⟨hy1, hy2⟩ := List.pairwise_cons.1 hy
    have e : x = y := by
      rcases List.mem_cons.1 ((h x).1 (by simp)) with e | e
      · exact e
      · rcases List.mem_cons.1 ((h y).2 (by simp)) with e' | e'
        · exact e'.symm
        · have := hy1 x e; have := hx1 y e'; omega
    subst e
    rw [up_ext hx2 hy2 (fun v => ?_)]
    constructor
    · intro hv
      rcases List.mem_cons.1 ((h v).1 (by simp [hv])) with e | e
      · subst e; have := hx1 v hv; omega
      · exact e
    · intro hv
      rcases List.mem_cons.1 ((h v).2 (by simp [hv])) with e | e
      · subst e; have := hy1 v hv; omega
      · exact e

/-- how far a merge has come -/
structure Mer (xs ys : List Int) (p q : Nat) (ms : List Int) : Prop where
  up : Up ms
  mem : ∀ v, v ∈ ms ↔ v ∈ xs.take p ∨ v ∈ ys.take q
  lx : ∀ v ∈ ms, ∀ u ∈ xs.drop p, v < u
  ly : ∀ v ∈ ms, ∀ u ∈ ys.drop q, v < u
  len : ms.length ≤ p + q
theorem Mer.start (xs ys : List Int) : Mer xs ys 0 0 [] := ⟨List.Pairwise.nil, by simp, by simp, by simp, by simp⟩
theorem Mer.symm {xs ys ms : List Int} {p q : Nat} (h : Mer xs ys p q ms) : Mer ys xs q p ms := ⟨h.up, fun v => (h.mem v).trans Or.comm, h.ly, h.lx, by have := h.len; omega⟩
theorem drop_cons {xs : List Int} {p : Nat} (hp : p < xs.length) : xs.drop p = xs.getD p 0 :: xs.drop (p + 1) := by
  rw [List.drop_eq_getElem_cons hp]; simp [List.getD, List.getElem?_eq_getElem hp]
theorem take_snoc {xs : List Int} {p : Nat} (hp : p < xs.length) : xs.take (p + 1) = xs.take p ++ [xs.getD p 0] := by
  rw [List.take_succ_eq_append_getElem hp]; simp [List.getD, List.getElem?_eq_getElem hp]
theorem up_snoc {ms : List Int} {x : Int} (h : Up ms) (hx : ∀ v ∈ ms, v < x) : Up (ms ++ [x]) := by
  rw [Up, List.pairwise_append]
  exact ⟨h, by simp, fun v hv u hu => by simp at hu; subst hu; exact hx v hv⟩
theorem up_drop {xs : List Int} (h : Up xs) (p : Nat) : Up (xs.drop p) := List.Pairwise.sublist (List.drop_sublist p xs) h
theorem Mer.left {xs ys ms : List Int} {p q : Nat} (h : Mer xs ys p q ms) (hx : Up xs) (hy : Up ys) (hp : p < xs.length) (hq : q < ys.length) (hlt : xs.getD p 0 < ys.getD q 0) : Mer xs ys (p + 1) q (ms ++ [xs.getD p 0]) := by
  have ux := up_drop hx p
  rw [drop_cons hp] at ux
  obtain ⟨ux1, _⟩ := List.pairwise_cons.1 ux
  have uy := up_drop hy q
  rw [drop_cons hq] at uy
  obtain ⟨uy1, _⟩ := List.pairwise_cons.1 uy
  have hlx := h.lx
  rw [drop_cons hp] at hlx
  refine ⟨up_snoc h.up (fun v hv => hlx v hv _ (by simp)), fun v => ?_, fun v hv u hu => ?_, fun v hv u hu => ?_, by have := h.len; simp; omega⟩
  · rw [take_snoc hp, List.mem_append, List.mem_append, h.mem v]
    constructor
    · rintro ((h | h) | h)
      · exact .inl (.inl h)
      · exact .inr h
      · exact .inl (.inr h)
    · rintro ((h | h) | h)
      · exact .inl (.inl h)
      · exact .inr h
      · exact .inl (.inr h)
  · rcases List.mem_append.1 hv with hv | hv
    · exact hlx v hv u (by simp [hu])
    · simp at hv; subst hv; simpa [List.getD] using ux1 u hu
  · rcases List.mem_append.1 hv with hv | hv
    · exact h.ly v hv u hu
    · rw [List.mem_singleton] at hv
      subst hv
      rw [drop_cons hq] at hu
      rcases List.mem_cons.1 hu with e | e
      · rw [e]; exact hlt
      · have := uy1 u e; omega

theorem Mer.both {xs ys ms : List Int} {p q : Nat} (h : Mer xs ys p q ms) (hx : Up xs) (hy : Up ys) (hp : p < xs.length) (hq : q < ys.length) (he : xs.getD p 0 = ys.getD q 0) : Mer xs ys (p + 1) (q + 1) (ms ++ [xs.getD p 0]) := by
  have ux := up_drop hx p
  rw [drop_cons hp] at ux
  obtain ⟨ux1, _⟩ := List.pairwise_cons.1 ux
  have uy := up_drop hy q
  rw [drop_cons hq] at uy
  obtain ⟨uy1, _⟩ := List.pairwise_cons.1 uy
  have hlx := h.lx
  have hly := h.ly
  rw [drop_cons hp] at hlx
  rw [drop_cons hq] at hly
  refine ⟨up_snoc h.up (fun v hv => hlx v hv _ (by simp)), fun v => ?_, fun v hv u hu => ?_, fun v hv u hu => ?_, by have := h.len; simp; omega⟩
  · rw [take_snoc hp, take_snoc hq, List.mem_append, List.mem_append, List.mem_append, h.mem v, ← he]
    constructor
    · rintro ((h | h) | h)
      · exact .inl (.inl h)
      · exact .inr (.inl h)
      · exact .inl (.inr h)
    · rintro ((h | h) | (h | h))
      · exact .inl (.inl h)
      · exact .inr h
      · exact .inl (.inr h)
      · exact .inr h
  · rcases List.mem_append.1 hv with hv | hv
    · exact hlx v hv u (by simp [hu])
    · rw [List.mem_singleton] at hv; subst hv; exact ux1 u hu
  · rcases List.mem_append.1 hv with hv | hv
    · exact hly v hv u (by simp [hu])
    · rw [List.mem_singleton] at hv; subst hv; rw [he]; exact uy1 u hu
/-- what a merge leaves -/
def Union (xs ys zs : List Int) : Prop := Up zs ∧ ∀ v, v ∈ zs ↔ v ∈ xs ∨ v ∈ ys
theorem Mer.done {xs ys ms : List Int} {p q : Nat} (h : Mer xs ys p q ms) (hx : Up xs) (hy : Up ys) (hd : xs.length ≤ p ∨ ys.length ≤ q) : Union xs ys (ms ++ xs.drop p ++ ys.drop q) := by
  have key : ∀ {xs ys ms : List Int} {p q : Nat}, Mer xs ys p q ms → Up ys → xs.length ≤ p → Union xs ys (ms ++ ys.drop q) := by
    intro xs ys ms p q h hy hp
    refine ⟨?_, fun v => ?_⟩
    · rw [Up, List.pairwise_append]
      exact ⟨h.up, up_drop hy q, h.ly⟩
    · rw [List.mem_append, h.mem v, List.take_of_length_le hp]
      conv => rhs; rw [← List.take_append_drop q ys]
      rw [List.mem_append, or_assoc]
  rcases hd with hd | hd
  · rw [List.drop_eq_nil_of_le hd, List.append_nil]
    exact key h hy hd
  · rw [List.drop_eq_nil_of_le hd, List.append_nil]
    obtain ⟨h1, h2⟩ := key h.symm hx hd
    exact ⟨h1, fun v => (h2 v).trans Or.comm⟩
theorem Union.nil_left {ys : List Int} (h : Up ys) : Union [] ys ys := ⟨h, by simp⟩
theorem Union.nil_right {xs : List Int} (h : Up xs) : Union xs [] xs := ⟨h, by simp⟩

end Go.Proofs.Qxb6608735a
