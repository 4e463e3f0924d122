import Derived.Test.Qxb6608735aS5N
namespace Go.Proofs.Qxb6608735a
open Go.RowKit Go.Maps Go.WideMaps Go.Joins
set_option linter.unusedVariables false

theorem getD_snoc_lt {α : Type} (xs : List α) (x d : α) {i : Nat} (h : i < xs.length) : (xs ++ [x]).getD i d = xs.getD i d := by
  simp [List.getD, List.getElem?_append_left h]
theorem getD_snoc_eq {α : Type} (xs : List α) (x d : α) : (xs ++ [x]).getD xs.length d = x := by
  simp [List.getD]

/-! ### what is held -/
theorem held_at (ow : List Int) : ∀ n i, i < (heldP ow n).length → ∃ k : Nat, k < n ∧ (heldP ow n).getD i 0 = k ∧ (heldO ow n).getD i 0 = ow.getD k 0 ∧ -2 ≤ ow.getD k 0
  | 0, i, h => by simp [heldP] at h
  | n + 1, i, h => by
    rw [heldP, heldO] at *
    by_cases hc : -2 ≤ ow.getD n 0
    · rw [if_pos hc] at h ⊢
      rw [if_pos hc]
      by_cases e : i < (heldP ow n).length
      · obtain ⟨k, hk, h1, h2, h3⟩ := held_at ow n i e
        exact ⟨k, by omega, by rw [getD_snoc_lt _ _ _ e]; exact h1, by rw [getD_snoc_lt _ _ _ (by rw [heldO_len]; exact e)]; exact h2, h3⟩
      · have : i = (heldP ow n).length := by simp at h; omega
        refine ⟨n, by omega, by rw [this, getD_snoc_eq], by rw [this, ← heldO_len, getD_snoc_eq], hc⟩
    · rw [if_neg hc] at h ⊢
      rw [if_neg hc]
      obtain ⟨k, hk, h1⟩ := held_at ow n i h
      exact ⟨k, by omega, h1⟩
theorem held_has (ow : List Int) : ∀ n k, k < n → -2 ≤ ow.getD k 0 → ∃ i, i < (heldP ow n).length ∧ (heldP ow n).getD i 0 = k ∧ (heldO ow n).getD i 0 = ow.getD k 0
  | 0, k, h, _ => by omega
  | n + 1, k, h, h2 => by
    rw [heldP, heldO]
    by_cases e : k = n
    · subst e
      rw [if_pos h2, if_pos h2]
      exact ⟨(heldP ow k).length, by simp, getD_snoc_eq _ _ _, by rw [← heldO_len, getD_snoc_eq]⟩
    · obtain ⟨i, hi, h3, h4⟩ := held_has ow n k (by omega) h2
      by_cases hc : -2 ≤ ow.getD n 0
      · rw [if_pos hc, if_pos hc]
        exact ⟨i, by simp; omega, by rw [getD_snoc_lt _ _ _ hi]; exact h3, by rw [getD_snoc_lt _ _ _ (by rw [heldO_len]; exact hi)]; exact h4⟩
      · rw [if_neg hc, if_neg hc]
        exact ⟨i, hi, h3, h4⟩
theorem held_up (ow : List Int) : ∀ n, Up (heldP ow n) ∧ ∀ v ∈ heldP ow n, v < n
  | 0 => ⟨List.Pairwise.nil, by simp [heldP]⟩
  | n + 1 => by
    obtain ⟨h1, h2⟩ := held_up ow n
    rw [heldP]
    by_cases hc : -2 ≤ ow.getD n 0
    · rw [if_pos hc]
      refine ⟨up_snoc h1 h2, fun v hv => ?_⟩
      rcases List.mem_append.1 hv with hv | hv
      · have := h2 v hv; omega
      · simp at hv; omega
    · rw [if_neg hc]
      exact ⟨h1, fun v hv => by have := h2 v hv; omega⟩
theorem held_own {ow : List Int} {n : Nat} {p o : Int} : Own (heldP ow n) (heldO ow n) p o ↔ ∃ k : Nat, k < n ∧ p = k ∧ o = ow.getD k 0 ∧ -2 ≤ o := by
  constructor
  · rintro ⟨i, hi, h1, h2⟩
    obtain ⟨k, hk, h3, h4, h5⟩ := held_at ow n i hi
    exact ⟨k, hk, by rw [← h1, h3], by rw [← h2, h4], by rw [← h2, h4]; exact h5⟩
  · rintro ⟨k, hk, rfl, rfl, h⟩
    obtain ⟨i, hi, h1, h2⟩ := held_has ow n k hk h
    exact ⟨i, hi, h1, h2⟩
theorem held_got {ow : List Int} {n k : Nat} : Got (heldP ow n) (heldO ow n) k ↔ k < n ∧ -1 ≤ ow.getD k 0 := by
  constructor
  · rintro ⟨o, ho, h⟩
    obtain ⟨k', hk, e, e2, h2⟩ := held_own.1 ho
    have : k = k' := by omega
    subst this
    exact ⟨hk, by rw [← e2]; exact h⟩
  · rintro ⟨hk, h⟩
    exact ⟨ow.getD k 0, held_own.2 ⟨k, hk, rfl, rfl, by omega⟩, h⟩

/-! ### what is split -/
theorem split_pos (ls cs : List ByteArray) (p : Int) : ∀ n, p ∈ splitP ls cs n ↔ ∃ i, i < n ∧ Maps.has (Dm ls ls.length) (keyS (cs.getD i ByteArray.empty)) = true ∧ cAt ls (cs.getD i ByteArray.empty) = p
  | 0 => by simp [splitP]
  | n + 1 => by
    rw [splitP]
    by_cases hc : Maps.has (Dm ls ls.length) (keyS (cs.getD n ByteArray.empty)) = true
    · rw [if_pos hc, List.mem_append, split_pos ls cs p n, List.mem_singleton]
      constructor
      · rintro (⟨i, hi, h⟩ | h)
        · exact ⟨i, by omega, h⟩
        · exact ⟨n, by omega, hc, h.symm⟩
      · rintro ⟨i, hi, h1, h2⟩
        by_cases e : i = n
        · subst e; exact .inr h2.symm
        · exact .inl ⟨i, by omega, h1, h2⟩
    · rw [if_neg hc, split_pos ls cs p n]
      constructor
      · rintro ⟨i, hi, h⟩; exact ⟨i, by omega, h⟩
      · rintro ⟨i, hi, h1, h2⟩
        by_cases e : i = n
        · subst e; exact absurd h1 hc
        · exact ⟨i, by omega, h1, h2⟩
theorem split_oth (ls cs : List ByteArray) (s : ByteArray) : ∀ n, s ∈ splitO ls cs n ↔ ∃ i, i < n ∧ ¬ Maps.has (Dm ls ls.length) (keyS (cs.getD i ByteArray.empty)) = true ∧ cs.getD i ByteArray.empty = s
  | 0 => by simp [splitO]
  | n + 1 => by
    rw [splitO]
    by_cases hc : Maps.has (Dm ls ls.length) (keyS (cs.getD n ByteArray.empty)) = true
    · rw [if_pos hc, split_oth ls cs s n]
      constructor
      · rintro ⟨i, hi, h⟩; exact ⟨i, by omega, h⟩
      · rintro ⟨i, hi, h1, h2⟩
        by_cases e : i = n
        · subst e; exact absurd hc h1
        · exact ⟨i, by omega, h1, h2⟩
    · rw [if_neg hc, List.mem_append, split_oth ls cs s n, List.mem_singleton]
      constructor
      · rintro (⟨i, hi, h⟩ | h)
        · exact ⟨i, by omega, h⟩
        · exact ⟨n, by omega, hc, h.symm⟩
      · rintro ⟨i, hi, h1, h2⟩
        by_cases e : i = n
        · subst e; exact .inr h2.symm
        · exact .inl ⟨i, by omega, h1, h2⟩
theorem mem_getD {α : Type} {xs : List α} {d x : α} : x ∈ xs ↔ ∃ u, u < xs.length ∧ xs.getD u d = x := by
  rw [List.mem_iff_getElem]
  constructor
  · rintro ⟨i, hi, e⟩; exact ⟨i, hi, by simp [List.getD, List.getElem?_eq_getElem hi, e]⟩
  · rintro ⟨i, hi, e⟩; exact ⟨i, hi, by simpa [List.getD, List.getElem?_eq_getElem hi] using e⟩
theorem split_bound {ls cs : List ByteArray} (hd : Distinct ls ls.length) {n u : Nat} (hu : u < (splitP ls cs n).length) : ∃ k : Nat, k < ls.length ∧ (splitP ls cs n).getD u 0 = k := by
  obtain ⟨i, _, h1, h2⟩ := (split_pos ls cs _ n).1 (mem_getD.2 ⟨u, hu, rfl⟩ : (splitP ls cs n).getD u 0 ∈ splitP ls cs n)
  obtain ⟨k, hk, _, e⟩ := cAt_at hd h1
  exact ⟨k, hk, by rw [← h2, e]⟩

/-! ### both sides say the same -/
theorem met_iff {ls cs os : List ByteArray} {ow : List Int} (hd : Distinct ls ls.length) :
    AllMet (heldP ow ow.length) (heldO ow ow.length) (splitP ls cs cs.length) os (splitO ls cs cs.length) ↔ ∀ u, u < cs.length → MetC ls ow os (cs.getD u ByteArray.empty) := by
  constructor
  · rintro ⟨h1, h2⟩ u hu
    cases hh : Maps.has (Dm ls ls.length) (keyS (cs.getD u ByteArray.empty))
    · right
      refine ⟨hh, ?_⟩
      obtain ⟨x, hx, e⟩ := mem_getD (d := ByteArray.empty).1 ((split_oth ls cs (cs.getD u ByteArray.empty) cs.length).2 ⟨u, hu, by rw [hh]; simp, rfl⟩)
      have := h2 x hx
      rw [e] at this
      exact this
    · left
      obtain ⟨k, hk, _, e⟩ := cAt_at hd hh
      obtain ⟨x, hx, e2⟩ := mem_getD (d := 0).1 ((split_pos ls cs (k : Int) cs.length).2 ⟨u, hu, hh, e⟩)
      have := h1 x hx
      rw [e2] at this
      obtain ⟨g1, g2⟩ := held_got.1 this
      refine ⟨hh, by rw [e]; omega, by rw [e, Int.toNat_natCast]; exact g2⟩
  · intro h
    refine ⟨fun u hu => ?_, fun u hu => ?_⟩
    · obtain ⟨i, hi, h1, h2⟩ := (split_pos ls cs _ cs.length).1 (mem_getD.2 ⟨u, hu, rfl⟩ : (splitP ls cs cs.length).getD u 0 ∈ splitP ls cs cs.length)
      obtain ⟨k, hk, _, e⟩ := cAt_at hd h1
      rcases h i hi with ⟨_, g1, g2⟩ | ⟨g, _⟩
      · rw [e] at g1
        rw [e, Int.toNat_natCast] at g2
        rw [← h2, e]
        exact held_got.2 ⟨by omega, g2⟩
      · rw [g] at h1; cases h1
    · obtain ⟨i, hi, h1, h2⟩ := (split_oth ls cs _ cs.length).1 (mem_getD.2 ⟨u, hu, rfl⟩ : (splitO ls cs cs.length).getD u ByteArray.empty ∈ splitO ls cs cs.length)
      rcases h i hi with ⟨g, _⟩ | ⟨_, g⟩
      · exact absurd g h1
      · rw [← h2]; exact g
theorem chain_mem {lk lo hi : List Int} {j : Nat} (h : ChainOk lk lo hi j) {v : Int} : v ∈ chainL lo hi lk j ↔ ∃ t : Nat, t < lk.length ∧ lo.getD j 0 ≤ t ∧ (t : Int) < hi.getD j 0 ∧ lk.getD t 0 = v := by
  obtain ⟨h1, h2, h3, _⟩ := h
  have hl : (chainL lo hi lk j).length = (hi.getD j 0).toNat - (lo.getD j 0).toNat := by
    rw [chainL, List.length_take, List.length_drop]; omega
  rw [mem_getD (d := 0)]
  constructor
  · rintro ⟨u, hu, e⟩
    rw [chainL_get hu] at e
    exact ⟨(lo.getD j 0).toNat + u, by omega, by omega, by omega, e⟩
  · rintro ⟨t, h4, h5, h6, e⟩
    have hu : t - (lo.getD j 0).toNat < (chainL lo hi lk j).length := by omega
    refine ⟨t - (lo.getD j 0).toNat, hu, ?_⟩
    rw [chainL_get hu, show (lo.getD j 0).toNat + (t - (lo.getD j 0).toNat) = t from by omega]
    exact e
theorem chain_iff {ls cs os : List ByteArray} {ow lk lo hi : List Int} (hf : Fine ls ow lk lo hi os) (hm : ∀ u, u < cs.length → MetC ls ow os (cs.getD u ByteArray.empty)) (v : Int) :
    (∃ u, u < (splitP ls cs cs.length).length ∧ OnCh (heldP ow ow.length) (heldO ow ow.length) lo hi lk ((splitP ls cs cs.length).getD u 0) v) ↔ ∃ t, t < lk.length ∧ MarkC lo hi (UsedC ls ow cs cs.length) lo.length t ∧ lk.getD t 0 = v := by
  constructor
  · rintro ⟨u, hu, j, ho, hv⟩
    obtain ⟨i, hi', h1, h2⟩ := (split_pos ls cs _ cs.length).1 (mem_getD.2 ⟨u, hu, rfl⟩ : (splitP ls cs cs.length).getD u 0 ∈ splitP ls cs cs.length)
    obtain ⟨k, hk, ek, eo, _⟩ := held_own.1 ho
    have hj : j < lo.length := by have := hf.own k hk; omega
    obtain ⟨t, t1, t2, t3, t4⟩ := (chain_mem (hf.ch j hj)).1 hv
    refine ⟨t, t1, ⟨j, hj, ⟨i, hi', h1, ?_⟩, t2, t3⟩, t4⟩
    rw [h2, ek, Int.toNat_natCast, ← eo]
  · rintro ⟨t, t1, ⟨j, hj, ⟨i, hi', h1, h2⟩, t2, t3⟩, t4⟩
    obtain ⟨k, hk, _, e⟩ := cAt_at hf.dis h1
    rw [e, Int.toNat_natCast] at h2
    rcases hm i hi' with ⟨_, g1, g2⟩ | ⟨g, _⟩
    · rw [e] at g1
      obtain ⟨u, hu, e2⟩ := mem_getD (d := 0).1 ((split_pos ls cs (k : Int) cs.length).2 ⟨i, hi', h1, e⟩)
      refine ⟨u, hu, j, ?_, (chain_mem (hf.ch j hj)).2 ⟨t, t1, t2, t3, t4⟩⟩
      rw [e2]
      exact held_own.2 ⟨k, by omega, rfl, h2.symm, by omega⟩
    · rw [g] at h1; cases h1
end Go.Proofs.Qxb6608735a
