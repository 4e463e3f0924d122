import Derived.Test.Qxb6608735aS5F
namespace Go.Proofs.Qxb6608735a
open Go.RowKit Go.Maps Go.WideMaps Go.Joins
set_option linter.unusedVariables false

theorem ba_eq {s t : ByteArray} (h : s.toList = t.toList) : s = t := by
  have h1 : (s == t) = true := by rw [beq_toListBytes, h]; simp
  obtain ⟨a⟩ := s
  obtain ⟨b⟩ := t
  have h2 : (a == b) = true := h1
  rw [beq_iff_eq] at h2
  rw [h2]
theorem ba_ne {s t : ByteArray} (h : ¬ s = t) : (s.toList == t.toList) = false := by
  cases e : s.toList == t.toList
  · rfl
  · exact absurd (ba_eq (eq_of_beq e)) h

def IxR (os : List ByteArray) (s : ByteArray) (n : Nat) (w0 : World) (i : Value) (wr : World) : Prop :=
  ∃ k : Nat, i = .int .i64 k ∧ k ≤ n ∧ (∀ u, u < k → os.getD u ByteArray.empty ≠ s) ∧ ∃ q, wr = w0.drewN q
def IxB (os : List ByteArray) (s : ByteArray) (n : Nat) (w : World) (e : Ending) (w' : World) : Prop :=
  ∃ r : Int, e = .returned (.int .i64 r) ∧ Below w.heap.size w w' ∧ ((∃ k : Nat, r = k ∧ k < n ∧ os.getD k ByteArray.empty = s) ∨ (r = -1 ∧ ∀ u, u < n → os.getD u ByteArray.empty ≠ s))

set_option maxRecDepth 20000 in
set_option maxHeartbeats 1000000 in
theorem indexName_any (a : Option Addr) (n c B : Nat) (os : List ByteArray) (s : ByteArray) (w : World) (h : HasN w B a os) (hB : B ≤ w.heap.size) (hn : os.length = n) (hm : n ≤ 4096) :
    Calls Try.prog 54 #[.slice a n c, .agg #[.string ByteArray.empty, .string s]] w fun e w' => IxB os s n w e w' := by
  have HN := hid_of hn
  have HS := hid_of h
  clear hn h
  go_enter Try.func54, Try.ntmps54
  go_wp2_with fail
  obtain ⟨w0, hw0⟩ : ∃ w0, w0 = w.alloc (.cells #[.string ByteArray.empty, .string s] 91) := ⟨_, rfl⟩
  rw [← hw0]
  have B0 : Hid (Below w.heap.size w w0) := by rw [hw0]; exact (Below.refl _ _).alloc (Nat.le_refl _) _
  have r0 : w0.cell? ⟨w.heap.size, 0, none⟩ = some (.string ByteArray.empty) := by rw [hw0]; simp [go_sem]
  have r1 : w0.cell? ⟨w.heap.size, 1, none⟩ = some (.string s) := by rw [hw0]; simp [go_sem]
  clear hw0
  go_loopw [8] (fun i wr => IxR os s n w0 i wr) (fun i _ => n - (intOf i).toNat)
  case atStart => exact ⟨0, rfl, by omega, fun u hu => by omega, 0, rfl⟩
  case round =>
    obtain ⟨k, rfl, hk, hne, q, rfl⟩ := hrel
    have HNe := hid_of hne
    clear hne
    by_cases hlt : k < n
    · obtain ⟨b, off, rfl, hbB, hc⟩ := HS.out (by rw [HN.out]; omega)
      have hc0 : w0.cell? ⟨b, off + k * 2, none⟩ = some (.string ByteArray.empty) := by
        rw [B0.out.cell (p := ⟨b, off + k * 2, none⟩) (by show b < _; omega)]
        exact (hc k (by rw [HN.out]; omega)).1
      have hc1 : w0.cell? ⟨b, off + k * 2 + 1, none⟩ = some (.string (os.getD k ByteArray.empty)) := by
        rw [B0.out.cell (p := ⟨b, off + k * 2 + 1, none⟩) (by show b < _; omega)]
        exact (hc k (by rw [HN.out]; omega)).2
      obtain ⟨t, ht⟩ : ∃ t, t = os.getD k ByteArray.empty := ⟨_, rfl⟩
      rw [← ht] at hc1
      have T := hid_of ht
      clear ht hc
      have hki : (k : Int) < (n : Int) := by omega
      by_cases hst : s = t
      · subst hst
        go_wp2_with fail
        go_quiet (fail)
        go_wp2_with fail
        go_ret
        exact ⟨_, rfl, below_drewN (below_drewN B0.out _) _, .inl ⟨k, rfl, hlt, T.out.symm⟩⟩
      · have d1 := ba_ne hst
        go_wp2_with fail
        go_quiet (fail)
        go_wp2_with fail
        go_roundw
        case rel =>
          refine ⟨k + 1, by go_num, by omega, fun u hu => ?_, _, rfl⟩
          by_cases e : u = k
          · subst e; rw [← T.out]; exact fun e => hst e.symm
          · exact HNe.out u (by omega)
        case measure => simp [intOf]; omega
    · go_wp2_with fail
      go_ret
      exact ⟨_, rfl, below_drewN B0.out _, .inr ⟨rfl, fun u hu => HNe.out u (by omega)⟩⟩

/-- the answer whether the name is among them -/
def Among (os : List ByteArray) (s : ByteArray) (e : Ending) : Prop := ∃ r : Bool, e = .returned (.bool r) ∧ (r = true ↔ ∃ u, u < os.length ∧ os.getD u ByteArray.empty = s)

set_option maxRecDepth 20000 in
theorem containsName_any (a : Option Addr) (n c B : Nat) (os : List ByteArray) (s : ByteArray) (w : World) (h : HasN w B a os) (hB : B ≤ w.heap.size) (hn : os.length = n) (hm : n ≤ 4096) :
    Calls Try.prog 50 #[.slice a n c, .agg #[.string ByteArray.empty, .string s]] w fun e w' => Among os s e ∧ Below w.heap.size w w' := by
  have HS := hid_of h
  have HN := hid_of hn
  clear h hn
  go_enter Try.func50, Try.ntmps50
  go_wp2_with fail
  have B0 : Hid (Below w.heap.size w (w.alloc (.cells #[.string ByteArray.empty, .string s] 91))) := (Below.refl _ _).alloc (Nat.le_refl _) _
  refine (indexName_any a n c B os s _ (HS.out.below B0.out hB) (by simp; omega) HN.out hm).mono ?_
  rintro e w' ⟨r, rfl, hb, ⟨k, rfl, hk, hs⟩ | ⟨rfl, hno⟩⟩
  · have HB := hid_of hb
    clear hb
    go_wp2_with fail
    go_ret
    refine ⟨⟨true, rfl, ?_⟩, B0.out.trans (HB.out.mono (by simp))⟩
    exact ⟨fun _ => ⟨k, by rw [HN.out]; exact hk, hs⟩, fun _ => rfl⟩
  · have HB := hid_of hb
    clear hb
    go_wp2_with fail
    go_ret
    refine ⟨⟨false, rfl, ?_⟩, B0.out.trans (HB.out.mono (by simp))⟩
    exact ⟨fun h => absurd h (by simp), fun ⟨u, hu, e⟩ => absurd e (hno u (by rw [← HN.out]; exact hu))⟩

end Go.Proofs.Qxb6608735a
