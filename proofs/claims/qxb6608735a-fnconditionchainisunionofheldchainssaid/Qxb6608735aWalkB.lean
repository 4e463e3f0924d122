import Derived.Test.Qxb6608735aWalkA
namespace Go.Proofs.Qxb6608735a
open Go.RowKit Go.Maps
set_option linter.unusedVariables false

theorem law9 : Keyed Try.prog 9 := string_keyed Try.underlying9
theorem zero3 (w : World) : (zeroValue 3).run Try.prog w = .ok (.int .i64 0) w := by kernel_rfl

def keyS (s : ByteArray) : Lit := .string s.data.toList
theorem keyS_ne {s t : ByteArray} (h : s ≠ t) : keyS s ≠ keyS t := by
  intro e
  apply h
  simp only [keyS, Lit.string.injEq] at e
  cases s; cases t
  simp_all
theorem isKey (s : ByteArray) : WideAt.IsKeyLit (keyS s) := by
  simp [WideAt.IsKeyLit, keyS]

/-- the map of the first k strings, each at its place -/
def Dm (ss : List ByteArray) : Nat → DataW Unit
  | 0 => .map []
  | k + 1 => (Dm ss k).put (keyS (ss.getD k ByteArray.empty)) (.lit (.int .i64 k))

theorem Dm_isMap (ss : List ByteArray) : ∀ k, IsMap (Dm ss k)
  | 0 => isMap_empty
  | k + 1 => (Dm_isMap ss k).put _ _

theorem Dm_has (ss : List ByteArray) (s : ByteArray) : ∀ k, Maps.has (Dm ss k) (keyS s) = true ↔ ∃ i, i < k ∧ ss.getD i ByteArray.empty = s
  | 0 => by simp [Dm, Maps.has]
  | k + 1 => by
    by_cases e : ss.getD k ByteArray.empty = s
    · constructor
      · intro _; exact ⟨k, by omega, e⟩
      · intro _; rw [Dm, e]; exact has_put_same (Dm_isMap ss k) (isKey _) _
    · rw [Dm, has_put_other (fun h => keyS_ne e h.symm), Dm_has ss s k]
      constructor
      · rintro ⟨i, hi, h⟩; exact ⟨i, by omega, h⟩
      · rintro ⟨i, hi, h⟩
        have : i ≠ k := fun e' => e (e' ▸ h)
        exact ⟨i, by omega, h⟩

def Distinct (ss : List ByteArray) (k : Nat) : Prop := ∀ i j, i < j → j < k → ss.getD i ByteArray.empty ≠ ss.getD j ByteArray.empty

theorem Dm_at (ss : List ByteArray) : ∀ k, Distinct ss k → ∀ i, i < k → ∀ z, (Dm ss k).atKey (keyS (ss.getD i ByteArray.empty)) z = .lit (.int .i64 i)
  | 0, _, i, hi, _ => by omega
  | k + 1, hd, i, hi, z => by
    by_cases e : i = k
    · subst e; rw [Dm]; exact atKey_put_same (Dm_isMap ss i) (isKey _) _ _
    · rw [Dm, atKey_put_other (fun h => keyS_ne (hd i k (by omega) (by omega)) h)]
      exact Dm_at ss k (fun a b h1 h2 => hd a b h1 (by omega)) i (by omega) z

theorem distinct_succ {ss : List ByteArray} {k : Nat} (h : Distinct ss k) (hn : Maps.has (Dm ss k) (keyS (ss.getD k ByteArray.empty)) = false) : Distinct ss (k + 1) := by
  intro i j hij hj e
  by_cases hjk : j = k
  · subst hjk
    have := (Dm_has ss (ss.getD j ByteArray.empty) j).2 ⟨i, hij, e⟩
    rw [hn] at this
    cases this
  · exact h i j hij (by omega) e

end Go.Proofs.Qxb6608735a
