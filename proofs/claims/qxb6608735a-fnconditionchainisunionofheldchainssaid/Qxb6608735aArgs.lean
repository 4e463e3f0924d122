import Derived.Test.Qxb6608735aBase
import Derived.OpenShut
namespace Go.Proofs.Qxb6608735a
open Go.RowKit

/-- what is known of a slice of strings that came in -/
structure ArgS (w : World) (a : Option Addr) (n c : Nat) (ss : List ByteArray) : Prop where
  has : HasS w w.heap.size a ss
  len : ss.length = n
  le : n ≤ c
  max : c ≤ maxLen
  each : ∀ s ∈ ss, s.size ≤ maxLen
/-- what is known of a slice of integers that came in -/
structure ArgI (k : IntKind) (w : World) (a : Option Addr) (n c : Nat) (zs : List Int) : Prop where
  has : HasI k w w.heap.size a zs
  len : zs.length = n
  le : n ≤ c
  max : c ≤ maxLen
  each : ∀ z ∈ zs, (Lit.int k z).wf = true

theorem argS_nil (w : World) : ArgS w none 0 0 [] := ⟨fun h => absurd h (by simp), rfl, Nat.le_refl _, by unfold maxLen; omega, fun s h => by cases h⟩
theorem argI_nil (k : IntKind) (w : World) : ArgI k w none 0 0 [] := ⟨fun h => absurd h (by simp), rfl, Nat.le_refl _, by unfold maxLen; omega, fun s h => by cases h⟩

theorem argS_some {w : World} {x : Addr} {n c : Nat} {ss : List ByteArray} (hl : n ≤ c) (hm : c ≤ maxLen) (hz : ss.length = c) (hcell : ∀ i, i < ss.length → w.cell? (x.add i) = some (.string (ss.getD i ByteArray.empty))) (hw : ∀ s ∈ ss, s.size ≤ maxLen) : ArgS w (some x) n c (ss.take n) := by
  refine ⟨fun h0 => ?_, by simp; omega, hl, hm, fun s hs => hw s (List.mem_of_mem_take hs)⟩
  have hn : 0 < n ∧ 0 < ss.length := by simp at h0; omega
  obtain ⟨b, off, spot⟩ := x
  have hspot : spot = none := by simpa [Addr.add] using World.cell?_spot (hcell 0 hn.2)
  subst hspot
  have hc : ∀ i, i < ss.length → w.cell? ⟨b, off + i, none⟩ = some (.string (ss.getD i ByteArray.empty)) := fun i hi => by rw [← Go.WideShapes.add_plain]; exact hcell i hi
  refine ⟨b, off, rfl, World.block_lt_of_cell? w _ (hc 0 hn.2), fun i hi => ?_⟩
  have hi' : i < n ∧ i < ss.length := by simp at hi; omega
  rw [hc i hi'.2]
  simp [List.getElem?_take_of_lt hi'.1]
theorem argI_some {k : IntKind} {w : World} {x : Addr} {n c : Nat} {zs : List Int} (hl : n ≤ c) (hm : c ≤ maxLen) (hz : zs.length = c) (hcell : ∀ i, i < zs.length → w.cell? (x.add i) = some (.int k (zs.getD i 0))) (hw : ∀ z ∈ zs, (Lit.int k z).wf = true) : ArgI k w (some x) n c (zs.take n) := by
  refine ⟨fun h0 => ?_, by simp; omega, hl, hm, fun s hs => hw s (List.mem_of_mem_take hs)⟩
  have hn : 0 < n ∧ 0 < zs.length := by simp at h0; omega
  obtain ⟨b, off, spot⟩ := x
  have hspot : spot = none := by simpa [Addr.add] using World.cell?_spot (hcell 0 hn.2)
  subst hspot
  have hc : ∀ i, i < zs.length → w.cell? ⟨b, off + i, none⟩ = some (.int k (zs.getD i 0)) := fun i hi => by rw [← Go.WideShapes.add_plain]; exact hcell i hi
  refine ⟨b, off, rfl, World.block_lt_of_cell? w _ (hc 0 hn.2), fun i hi => ?_⟩
  have hi' : i < n ∧ i < zs.length := by simp at hi; omega
  rw [hc i hi'.2]
  simp [List.getElem?_take_of_lt hi'.1]

theorem wf64 {z : Int} (h : (Lit.int .i64 z).wf = true) : -9223372036854775808 ≤ z ∧ z ≤ 9223372036854775807 := by
  have := bounds_i64 h
  omega

end Go.Proofs.Qxb6608735a
