import Derived.Test.Qxb6608735aRows
import Derived.WalkKit
import Derived.WalkSpells
import Derived.WalkSmall
import Derived.Deep.QuietTactic
import Derived.BigQuiet
import Derived.Laws.CopyOwn
import Derived.Maps.Own
import Derived.Maps.OwnOps
import Derived.Maps.OwnSet
import Derived.Maps.Views
namespace Go.Proofs.Qxb6608735a
open Go.RowKit

theorem hid_of {p : Prop} (h : p) : Hid p := h

/-- a slice of strings that reads ss, below block B -/
def HasS (w : World) (B : Nat) (a : Option Addr) (ss : List ByteArray) : Prop :=
  0 < ss.length → ∃ b off, a = some ⟨b, off, none⟩ ∧ b < B ∧ ∀ i, i < ss.length → w.cell? ⟨b, off + i, none⟩ = some (.string (ss.getD i ByteArray.empty))
/-- a slice of integers of kind k that reads zs, below block B -/
def HasI (k : IntKind) (w : World) (B : Nat) (a : Option Addr) (zs : List Int) : Prop :=
  0 < zs.length → ∃ b off, a = some ⟨b, off, none⟩ ∧ b < B ∧ ∀ i, i < zs.length → w.cell? ⟨b, off + i, none⟩ = some (.int k (zs.getD i 0))

theorem HasS.below {w w' : World} {B B' : Nat} {a : Option Addr} {ss : List ByteArray} (h : HasS w B a ss) (hb : Below B' w w') (hB : B ≤ B') : HasS w' B a ss := by
  intro h0
  obtain ⟨b, off, rfl, hlt, hc⟩ := h h0
  exact ⟨b, off, rfl, hlt, fun i hi => by rw [hb.cell (p := ⟨b, off + i, none⟩) (by exact Nat.lt_of_lt_of_le hlt hB)]; exact hc i hi⟩
theorem HasI.below {k : IntKind} {w w' : World} {B B' : Nat} {a : Option Addr} {zs : List Int} (h : HasI k w B a zs) (hb : Below B' w w') (hB : B ≤ B') : HasI k w' B a zs := by
  intro h0
  obtain ⟨b, off, rfl, hlt, hc⟩ := h h0
  exact ⟨b, off, rfl, hlt, fun i hi => by rw [hb.cell (p := ⟨b, off + i, none⟩) (by exact Nat.lt_of_lt_of_le hlt hB)]; exact hc i hi⟩
theorem HasS.mono {w : World} {B B' : Nat} {a : Option Addr} {ss : List ByteArray} (h : HasS w B a ss) (hB : B ≤ B') : HasS w B' a ss := by
  intro h0
  obtain ⟨b, off, rfl, hlt, hc⟩ := h h0
  exact ⟨b, off, rfl, Nat.lt_of_lt_of_le hlt hB, hc⟩
theorem HasI.mono {k : IntKind} {w : World} {B B' : Nat} {a : Option Addr} {zs : List Int} (h : HasI k w B a zs) (hB : B ≤ B') : HasI k w B' a zs := by
  intro h0
  obtain ⟨b, off, rfl, hlt, hc⟩ := h h0
  exact ⟨b, off, rfl, Nat.lt_of_lt_of_le hlt hB, hc⟩
theorem HasS.drewN {w : World} {B : Nat} {a : Option Addr} {ss : List ByteArray} (h : HasS w B a ss) (n : Nat) : HasS (w.drewN n) B a ss := h
theorem HasI.drewN {k : IntKind} {w : World} {B : Nat} {a : Option Addr} {zs : List Int} (h : HasI k w B a zs) (n : Nat) : HasI k (w.drewN n) B a zs := h

/-- a row that is owned to its end is the block -/
theorem row_full {w : World} {base : Nat} {e : TypeId} {g n : Nat} {xs : List Value} (h : w.ownsRow base e 1 (.slice (some ⟨g, 0, none⟩) n n) n xs) : w.heap[g]? = some (.cells xs.toArray e (0, 0)) ∧ xs.length = n := by
  obtain ⟨hl, h | ⟨g', cap, cur, hv, hg, hh, h1, h2, h3, h4⟩⟩ := h
  · simp at h
  · simp only [Value.slice.injEq, Option.some.injEq, Addr.mk.injEq, and_true] at hv
    obtain ⟨rfl, -, rfl⟩ := hv
    have e1 : cur.toList.take (n * 1) = cur.toList := List.take_of_length_le (by simp; omega)
    rw [e1] at h4
    subst h4
    exact ⟨hh, by simpa using hl⟩
theorem row_some {w : World} {base : Nat} {e : TypeId} {g n : Nat} {xs : List Value} (h : w.ownsRow base e 1 (.slice (some ⟨g, 0, none⟩) n n) n xs) : ∃ L : List Value, w.heap[g]? = some (.cells L.toArray e (0, 0)) ∧ L.length = n := ⟨xs, row_full h⟩
theorem cell_row {w : World} {g : Nat} {xs : List Value} {e : TypeId} (h : w.heap[g]? = some (.cells xs.toArray e (0, 0))) (i : Nat) : w.cell? ⟨g, i, none⟩ = xs[i]? := by
  simp [World.cell?, h]
theorem frozen_row {w : World} {g : Nat} {xs : List Value} {e : TypeId} (h : w.heap[g]? = some (.cells xs.toArray e (0, 0))) (i : Nat) : w.frozen? ⟨g, i, none⟩ = false := by
  simp [World.frozen?, h]
theorem row_lt {w : World} {g : Nat} {o : Obj} (h : w.heap[g]? = some o) : g < w.heap.size := (Array.getElem?_eq_some_iff.1 h).1
theorem splice_all {α : Type} (L cs : List α) (h : L.length = cs.length) : splice L 0 cs = cs := by simp [splice, ← h]

theorem hasI_row {k : IntKind} {w : World} {g B : Nat} {zs : List Int} {e : TypeId} (h : w.heap[g]? = some (.cells (zs.map (Value.int k)).toArray e (0, 0))) (hB : g < B) : HasI k w B (some ⟨g, 0, none⟩) zs := by
  intro _
  refine ⟨g, 0, rfl, hB, fun i hi => ?_⟩
  rw [Nat.zero_add, cell_row h]
  simp [List.getElem?_eq_getElem hi]
theorem hasS_row {w : World} {g B : Nat} {ss : List ByteArray} {e : TypeId} (h : w.heap[g]? = some (.cells (ss.map Value.string).toArray e (0, 0))) (hB : g < B) : HasS w B (some ⟨g, 0, none⟩) ss := by
  intro _
  refine ⟨g, 0, rfl, hB, fun i hi => ?_⟩
  rw [Nat.zero_add, cell_row h]
  simp [List.getElem?_eq_getElem hi]

/-- the cells of a slice of integers, as the laws on copy and append ask for them -/
theorem cells_of {k : IntKind} {w : World} {b off : Nat} {zs : List Int} (h : ∀ i, i < zs.length → w.cell? ⟨b, off + i, none⟩ = some (.int k (zs.getD i 0))) : ∀ (j : Nat) (v : Value), (zs.map (Value.int k))[j]? = some v → w.cell? ((⟨b, off, none⟩ : Addr).add j) = some v := by
  intro j v hv
  have hj : j < zs.length := by simpa using (List.getElem?_eq_some_iff.1 hv).1
  rw [Addr.add_lit, h j hj]
  rw [← hv]
  simp [List.getElem?_eq_getElem hj]

/-- a guard: the next operation is the builtin copy -/
theorem at_copy {P : Program} {ops : Array Oper} {Q : Exit → Act → World → Prop} {rest : List Oper} {a : Act} {w : World} {dst : Option Tmp} {d s : Operand} {t1 t2 ty : TypeId} {pos : String} {after : Array Edge}
    (h : wpList P ops Q (⟨dst, Op.call ⟨Callee.builtin Builtin.copy, #[d, s], #[t1, t2]⟩, ty, pos, after, none⟩ :: rest) a w) : wpList P ops Q (⟨dst, Op.call ⟨Callee.builtin Builtin.copy, #[d, s], #[t1, t2]⟩, ty, pos, after, none⟩ :: rest) a w := h

theorem hpos_of {k : IntKind} {w : World} {B g : Nat} {a : Option Addr} {zs : List Int} (h : HasI k w B a zs) : 0 < (zs.map (Value.int k)).length → (some (⟨g, 0, none⟩ : Addr) = some ⟨g, 0, none⟩) ∧ ∃ ad, a = some ad ∧ ∀ j v, (zs.map (Value.int k))[j]? = some v → w.cell? (ad.add j) = some v := by
  intro h0
  obtain ⟨b, off, rfl, _, hc⟩ := h (by simpa using h0)
  exact ⟨rfl, _, rfl, cells_of hc⟩

end Go.Proofs.Qxb6608735a
