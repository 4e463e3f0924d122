import Derived.Test.Qxb6608735aWalkC
namespace Go.Proofs.Qxb6608735a
open Go.RowKit
set_option linter.unusedVariables false

theorem info9 : (Try.prog.info? 9).map (fun i => (i.zero, i.size, i.bytes)) = some (some (.string ByteArray.empty), 1, 16) := by kernel_rfl
theorem info2 : (Try.prog.info? 2).map (fun i => (i.zero, i.size, i.bytes)) = some (some (.int .i64 0), 1, 8) := by kernel_rfl

theorem row_set {w : World} {g : Nat} {xs : List Value} {e : TypeId} (h : w.heap[g]? = some (.cells xs.toArray e (0, 0))) (i : Nat) (v : Value) : (w.setCell ⟨g, i, none⟩ v).heap[g]? = some (.cells (xs.set i v).toArray e (0, 0)) := by
  simp [World.setCell, Array.getElem?_modify, h]

theorem HasS.of_none {w : World} {B : Nat} {ss : List ByteArray} (h : HasS w B none ss) : ss = [] := by
  cases ss with
  | nil => rfl
  | cons s t =>
    obtain ⟨b, off, hh, _⟩ := h (by simp)
    cases hh
theorem HasI.of_none {k : IntKind} {w : World} {B : Nat} {zs : List Int} (h : HasI k w B none zs) : zs = [] := by
  cases zs with
  | nil => rfl
  | cons s t =>
    obtain ⟨b, off, hh, _⟩ := h (by simp)
    cases hh

/-- a new slice of strings -/
def NewS (w w' : World) (n : Nat) (ss : List ByteArray) (e : Ending) : Prop := ∃ a c, e = .returned (.slice a n c) ∧ HasS w' w'.heap.size a ss ∧ Below w.heap.size w w'

/-- the row that is being filled: the first k are there -/
def Filled (w : World) (g n k : Nat) (f : Nat → Value) (e : TypeId) : Prop := ∃ L : List Value, w.heap[g]? = some (.cells L.toArray e (0, 0)) ∧ L.length = n ∧ ∀ i, i < k → L[i]? = some (f i)
theorem Filled.cell {w : World} {g n k : Nat} {f : Nat → Value} {e : TypeId} (h : Filled w g n k f e) {j : Nat} (hj : j < n) : ∃ v, w.cell? ⟨g, j, none⟩ = some v := by
  obtain ⟨L, h1, h2, h3⟩ := h
  exact ⟨L[j]'(by omega), by rw [cell_row h1, List.getElem?_eq_getElem]⟩
theorem Filled.frozen {w : World} {g n k : Nat} {f : Nat → Value} {e : TypeId} (h : Filled w g n k f e) (j : Nat) : w.frozen? ⟨g, j, none⟩ = false := by
  obtain ⟨L, h1, h2, h3⟩ := h
  exact frozen_row h1 j
theorem Filled.step {w : World} {g n k : Nat} {f : Nat → Value} {e : TypeId} (h : Filled w g n k f e) (hk : k < n) {v : Value} (hv : v = f k) : Filled (w.setCell ⟨g, k, none⟩ v) g n (k + 1) f e := by
  obtain ⟨L, h1, h2, h3⟩ := h
  refine ⟨L.set k v, row_set h1 k v, by simpa using h2, fun i hi => ?_⟩
  by_cases e : i = k
  · subst e; rw [List.getElem?_set_self (by omega), hv]
  · rw [List.getElem?_set_ne (by omega)]; exact h3 i (by omega)
theorem Filled.drewN {w : World} {g n k : Nat} {f : Nat → Value} {e : TypeId} (h : Filled w g n k f e) (q : Nat) : Filled (w.drewN q) g n k f e := h
theorem Filled.drew {w : World} {g n k : Nat} {f : Nat → Value} {e : TypeId} (h : Filled w g n k f e) : Filled w.drew g n k f e := h
theorem Filled.made {w : World} {base : Nat} {e : TypeId} {g n : Nat} {xs : List Value} (f : Nat → Value) (h : w.ownsRow base e 1 (.slice (some ⟨g, 0, none⟩) n n) n xs) : Filled w g n 0 f e := by
  obtain ⟨L, h1, h2⟩ := row_some h
  exact ⟨L, h1, h2, fun i hi => by omega⟩
theorem Filled.hasS {w : World} {g n B : Nat} {ss : List ByteArray} {e : TypeId} (h : Filled w g n n (fun i => .string (ss.getD i ByteArray.empty)) e) (hn : ss.length = n) (hB : g < B) : HasS w B (some ⟨g, 0, none⟩) ss := by
  obtain ⟨L, h1, h2, h3⟩ := h
  intro _
  refine ⟨g, 0, rfl, hB, fun i hi => ?_⟩
  rw [Nat.zero_add, cell_row h1]
  exact h3 i (by omega)
theorem Filled.hasI {w : World} {g n B : Nat} {k : IntKind} {zs : List Int} {e : TypeId} (h : Filled w g n n (fun i => .int k (zs.getD i 0)) e) (hn : zs.length = n) (hB : g < B) : HasI k w B (some ⟨g, 0, none⟩) zs := by
  obtain ⟨L, h1, h2, h3⟩ := h
  intro _
  refine ⟨g, 0, rfl, hB, fun i hi => ?_⟩
  rw [Nat.zero_add, cell_row h1]
  exact h3 i (by omega)
theorem Filled.lt {w : World} {g n k : Nat} {f : Nat → Value} {e : TypeId} (h : Filled w g n k f e) : g < w.heap.size := by
  obtain ⟨L, h1, h2, h3⟩ := h
  exact row_lt h1

set_option maxHeartbeats 400000 in
theorem copyStrings (a : Option Addr) (n c B : Nat) (ss : List ByteArray) (w : World) (h : HasS w B a ss) (hB : B ≤ w.heap.size) (hn : ss.length = n) (hm : n ≤ 4096) :
    Calls Try.prog 16 #[.slice a n c] w fun e w' => NewS w w' n ss e := by
  have hnil := fun w => Lib.run_eql_slice_nil (P := Try.prog) w 22 9 a n c 0 0 Try.underlying22
  obtain ⟨i0, hi, hz0, hz1, hz2⟩ := info_parts info9
  have HS := hid_of h
  have HN := hid_of hn
  clear h hn
  cases ha : a with
  | none =>
    subst ha
    have hs0 := HS.out.of_none
    have hn0 : n = 0 := by rw [← HN.out, hs0]; rfl
    subst hs0
    subst hn0
    go_enter Try.func16, Try.ntmps16
    go_wp2_with fail
    go_ret
    exact ⟨_, _, rfl, fun h => absurd h (by simp), Below.refl _ _⟩
  | some ad =>
    subst ha
    go_enter Try.func16, Try.ntmps16
    go_wp2_with (at_make; refine wpList_make_full _ rfl _ _ 22 rfl w.heap.size 9 i0 (.string ByteArray.empty) 1 Try.underlying22 hi hz0 hz1 _ _ _ _ n rfl rfl rfl rfl (by rw [hz2]; omega) (by unfold maxLen; omega) (Nat.le_refl _) ?_)
    intro w1 hown hgrow
    have HF := hid_of (Filled.made (fun i => .string (ss.getD i ByteArray.empty)) hown)
    have HB1 := hid_of ((Below.refl _ _).grown hgrow (Nat.le_refl _) (fun k h => by cases h) : Below w.heap.size w w1)
    clear hown hgrow
    go_wp2_with fail
    go_loopw [4] (fun i wr => ∃ k : Nat, i = .int .i64 k ∧ k ≤ n ∧ Filled wr w.heap.size n k (fun i => .string (ss.getD i ByteArray.empty)) 9 ∧ Below w.heap.size w wr) (fun i _ => n - (intOf i).toNat)
    case atStart => exact ⟨0, rfl, by omega, HF.out, HB1.out⟩
    case round =>
      obtain ⟨k, rfl, hk, hf, hb⟩ := hrel
      have HF2 := hid_of hf
      have HB2 := hid_of hb
      clear hf hb HF HB1
      by_cases hlt : k < n
      · obtain ⟨b, off, hab, hbB, hc⟩ := HS.out (by rw [HN.out]; omega)
        obtain rfl := Option.some.inj hab
        clear hab
        have hcell : wr.cell? ⟨b, off + k, none⟩ = some (.string (ss.getD k ByteArray.empty)) := by
          rw [HB2.out.cell (p := ⟨b, off + k, none⟩) (Nat.lt_of_lt_of_le hbB hB)]
          exact hc k (by rw [HN.out]; omega)
        obtain ⟨s, hs⟩ : ∃ s, s = ss.getD k ByteArray.empty := ⟨_, rfl⟩
        rw [← hs] at hcell
        have HSS := hid_of hs
        clear hs hc
        obtain ⟨v, hv⟩ := HF2.out.cell hlt
        have hfz := HF2.out.frozen k
        go_wp2_with fail
        go_roundw
        case rel => exact ⟨k + 1, by go_num, by omega, HF2.out.step hlt (by rw [HSS.out]), HB2.out.setCell (Nat.le_refl _) _⟩
        case measure => simp [intOf]; omega
      · go_wp2_with fail
        go_ret
        obtain rfl : k = n := by omega
        exact ⟨_, _, rfl, HF2.out.hasS HN.out HF2.out.lt, HB2.out⟩

end Go.Proofs.Qxb6608735a
