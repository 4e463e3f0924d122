import Derived.Test.Qxb6608893aWalkA
namespace Go.Proofs.Qxb6608893a
open Go.RowKit Go.Maps Go.WideMaps
set_option linter.unusedVariables false

theorem run_makeMap_hint {P : Program} {t k e : TypeId} (hu : P.underlying t = some (.map k e)) (q : IntKind) (n : Int) (w : World) : (Instr.makeMap t (some (.int q n))).run P w = .ok (.map (some w.heap.size)) (w.alloc (.map #[] 0)) := by
  simp [Instr.makeMap, run_underlying hu, asInt, asIntOf, Result.andThen]
theorem info40 : (Try.prog.info? 40).map (fun i => (i.zero, i.size, i.bytes)) = some (some (.agg #[.int .i64 0, .int .i64 0, .int .i64 0]), 3, 24) := by kernel_rfl

theorem alloc_block (w : World) (o : Obj) : (w.alloc o).heap[w.heap.size]? = some o := by
  show (w.heap.push o)[w.heap.size]? = _
  simp

/-- what stands while the timers are filled: the struct at w.heap.size, the queue's row behind it, the map at mb -/
structure TRel (w wr : World) (mb n k m : Nat) (x : Int) : Prop where
  below : Below w.heap.size w wr
  c0 : wr.cell? ⟨w.heap.size, 0, none⟩ = some (.slice (some ⟨w.heap.size + 1, 0, none⟩) n n)
  c1 : wr.cell? ⟨w.heap.size, 1, none⟩ = some (.map (some mb))
  row : ∃ cur : Array Value, wr.heap[w.heap.size + 1]? = some (.cells cur 40 (0, 0)) ∧ cur.size = 3 * n ∧ (0 < k → cur[0]? = some (.int .i64 x))
  map : ∃ D : DataW Unit, wr.ownsMap Try.prog 38 (plainElem Try.prog 3) mb m D
  mb : w.heap.size + 2 ≤ mb

theorem TRel.q {w wr : World} {mb n k m : Nat} {x : Int} (h : TRel w wr mb n k m x) (j : Nat) (hj : j < 3 * n) : ∃ v, wr.cell? ⟨w.heap.size + 1, j, none⟩ = some v ∧ wr.frozen? ⟨w.heap.size + 1, j, none⟩ = false := by
  obtain ⟨cur, h1, h2, _⟩ := h.row
  exact ⟨cur[j]'(by omega), by simp [World.cell?, h1], by simp [World.frozen?, h1]⟩

theorem TRel.set {w wr : World} {mb n k m : Nat} {x : Int} (h : TRel w wr mb n k m x) (j : Nat) (hj : 0 < j) (v : Value) : TRel w (wr.setCell ⟨w.heap.size + 1, j, none⟩ v) mb n k m x := by
  obtain ⟨cur, h1, h2, h3⟩ := h.row
  obtain ⟨D, hD⟩ := h.map
  refine ⟨h.below.setCell (by simp) _, ?_, ?_, ⟨cur.setIfInBounds j v, ?_, by simpa using h2, fun hk => ?_⟩, ⟨D, hD.setCell (by have := h.mb; simp; omega) _⟩, h.mb⟩
  · rw [World.cell?_setCell_other _ _ _ _ (by simp)]; exact h.c0
  · rw [World.cell?_setCell_other _ _ _ _ (by simp)]; exact h.c1
  · simp [World.setCell, Array.getElem?_modify, h1]
  · rw [Array.getElem?_setIfInBounds_ne (by omega)]; exact h3 hk
theorem TRel.set0 {w wr : World} {mb n m : Nat} {x : Int} (h : TRel w wr mb n 0 m x) (hn : 0 < n) : TRel w (wr.setCell ⟨w.heap.size + 1, 0, none⟩ (.int .i64 x)) mb n 1 m x := by
  obtain ⟨cur, h1, h2, h3⟩ := h.row
  obtain ⟨D, hD⟩ := h.map
  refine ⟨h.below.setCell (by simp) _, ?_, ?_, ⟨cur.setIfInBounds 0 (.int .i64 x), ?_, by simpa using h2, fun hk => ?_⟩, ⟨D, hD.setCell (by have := h.mb; simp; omega) _⟩, h.mb⟩
  · rw [World.cell?_setCell_other _ _ _ _ (by simp)]; exact h.c0
  · rw [World.cell?_setCell_other _ _ _ _ (by simp)]; exact h.c1
  · simp [World.setCell, Array.getElem?_modify, h1]
  · rw [Array.getElem?_setIfInBounds_self_of_lt (by omega)]
theorem TRel.raise {w wr : World} {mb n k m : Nat} {x : Int} (h : TRel w wr mb n k m x) (hk : 0 < k) : TRel w wr mb n (k + 1) m x := by
  obtain ⟨cur, h1, h2, h3⟩ := h.row
  exact ⟨h.below, h.c0, h.c1, ⟨cur, h1, h2, fun _ => h3 hk⟩, h.map, h.mb⟩
theorem TRel.drew {w wr : World} {mb n k m : Nat} {x : Int} (h : TRel w wr mb n k m x) : TRel w wr.drew mb n k m x := ⟨h.below.drew, h.c0, h.c1, h.row, h.map, h.mb⟩
theorem TRel.drewN {w wr : World} {mb n k m : Nat} {x : Int} (h : TRel w wr mb n k m x) (q : Nat) : TRel w (wr.drewN q) mb n k m x := ⟨below_drewN h.below q, h.c0, h.c1, h.row, h.map, h.mb⟩
/-- one element of the queue stored -/
theorem TRel.stored {w wr : World} {mb n k m : Nat} {x x0 : Int} (h : TRel w wr mb n k m x) (hk : k < n) (h0 : k = 0 → x0 = x) (v1 v2 : Value) :
    TRel w (((wr.setCell ⟨w.heap.size + 1, k * 3, none⟩ (.int .i64 x0)).setCell ⟨w.heap.size + 1, k * 3 + 1, none⟩ v1).setCell ⟨w.heap.size + 1, k * 3 + 2, none⟩ v2).drew mb n (k + 1) m x := by
  refine TRel.drew (TRel.set (TRel.set ?_ _ (by omega) _) _ (by omega) _)
  by_cases e : k = 0
  · subst e
    rw [h0 rfl]
    exact h.set0 (by omega)
  · exact (h.set (k * 3) (by omega) _).raise (by omega)

/-- the map's store as one step of a region that draws its order -/
theorem step_mapUpdate {P : Program} {ops : Array Oper} {o : Oper} {a : Act} {w : World} {K' : Act → World → Prop} {Q : Exit → Act → World → Prop} {E : Prop} (hgd : o.guard = none) (m x v : Operand) (t : TypeId) (hop : o.op = Op.mapUpdate t m x v)
    (k e : TypeId) (K : Keyed P k) (ht : P.underlying t = some (.map k e)) (R : Value → Option (DataW Unit × List MemPlace)) (b n : Nat) (D : DataW Unit)
    (hm : a.eval m = .map (some b)) (hown : w.ownsMap P k R b n D) (hn : n < maxLen) (key val : Value) (kl : Lit) (hx : a.eval x = key) (hv : a.eval v = val) (hkey : keyOf P k key = some kl)
    (d : DataW Unit) (ps : List MemPlace) (hval : R val = some (d, ps))
    (hK : ∀ w', w'.ownsMap P k R b (n + 1) (D.put kl d) → w.grownBy w' (some b) → K' (a.put o.dst undef) w') :
    if Region.wanted o (yielded ops a.tmps) = true then Oper.wp P o a w K' Q else E := by
  have hw : Region.wanted o (yielded ops a.tmps) = true := by simp [Region.wanted, hgd]
  rw [if_pos hw]
  obtain ⟨w', hrun, r1, r2⟩ := hown.update K ht hn hkey hval
  unfold Oper.wp
  simp [execOp, hop, hm, hx, hv, hrun, Result.andThen]
  exact hK w' r1 r2

theorem cell_block {w w' : World} {p : Addr} (h : w'.heap[p.block]? = w.heap[p.block]?) : w'.cell? p = w.cell? p := World.cell?_of_block (w := w) h
/-- the map's store -/
theorem TRel.mapped {w W2 w3 : World} {mb n k m : Nat} {x : Int} {D : DataW Unit} (h : TRel w W2 mb n k m x) (hown : w3.ownsMap Try.prog 38 (plainElem Try.prog 3) mb (m + 1) D) (hg : W2.drew.grownBy w3 (some mb)) : TRel w w3 mb n k (m + 1) x := by
  obtain ⟨cur, h1, h2, h3⟩ := h.row
  have hs : w.heap.size + 1 < W2.heap.size := row_lt h1
  have hmb := h.mb
  have e0 : w3.heap[w.heap.size]? = W2.heap[w.heap.size]? := hg.block _ (by show _ < W2.heap.size; omega) (by simp; omega)
  have e1 : w3.heap[w.heap.size + 1]? = W2.heap[w.heap.size + 1]? := hg.block _ (by show _ < W2.heap.size; omega) (by simp; omega)
  refine ⟨h.below.drew.grown hg (by show _ ≤ W2.heap.size; omega) (fun j hj => by cases hj; omega), ?_, ?_, ⟨cur, by rw [e1]; exact h1, h2, h3⟩, ⟨D, hown⟩, hmb⟩
  · rw [cell_block (p := ⟨w.heap.size, 0, none⟩) e0]; exact h.c0
  · rw [cell_block (p := ⟨w.heap.size, 1, none⟩) e0]; exact h.c1

theorem got_mem {zs : List Int} {k : Nat} (h : k < zs.length) : zs.getD k 0 ∈ zs := by
  simp [List.getElem?_eq_getElem h]

theorem TRel.start {w w1 : World} {n : Nat} {xs : List Value} (hown : w1.ownsRow (w.heap.size + 1) 40 3 (.slice (some ⟨w.heap.size + 1, 0, none⟩) n n) n xs) (hg : (w.alloc (.cells #[.slice none 0 0, .map none] 36)).grownBy w1 none) (x : Int) :
    TRel w (((w1.setCell ⟨w.heap.size, 0, none⟩ (.slice (some ⟨w.heap.size + 1, 0, none⟩) n n)).setCell ⟨w.heap.size, 1, none⟩ (.map (some w1.heap.size))).alloc (.map #[] 0)) w1.heap.size n 0 0 x := by
  have hblk : w1.heap[w.heap.size]? = some (.cells #[.slice none 0 0, .map none] 36 (0, 0)) := by
    rw [hg.block w.heap.size (by simp) (by simp)]
    exact alloc_block w _
  obtain ⟨cur, hrow, hsz⟩ : ∃ cur : Array Value, w1.heap[w.heap.size + 1]? = some (.cells cur 40 (0, 0)) ∧ cur.size = n * 3 := by
    obtain ⟨hl, h | ⟨g', cap, cur, hv, hgg, hh, h1, h2, h3, h4⟩⟩ := hown
    · simp at h
    · simp only [Value.slice.injEq, Option.some.injEq, Addr.mk.injEq, and_true] at hv
      obtain ⟨rfl, -, rfl⟩ := hv
      exact ⟨cur, hh, h3⟩
  have hlt : w.heap.size + 1 < w1.heap.size := row_lt hrow
  have hb1 : Below w.heap.size w w1 := ((Below.refl _ _).alloc (Nat.le_refl _) _).grown hg (by simp) (fun k h => by cases h)
  have c0 : w1.cell? ⟨w.heap.size, 0, none⟩ = some (.slice none 0 0) := by simp [World.cell?, hblk]
  have c1 : w1.cell? ⟨w.heap.size, 1, none⟩ = some (.map none) := by simp [World.cell?, hblk]
  refine ⟨((hb1.setCell (p := ⟨w.heap.size, 0, none⟩) (Nat.le_refl _) _).setCell (p := ⟨w.heap.size, 1, none⟩) (Nat.le_refl _) _).alloc (by simp; omega) _, ?_, ?_, ⟨cur, ?_, by omega, fun h => absurd h (Nat.lt_irrefl _)⟩, ⟨.map [], ?_⟩, by omega⟩
  · rw [World.cell?_alloc_past _ _ _ (by simp; omega), World.cell?_setCell_other _ _ _ _ (by simp)]
    exact World.cell?_setCell_same _ _ _ c0
  · rw [World.cell?_alloc_past _ _ _ (by simp; omega)]
    exact World.cell?_setCell_same (u := .map none) _ _ _ (by rw [World.cell?_setCell_other _ _ _ _ (by simp)]; exact c1)
  · rw [Below.heap_alloc _ _ _ (by simp; omega), Below.heap_setCell _ _ _ _ (by simp), Below.heap_setCell _ _ _ _ (by simp)]
    exact hrow
  · have := World.ownsMap_made (H := Unit) ((w1.setCell ⟨w.heap.size, 0, none⟩ (.slice (some ⟨w.heap.size + 1, 0, none⟩) n n)).setCell ⟨w.heap.size, 1, none⟩ (.map (some w1.heap.size))) Try.prog 38 (plainElem Try.prog 3)
    simpa using this

theorem newTimers_none (a0 a1 a2 : Option Addr) (c0 c1 c2 : Nat) (w : World) :
    Calls Try.prog 8 #[.slice a0 0 c0, .slice a1 0 c1, .slice a2 0 c2] w fun e w' => e = .returned (.pointer (some ⟨w.heap.size, 0, none⟩)) ∧ w'.cell? ⟨w.heap.size, 0, none⟩ = some (.slice none 0 0) ∧ Below w.heap.size w w' := by
  go_enter Try.func8, Try.ntmps8
  go_wp2_with fail
  go_ret
  exact ⟨rfl, by rw [World.cell?_alloc_new]; rfl, (Below.refl _ _).alloc (Nat.le_refl _) _⟩

set_option maxHeartbeats 1000000 in
theorem newTimers_some (a0 a1 a2 : Option Addr) (n c0 c1 c2 : Nat) (at' st it : List Int) (w : World) (h0 : HasI .i64 w w.heap.size a0 at') (h1 : HasI .i64 w w.heap.size a1 st) (h2 : HasI .i64 w w.heap.size a2 it)
    (l0 : at'.length = n) (l1 : st.length = n) (l2 : it.length = n) (hn : 0 < n) (hm : n ≤ 4096) (f1 : ∀ z ∈ st, (Lit.int .i64 z).wf = true) (f2 : ∀ z ∈ it, (Lit.int .i64 z).wf = true) :
    Calls Try.prog 8 #[.slice a0 n c0, .slice a1 n c1, .slice a2 n c2] w fun e w' => e = .returned (.pointer (some ⟨w.heap.size, 0, none⟩)) ∧ w'.cell? ⟨w.heap.size, 0, none⟩ = some (.slice (some ⟨w.heap.size + 1, 0, none⟩) n n) ∧ w'.cell? ⟨w.heap.size + 1, 0, none⟩ = some (.int .i64 (at'.getD 0 0)) ∧ Below w.heap.size w w' := by
  obtain ⟨i0, hi, hz0, hz1, hz2⟩ := info_parts info40
  have hmm := fun w => run_makeMap_hint Try.underlying34 .i64 (n : Int) w
  have hne : ((n : Int) == 0) = false := by simp; omega
  have H0 := hid_of h0
  have H1 := hid_of h1
  have H2 := hid_of h2
  have L0 := hid_of l0
  have L1 := hid_of l1
  have L2 := hid_of l2
  have F1 := hid_of f1
  have F2 := hid_of f2
  clear h0 h1 h2 l0 l1 l2 f1 f2
  go_enter Try.func8, Try.ntmps8
  go_wp2_with (at_make; refine wpList_make_full _ rfl _ _ 33 rfl (w.heap.size + 1) 40 i0 (.agg #[.int .i64 0, .int .i64 0, .int .i64 0]) 3 Try.underlying33 hi hz0 hz1 _ _ _ _ n rfl rfl rfl rfl (by rw [hz2]; omega) (by unfold maxLen; omega) (by simp) ?_)
  intro w1 hown hgrow
  have hblk : w1.heap[w.heap.size]? = some (.cells #[.slice none 0 0, .map none] 36 (0, 0)) := by
    rw [hgrow.block w.heap.size (by simp) (by simp)]
    exact alloc_block w _
  have hc0 : w1.cell? ⟨w.heap.size, 0, none⟩ = some (.slice none 0 0) := by simp [World.cell?, hblk]
  have hc1 : w1.cell? ⟨w.heap.size, 1, none⟩ = some (.map none) := by simp [World.cell?, hblk]
  have hz0' : w1.frozen? ⟨w.heap.size, 0, none⟩ = false := by simp [World.frozen?, hblk]
  have hz1' : w1.frozen? ⟨w.heap.size, 1, none⟩ = false := by simp [World.frozen?, hblk]
  have hlt : w.heap.size < w1.heap.size := row_lt hblk
  clear hblk
  have HO := hid_of hown
  have HG := hid_of hgrow
  clear hown hgrow
  go_wp2_with fail
  go_loopw [29] (fun i wr => ∃ k : Nat, i = .int .i64 k ∧ k ≤ n ∧ TRel w wr w1.heap.size n k k (at'.getD 0 0)) (fun i _ => n - (intOf i).toNat)
  case atStart =>
    exact ⟨0, rfl, by omega, TRel.start HO.out HG.out _⟩
  case round =>
    obtain ⟨k, rfl, hk, hR⟩ := hrel
    have HR := hid_of hR
    clear hR hc0 hc1 hz0' hz1' HO HG hmm
    by_cases hlt' : k < n
    · obtain ⟨b0, o0, e0, hb0, hv0⟩ := H0.out (by rw [L0.out]; omega)
      obtain ⟨b1, o1, e1, hb1, hv1⟩ := H1.out (by rw [L1.out]; omega)
      obtain ⟨b2, o2, e2, hb2, hv2⟩ := H2.out (by rw [L2.out]; omega)
      subst e0 e1 e2
      have hx0 : wr.cell? ⟨b0, o0 + k, none⟩ = some (.int .i64 (at'.getD k 0)) := by rw [HR.out.below.cell (p := ⟨b0, o0 + k, none⟩) hb0]; exact hv0 k (by rw [L0.out]; exact hlt')
      have hx1 : wr.cell? ⟨b1, o1 + k, none⟩ = some (.int .i64 (st.getD k 0)) := by rw [HR.out.below.cell (p := ⟨b1, o1 + k, none⟩) hb1]; exact hv1 k (by rw [L1.out]; exact hlt')
      have hx2 : wr.cell? ⟨b2, o2 + k, none⟩ = some (.int .i64 (it.getD k 0)) := by rw [HR.out.below.cell (p := ⟨b2, o2 + k, none⟩) hb2]; exact hv2 k (by rw [L2.out]; exact hlt')
      obtain ⟨x0, ex0⟩ : ∃ x, x = at'.getD k 0 := ⟨_, rfl⟩
      obtain ⟨x1, ex1⟩ : ∃ x, x = st.getD k 0 := ⟨_, rfl⟩
      obtain ⟨x2, ex2⟩ : ∃ x, x = it.getD k 0 := ⟨_, rfl⟩
      rw [← ex0] at hx0
      rw [← ex1] at hx1
      rw [← ex2] at hx2
      have X0 := hid_of ex0
      have X1 := hid_of ex1
      have X2 := hid_of ex2
      have V1 : Hid (w.cell? ⟨b1, o1 + k, none⟩ = some (.int .i64 x1)) := by show _ = _; rw [ex1]; exact hv1 k (by rw [L1.out]; exact hlt')
      have V2 : Hid (w.cell? ⟨b2, o2 + k, none⟩ = some (.int .i64 x2)) := by show _ = _; rw [ex2]; exact hv2 k (by rw [L2.out]; exact hlt')
      have wf1 : (Lit.int .i64 x1).wf = true := by rw [ex1]; exact F1.out _ (got_mem (by rw [L1.out]; exact hlt'))
      have wf2 : (Lit.int .i64 x2).wf = true := by rw [ex2]; exact F2.out _ (got_mem (by rw [L2.out]; exact hlt'))
      obtain ⟨kl, hkl⟩ := key38 x1 x2 w wf1 wf2
      have KL := hid_of hkl
      clear hv0 hv1 hv2 ex0 ex1 ex2 wf1 wf2 hkl
      have ht0 := HR.out.c0
      have ht1 := HR.out.c1
      obtain ⟨y0, hy0, hf0⟩ := HR.out.q (k * 3) (by omega)
      obtain ⟨y1, hy1, hf1⟩ := HR.out.q (k * 3 + 1) (by omega)
      obtain ⟨y2, hy2, hf2⟩ := HR.out.q (k * 3 + 2) (by omega)
      have hn0 : w.heap.size + 1 ≠ b0 := by omega
      have hn1 : w.heap.size + 1 ≠ b1 := by omega
      have hn2 : w.heap.size + 1 ≠ b2 := by omega
      have hki : (k : Int) < (n : Int) := by omega
      have hki0 : (0 : Int) ≤ (k : Int) := by omega
      go_wp2_with fail
      go_region_held3 (fun w' => w'.cell? ⟨w.heap.size, 0, none⟩ = some (.slice (some ⟨w.heap.size + 1, 0, none⟩) n n) ∧ w'.cell? ⟨b0, o0 + k, none⟩ = some (.int .i64 x0) ∧ w'.cell? ⟨b1, o1 + k, none⟩ = some (.int .i64 x1) ∧ w'.cell? ⟨b2, o2 + k, none⟩ = some (.int .i64 x2)) (go_keep) (fail)
      have HT2 := HR.out.stored hlt' (x0 := x0) (fun e => by rw [X0.out, e]) (.int .i64 x1) (.int .i64 x2)
      go_wp2_with fail
      generalize (((wr.setCell ⟨w.heap.size + 1, k * 3, none⟩ (.int .i64 x0)).setCell ⟨w.heap.size + 1, k * 3 + 1, none⟩ (.int .i64 x1)).setCell ⟨w.heap.size + 1, k * 3 + 2, none⟩ (.int .i64 x2)).drew = W2 at HT2 ⊢
      have HT := hid_of HT2
      obtain ⟨D, hD⟩ := HT2.map
      have HD := hid_of hD.drew
      have hm1 := HT2.c1
      have hw1 : W2.cell? ⟨b1, o1 + k, none⟩ = some (.int .i64 x1) := (HT2.below.cell (p := ⟨b1, o1 + k, none⟩) hb1).trans V1.out
      have hw2 : W2.cell? ⟨b2, o2 + k, none⟩ = some (.int .i64 x2) := (HT2.below.cell (p := ⟨b2, o2 + k, none⟩) hb2).trans V2.out
      clear HT2 hD hx0 hx1 hx2 ht0 ht1 hy0 hy1 hy2 hf0 hf1 hf2 HR
      obtain ⟨w3, hrun, hown3, hgrow3⟩ := HD.out.update law38 Try.underlying34 (by unfold maxLen; omega) KL.out (plainElem_int (a := (k : Int)) Try.underlying3 (WalkArith.wf_i64 (by omega)))
      have HT3 := hid_of (HT.out.mapped hown3 hgrow3)
      have hs1 := HT3.out.c1
      have hs2 : w3.cell? ⟨b1, o1 + k, none⟩ = some (.int .i64 x1) := (HT3.out.below.cell (p := ⟨b1, o1 + k, none⟩) hb1).trans V1.out
      have hs3 : w3.cell? ⟨b2, o2 + k, none⟩ = some (.int .i64 x2) := (HT3.out.below.cell (p := ⟨b2, o2 + k, none⟩) hb2).trans V2.out
      clear hown3 hgrow3
      go_region_held3 (fun w' => w'.cell? ⟨w.heap.size, 1, none⟩ = some (.map (some w1.heap.size)) ∧ w'.cell? ⟨b1, o1 + k, none⟩ = some (.int .i64 x1) ∧ w'.cell? ⟨b2, o2 + k, none⟩ = some (.int .i64 x2)) (go_keep) (fail)
      go_wp2_with fail
      go_roundw
      case rel => exact ⟨k + 1, by go_num, by omega, HT3.out⟩
      case measure => simp [intOf]; omega
    · have hkn : k = n := by omega
      have HR' : Hid (TRel w wr w1.heap.size n n n (at'.getD 0 0)) := by have := HR.out; rw [hkn] at this; exact this
      clear hkn HR
      go_wp2_with fail
      go_ret
      obtain ⟨cur, h1, h2, h3⟩ := HR'.out.row
      exact ⟨rfl, HR'.out.c0, by simp [World.cell?, h1, h3 hn], HR'.out.below⟩

end Go.Proofs.Qxb6608893a
