import Derived.Test.Qxb6608735aS5D
import Derived.Deep.RegionHeld3
namespace Go.Proofs.Qxb6608735a
open Go.RowKit Go.Maps Go.WideMaps Go.Joins
set_option linter.unusedVariables false

theorem info93 : (Try.prog.info? 93).map (fun i => (i.zero, i.size, i.bytes)) = some (some (.agg #[.int .i32 0, .int .i32 0]), 2, 8) := by kernel_rfl
theorem info96 : (Try.prog.info? 96).map (fun i => (i.zero, i.size, i.bytes)) = some (some (.agg #[.int .i64 0, .int .i32 0, .int .i32 0]), 3, 16) := by kernel_rfl

def heldF (hp ho : List Int) (i : Nat) : Value := if i % 2 = 0 then .int .i32 (hp.getD (i / 2) 0) else .int .i32 (ho.getD (i / 2) 0)
theorem heldF0 (hp ho : List Int) (k : Nat) {x : Int} (h : x = hp.getD k 0) : Value.int .i32 x = heldF hp ho (k * 2) := by
  rw [heldF, if_pos (by omega), show k * 2 / 2 = k from by omega, h]
theorem heldF1 (hp ho : List Int) (k : Nat) {x : Int} (h : x = ho.getD k 0) : Value.int .i32 x = heldF hp ho (k * 2 + 1) := by
  rw [heldF, if_neg (by omega), show (k * 2 + 1) / 2 = k from by omega, h]
def appF (lo hi : List Int) (i : Nat) : Value := if i % 3 = 0 then .int .i64 0 else if i % 3 = 1 then .int .i32 (lo.getD (i / 3) 0) else .int .i32 (hi.getD (i / 3) 0)
theorem appF0 (lo hi : List Int) (k : Nat) : Value.int .i64 0 = appF lo hi (k * 3) := by
  rw [appF, if_pos (by omega)]
theorem appF1 (lo hi : List Int) (k : Nat) {x : Int} (h : x = lo.getD k 0) : Value.int .i32 x = appF lo hi (k * 3 + 1) := by
  rw [appF, if_neg (by omega), if_pos (by omega), show (k * 3 + 1) / 3 = k from by omega, h]
theorem appF2 (lo hi : List Int) (k : Nat) {x : Int} (h : x = hi.getD k 0) : Value.int .i32 x = appF lo hi (k * 3 + 2) := by
  rw [appF, if_neg (by omega), if_neg (by omega), show (k * 3 + 2) / 3 = k from by omega, h]
theorem Filled.below {w w' : World} {g n k B : Nat} {f : Nat → Value} {e : TypeId} (h : Filled w g n k f e) (hb : Below B w w') (hg : g < B) : Filled w' g n k f e := by
  obtain ⟨L, h1, h2, h3⟩ := h
  exact ⟨L, by rw [hb.block g hg]; exact h1, h2, h3⟩

theorem heap_last {wr : World} (o1 o2 o3 : Obj) (p : Addr) (u : Value) {k : Nat} (hk : k < wr.heap.size) (hne : k ≠ p.block) : ((((wr.alloc o1).alloc o2).alloc o3).setCell p u).heap[k]? = wr.heap[k]? := by
  rw [Below.heap_setCell _ _ _ _ hne, Below.heap_alloc _ _ _ (by simp; omega), Below.heap_alloc _ _ _ (by simp; omega), Below.heap_alloc _ _ _ hk]
theorem Filled.last {wr : World} {g n k : Nat} {f : Nat → Value} {e : TypeId} (h : Filled wr g n k f e) (o1 o2 o3 : Obj) (p : Addr) (u : Value) (hne : g ≠ p.block) : Filled ((((wr.alloc o1).alloc o2).alloc o3).setCell p u) g n k f e := by
  have hlt := h.lt
  obtain ⟨L, h1, h2, h3⟩ := h
  exact ⟨L, by rw [heap_last _ _ _ _ _ hlt hne]; exact h1, h2, h3⟩

def HL1 (w0 : World) (g n : Nat) (hp ho : List Int) (i : Value) (wr : World) : Prop :=
  ∃ k : Nat, i = .int .i64 k ∧ k ≤ n ∧ Filled wr g (n * 2) (k * 2) (heldF hp ho) 93 ∧ Below w0.heap.size w0 wr
def HL2 (w0 : World) (g n : Nat) (lo hi : List Int) (i : Value) (wr : World) : Prop :=
  ∃ k : Nat, i = .int .i64 k ∧ k ≤ n ∧ Filled wr g (n * 3) (k * 3) (appF lo hi) 96 ∧ Below w0.heap.size w0 wr

/-- a holding as ZZnewHolding makes it -/
structure HoldC (w : World) (B hb : Nat) (av : Value) (hp ho lo hi lk : List Int) (os : List ByteArray) : Prop where
  lt : hb < B
  ex : ∃ nb cb gh ga oa oc la lc, nb < B ∧ cb < B ∧ gh < B ∧ ga < B ∧ w.cell? ⟨hb, 0, none⟩ = some (.pointer (some ⟨nb, 0, none⟩)) ∧ w.cell? ⟨hb, 1, none⟩ = some (.slice (some ⟨gh, 0, none⟩) hp.length hp.length) ∧
    w.cell? ⟨hb, 2, none⟩ = some (.pointer none) ∧ w.cell? ⟨hb, 3, none⟩ = some (.pointer (some ⟨cb, 0, none⟩)) ∧ w.cell? ⟨hb, 4, none⟩ = some (.slice oa os.length oc) ∧ HasN w B oa os ∧
    w.cell? ⟨nb, 0, none⟩ = some av ∧ w.cell? ⟨cb, 0, none⟩ = some (.slice (some ⟨ga, 0, none⟩) lo.length lo.length) ∧ w.cell? ⟨cb, 1, none⟩ = some (.slice la lk.length lc) ∧ HasI .i64 w B la lk ∧
    Filled w gh (hp.length * 2) (hp.length * 2) (heldF hp ho) 93 ∧ Filled w ga (lo.length * 3) (lo.length * 3) (appF lo hi) 96 ∧ lk.length ≤ lc ∧ lc ≤ 4096

theorem HoldC.below {w w' : World} {B B' hb : Nat} {av : Value} {hp ho lo hi lk : List Int} {os : List ByteArray} (h : HoldC w B hb av hp ho lo hi lk os) (hb' : Below B' w w') (hB : B ≤ B') : HoldC w' B hb av hp ho lo hi lk os := by
  have hlt := h.lt
  obtain ⟨nb, cb, gh, ga, oa, oc, la, lc, k1, k2, k3, k4, e0, e1, e2, e3, e4, hN, f0, g0, g1, hI, F1, F2, c1, c2⟩ := h.ex
  refine ⟨hlt, nb, cb, gh, ga, oa, oc, la, lc, k1, k2, k3, k4, ?_, ?_, ?_, ?_, ?_, hN.below hb' hB, ?_, ?_, ?_, hI.below hb' hB, F1.below hb' (by omega), F2.below hb' (by omega), c1, c2⟩
  · rw [hb'.cell (p := ⟨hb, 0, none⟩) (by show hb < _; omega)]; exact e0
  · rw [hb'.cell (p := ⟨hb, 1, none⟩) (by show hb < _; omega)]; exact e1
  · rw [hb'.cell (p := ⟨hb, 2, none⟩) (by show hb < _; omega)]; exact e2
  · rw [hb'.cell (p := ⟨hb, 3, none⟩) (by show hb < _; omega)]; exact e3
  · rw [hb'.cell (p := ⟨hb, 4, none⟩) (by show hb < _; omega)]; exact e4
  · rw [hb'.cell (p := ⟨nb, 0, none⟩) (by show nb < _; omega)]; exact f0
  · rw [hb'.cell (p := ⟨cb, 0, none⟩) (by show cb < _; omega)]; exact g0
  · rw [hb'.cell (p := ⟨cb, 1, none⟩) (by show cb < _; omega)]; exact g1
theorem HoldC.mono {w : World} {B B' hb : Nat} {av : Value} {hp ho lo hi lk : List Int} {os : List ByteArray} (h : HoldC w B hb av hp ho lo hi lk os) (hB : B ≤ B') : HoldC w B' hb av hp ho lo hi lk os := by
  have hlt := h.lt
  obtain ⟨nb, cb, gh, ga, oa, oc, la, lc, k1, k2, k3, k4, e0, e1, e2, e3, e4, hN, f0, g0, g1, hI, F1, F2, c1, c2⟩ := h.ex
  exact ⟨by omega, nb, cb, gh, ga, oa, oc, la, lc, by omega, by omega, by omega, by omega, e0, e1, e2, e3, e4, hN.mono hB, f0, g0, g1, hI.mono hB, F1, F2, c1, c2⟩
theorem HoldC.drewN {w : World} {B hb : Nat} {av : Value} {hp ho lo hi lk : List Int} {os : List ByteArray} (h : HoldC w B hb av hp ho lo hi lk os) (q : Nat) : HoldC (w.drewN q) B hb av hp ho lo hi lk os := ⟨h.lt, h.ex⟩

set_option maxRecDepth 20000 in
set_option maxHeartbeats 2000000 in
theorem newHolding_full (ab : Nat) (a1 a2 a3 a4 a5 a6 a7 : Option Addr) (n1 c1 n2 c2 c3 n4 c4 c5 n6 c6 n7 c7 B : Nat) (hp ho lo hi lk : List Int) (os : List ByteArray) (w : World)
    (h2 : HasI .i32 w B a2 hp) (h3 : HasI .i32 w B a3 ho) (h4 : HasI .i32 w B a4 lo) (h5 : HasI .i32 w B a5 hi) (h6 : HasI .i64 w B a6 lk) (h7 : HasN w B a7 os) (hB : B ≤ w.heap.size)
    (l2 : hp.length = n2) (l3 : ho.length = n2) (l4 : lo.length = n4) (l5 : hi.length = n4) (l6 : lk.length = n6) (l7 : os.length = n7) (m2 : n2 ≤ 4096) (m4 : n4 ≤ 4096) (m6 : n6 ≤ c6) (m6' : c6 ≤ 4096) :
    Calls Try.prog 26 #[.pointer (some ⟨ab, 0, none⟩), .slice a1 n1 c1, .slice a2 n2 c2, .slice a3 n2 c3, .slice a4 n4 c4, .slice a5 n4 c5, .slice a6 n6 c6, .slice a7 n7 c7] w fun e w' =>
      ∃ hb, e = .returned (.agg #[.pointer (some ⟨hb, 0, none⟩)]) ∧ Below w.heap.size w w' ∧ HoldC w' w'.heap.size hb (.pointer (some ⟨ab, 0, none⟩)) hp ho lo hi lk os := by
  obtain ⟨i0, i1, iz0, iz1, iz2⟩ := info_parts info93
  obtain ⟨j0, j1, jz0, jz1, jz2⟩ := info_parts info96
  have H2 := hid_of h2
  have H3 := hid_of h3
  have H4 := hid_of h4
  have H5 := hid_of h5
  have H6 := hid_of h6
  have H7 := hid_of h7
  have L2 := hid_of l2
  have L3 := hid_of l3
  have L4 := hid_of l4
  have L5 := hid_of l5
  have L6 := hid_of l6
  have L7 := hid_of l7
  have M6 := hid_of m6
  have M7 := hid_of m6'
  clear h2 h3 h4 h5 h6 h7 l2 l3 l4 l5 l6 l7 m6 m6'
  go_enter Try.func26, Try.ntmps26
  go_wp2_with (at_make; refine wpList_make_full _ rfl _ _ 85 rfl (w.heap.size + 1) 93 i0 (.agg #[.int .i32 0, .int .i32 0]) 2 Try.underlying85 i1 iz0 iz1 _ _ _ _ n2 rfl rfl rfl rfl (by rw [iz2]; omega) (by unfold maxLen; omega) (by simp) ?_)
  intro w1 hown hgrow
  obtain ⟨w0, hw0⟩ : ∃ w0, w0 = w.alloc (.cells #[.pointer none] 32) := ⟨_, rfl⟩
  rw [← hw0] at hgrow
  have s0 : w0.heap.size = w.heap.size + 1 := by rw [hw0]; simp
  have S0 := hid_of s0
  have B0 : Hid (Below w.heap.size w w0) := by rw [hw0]; exact (Below.refl _ _).alloc (Nat.le_refl _) _
  have R0 : Hid (w0.cell? ⟨w.heap.size, 0, none⟩ = some (.pointer none) ∧ w0.frozen? ⟨w.heap.size, 0, none⟩ = false) := by rw [hw0]; constructor <;> simp [go_sem]
  have HF := hid_of (Filled.madeN (heldF hp ho) hown)
  have HB1 := hid_of ((Below.refl _ _).grown hgrow (Nat.le_refl _) (fun k h => by cases h) : Below w0.heap.size w0 w1)
  clear hown hgrow hw0 s0
  go_wp2_with fail
  go_loopw [26] (fun i wr => HL1 w0 (w.heap.size + 1) n2 hp ho i wr) (fun i _ => n2 - (intOf i).toNat)
  case atStart => exact ⟨0, rfl, by omega, HF.out, HB1.out⟩
  case round =>
    obtain ⟨k, rfl, hk, hf, hb⟩ := hrel
    have HF2 := hid_of hf
    have HB2 := hid_of hb
    clear hf hb HF HB1
    by_cases hlt : k < n2
    · obtain ⟨b2, o2, rfl, hbB2, hc2⟩ := H2.out (by rw [L2.out]; omega)
      obtain ⟨b3, o3, rfl, hbB3, hc3⟩ := H3.out (by rw [L3.out]; omega)
      have hx : wr.cell? ⟨b2, o2 + k, none⟩ = some (.int .i32 (hp.getD k 0)) := by
        rw [HB2.out.cell (p := ⟨b2, o2 + k, none⟩) (by have := S0.out; show b2 < _; omega), B0.out.cell (p := ⟨b2, o2 + k, none⟩) (by show b2 < _; omega)]
        exact hc2 k (by rw [L2.out]; omega)
      have hy : wr.cell? ⟨b3, o3 + k, none⟩ = some (.int .i32 (ho.getD k 0)) := by
        rw [HB2.out.cell (p := ⟨b3, o3 + k, none⟩) (by have := S0.out; show b3 < _; omega), B0.out.cell (p := ⟨b3, o3 + k, none⟩) (by show b3 < _; omega)]
        exact hc3 k (by rw [L3.out]; omega)
      obtain ⟨x, ex⟩ : ∃ x, x = hp.getD k 0 := ⟨_, rfl⟩
      obtain ⟨y, ey⟩ : ∃ y, y = ho.getD k 0 := ⟨_, rfl⟩
      rw [← ex] at hx
      rw [← ey] at hy
      have X := hid_of ex
      have Y := hid_of ey
      clear hc2 hc3 ex ey
      obtain ⟨v, hv⟩ := HF2.out.cell (j := k * 2) (by omega)
      obtain ⟨v1, hv1⟩ := HF2.out.cell (j := k * 2 + 1) (by omega)
      have hfz := HF2.out.frozen (k * 2)
      have hfz1 := HF2.out.frozen (k * 2 + 1)
      have hn2 : w.heap.size + 1 ≠ b2 := by omega
      have hn3 : w.heap.size + 1 ≠ b3 := by omega
      have hki : (k : Int) < (n2 : Int) := by omega
      have hki0 : (0 : Int) ≤ (k : Int) := by omega
      go_wp2_with fail
      go_region_held3 (fun w' => w'.cell? ⟨b2, o2 + k, none⟩ = some (.int .i32 x) ∧ w'.cell? ⟨b3, o3 + k, none⟩ = some (.int .i32 y)) (go_keep) (fail)
      go_wp2_with fail
      go_roundw
      case rel =>
        have s1 := HF2.out.step (by omega) (heldF0 hp ho k X.out)
        have s2 := s1.step (by omega) (heldF1 hp ho k Y.out)
        refine ⟨k + 1, by go_num, by omega, ?_, ?_⟩
        · rw [show (k + 1) * 2 = k * 2 + 1 + 1 from by omega]
          exact s2
        · exact ((HB2.out.setCell (p := ⟨w.heap.size + 1, k * 2, none⟩) (Nat.le_of_eq S0.out) _).setCell (p := ⟨w.heap.size + 1, k * 2 + 1, none⟩) (Nat.le_of_eq S0.out) _).drew
      case measure => simp [intOf]; omega
    · obtain rfl : k = n2 := by omega
      go_wp2_with (at_make; refine wpList_make_full _ rfl _ _ 94 rfl wr.heap.size 96 j0 (.agg #[.int .i64 0, .int .i32 0, .int .i32 0]) 3 Try.underlying94 j1 jz0 jz1 _ _ _ _ n4 rfl rfl rfl rfl (by rw [jz2]; omega) (by unfold maxLen; omega) (Nat.le_refl _) ?_)
      rename World => wA
      intro wM hown hgrow
      have HG := hid_of (Filled.madeN (appF lo hi) hown)
      have HB3 := hid_of ((Below.refl _ _).grown hgrow (Nat.le_refl _) (fun k h => by cases h) : Below wA.heap.size wA wM)
      clear hown hgrow hlt hk
      go_wp2_with fail
      go_loopw [47] (fun i wr => HL2 wA wA.heap.size n4 lo hi i wr) (fun i _ => n4 - (intOf i).toNat)
      case atStart => exact ⟨0, rfl, by omega, HG.out, HB3.out⟩
      case round =>
        obtain ⟨j, rfl, hj, hf, hb⟩ := hrel
        have HG2 := hid_of hf
        have HB4 := hid_of hb
        have SA := hid_of HB2.out.size
        clear hf hb HG HB3
        by_cases hlt : j < n4
        · obtain ⟨b4, o4, rfl, hbB4, hc4⟩ := H4.out (by rw [L4.out]; omega)
          obtain ⟨b5, o5, rfl, hbB5, hc5⟩ := H5.out (by rw [L5.out]; omega)
          have e4 : b4 < wA.heap.size := by have := S0.out; have := SA.out; omega
          have e5 : b5 < wA.heap.size := by have := S0.out; have := SA.out; omega
          have hx : wr.cell? ⟨b4, o4 + j, none⟩ = some (.int .i32 (lo.getD j 0)) := by
            rw [HB4.out.cell (p := ⟨b4, o4 + j, none⟩) e4, HB2.out.cell (p := ⟨b4, o4 + j, none⟩) (by have := S0.out; show b4 < _; omega), B0.out.cell (p := ⟨b4, o4 + j, none⟩) (by show b4 < _; omega)]
            exact hc4 j (by rw [L4.out]; omega)
          have hy : wr.cell? ⟨b5, o5 + j, none⟩ = some (.int .i32 (hi.getD j 0)) := by
            rw [HB4.out.cell (p := ⟨b5, o5 + j, none⟩) e5, HB2.out.cell (p := ⟨b5, o5 + j, none⟩) (by have := S0.out; show b5 < _; omega), B0.out.cell (p := ⟨b5, o5 + j, none⟩) (by show b5 < _; omega)]
            exact hc5 j (by rw [L5.out]; omega)
          obtain ⟨x, ex⟩ : ∃ x, x = lo.getD j 0 := ⟨_, rfl⟩
          obtain ⟨y, ey⟩ : ∃ y, y = hi.getD j 0 := ⟨_, rfl⟩
          rw [← ex] at hx
          rw [← ey] at hy
          have X := hid_of ex
          have Y := hid_of ey
          clear hc4 hc5 ex ey
          obtain ⟨v, hv⟩ := HG2.out.cell (j := j * 3) (by omega)
          obtain ⟨v1, hv1⟩ := HG2.out.cell (j := j * 3 + 1) (by omega)
          obtain ⟨v2, hv2⟩ := HG2.out.cell (j := j * 3 + 2) (by omega)
          have hfz := HG2.out.frozen (j * 3)
          have hfz1 := HG2.out.frozen (j * 3 + 1)
          have hfz2 := HG2.out.frozen (j * 3 + 2)
          have hn4 : wA.heap.size ≠ b4 := by omega
          have hn5 : wA.heap.size ≠ b5 := by omega
          have hki : (j : Int) < (n4 : Int) := by omega
          have hki0 : (0 : Int) ≤ (j : Int) := by omega
          go_wp2_with fail
          go_region_held3 (fun w' => w'.cell? ⟨b4, o4 + j, none⟩ = some (.int .i32 x) ∧ w'.cell? ⟨b5, o5 + j, none⟩ = some (.int .i32 y)) (go_keep) (fail)
          go_wp2_with fail
          go_roundw
          case rel =>
            have s1 := HG2.out.step (by omega) (appF0 lo hi j)
            have s2 := s1.step (by omega) (appF1 lo hi j X.out)
            have s3 := s2.step (by omega) (appF2 lo hi j Y.out)
            refine ⟨j + 1, by go_num, by omega, ?_, ?_⟩
            · rw [show (j + 1) * 3 = j * 3 + 1 + 1 + 1 from by omega]
              exact s3
            · exact (((HB4.out.setCell (p := ⟨wA.heap.size, j * 3, none⟩) (Nat.le_refl _) _).setCell (p := ⟨wA.heap.size, j * 3 + 1, none⟩) (Nat.le_refl _) _).setCell (p := ⟨wA.heap.size, j * 3 + 2, none⟩) (Nat.le_refl _) _).drew
          case measure => simp [intOf]; omega
        · obtain rfl : j = n4 := by omega
          have SR := hid_of HB4.out.size
          have hrc : wr.cell? ⟨w.heap.size, 0, none⟩ = some (.pointer none) := by
            rw [HB4.out.cell (p := ⟨w.heap.size, 0, none⟩) (by have := S0.out; have := SA.out; show w.heap.size < _; omega), HB2.out.cell (p := ⟨w.heap.size, 0, none⟩) (by have := S0.out; show w.heap.size < _; omega)]
            exact R0.out.1
          have hrf : wr.frozen? ⟨w.heap.size, 0, none⟩ = false := by
            rw [HB4.out.frozen (p := ⟨w.heap.size, 0, none⟩) (by have := S0.out; have := SA.out; show w.heap.size < _; omega), HB2.out.frozen (p := ⟨w.heap.size, 0, none⟩) (by have := S0.out; show w.heap.size < _; omega)]
            exact R0.out.2
          have hlw : w.heap.size < wr.heap.size := by have := S0.out; have := SA.out; have := SR.out; omega
          have q1 : wr.heap.size ≠ w.heap.size := by omega
          have q2 : wr.heap.size + 1 ≠ w.heap.size := by omega
          have q3 : wr.heap.size + 1 + 1 ≠ w.heap.size := by omega
          have q4 : w.heap.size ≠ wr.heap.size := by omega
          have q5 : w.heap.size ≠ wr.heap.size + 1 := by omega
          have q6 : w.heap.size ≠ wr.heap.size + 1 + 1 := by omega
          have c1 : ∀ o1 o2 o3, (((wr.alloc o1).alloc o2).alloc o3).cell? ⟨w.heap.size, 0, none⟩ = some (.pointer none) := fun o1 o2 o3 => by
            rw [← hrc]
            exact ((((Below.refl wr.heap.size wr).alloc (Nat.le_refl _) o1).alloc (by simp) o2).alloc (by simp; omega) o3).cell (p := ⟨w.heap.size, 0, none⟩) hlw
          have c2 : ∀ o1 o2 o3, (((wr.alloc o1).alloc o2).alloc o3).frozen? ⟨w.heap.size, 0, none⟩ = false := fun o1 o2 o3 => by
            rw [← hrf]
            exact ((((Below.refl wr.heap.size wr).alloc (Nat.le_refl _) o1).alloc (by simp) o2).alloc (by simp; omega) o3).frozen (p := ⟨w.heap.size, 0, none⟩) hlw
          have hbel : ∀ o1 o2 o3 u, Below w.heap.size w ((((wr.alloc o1).alloc o2).alloc o3).setCell ⟨w.heap.size, 0, none⟩ u) := fun o1 o2 o3 u => by
            have hb1 : Below w.heap.size w wr := (B0.out.trans (HB2.out.mono (by have := S0.out; omega))).trans (HB4.out.mono (by have := S0.out; have := SA.out; omega))
            exact (((hb1.alloc (by omega) o1).alloc (by simp; omega) o2).alloc (by simp; omega) o3).setCell (p := ⟨w.heap.size, 0, none⟩) (Nat.le_refl _) u
          have HBel := hid_of hbel
          have HLW := hid_of hlw
          have c3 : ∀ o1 o2 o3 u, ((((wr.alloc o1).alloc o2).alloc o3).setCell ⟨w.heap.size, 0, none⟩ u).cell? ⟨w.heap.size, 0, none⟩ = some u := fun o1 o2 o3 u => World.cell?_setCell_same _ _ _ (c1 o1 o2 o3)
          have C3 := hid_of c3
          clear c3
          clear hlw hbel
          go_wp2_with fail
          refine bodyPost_ret (v := .agg #[.pointer (some ⟨wr.heap.size + 1 + 1, 0, none⟩)]) (by simp [results, Try.results26, go_sem, C3.out]) rfl ⟨_, rfl, HBel.out _ _ _ _, ?_⟩
          refine ⟨by simp, wr.heap.size, wr.heap.size + 1, w.heap.size + 1, wA.heap.size, a7, c7, a6, c6, by simp; omega, by simp, by have := HLW.out; simp; omega, by have := SR.out; simp; omega, ?_, ?_, ?_, ?_, ?_, (H7.out.below (HBel.out _ _ _ _) hB).mono (by have := HLW.out; simp; omega), ?_, ?_, ?_, (H6.out.below (HBel.out _ _ _ _) hB).mono (by have := HLW.out; simp; omega), ?_, ?_, by rw [L6.out]; exact M6.out, M7.out⟩
          · simp [go_sem]
          · simp [go_sem, L2.out]
          · simp [go_sem]
          · simp [go_sem]
          · simp [go_sem, L7.out]
          · simp [go_sem]
          · simp [go_sem, L4.out]
          · simp [go_sem, L6.out]
          · rw [L2.out]
            exact (HF2.out.below HB4.out HF2.out.lt).last _ _ _ _ _ (by simp)
          · rw [L4.out]
            exact HG2.out.last _ _ _ _ _ (by have := S0.out; have := SA.out; show wA.heap.size ≠ w.heap.size; omega)

end Go.Proofs.Qxb6608735a
