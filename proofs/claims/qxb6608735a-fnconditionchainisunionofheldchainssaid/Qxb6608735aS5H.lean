import Derived.Test.Qxb6608735aS5G
namespace Go.Proofs.Qxb6608735a
open Go.RowKit Go.Maps Go.WideMaps Go.Joins
set_option linter.unusedVariables false

theorem newCondition_any (a0 a2 a3 : Option Addr) (ab n0 c0 n2 c2 n3 c3 : Nat) (w : World) :
    Calls Try.prog 30 #[.slice a0 n0 c0, .pointer (some ⟨ab, 0, none⟩), .slice a2 n2 c2, .slice a3 n3 c3] w fun e w' =>
      e = .returned (.agg #[.slice a0 n0 c0, .pointer (some ⟨ab, 0, none⟩), .slice a2 n2 c2, .slice a3 n3 c3]) ∧ Below w.heap.size w w' := by
  go_enter Try.func30, Try.ntmps30
  go_wp2_with fail
  refine bodyPost_ret (v := .agg #[.slice a0 n0 c0, .pointer (some ⟨ab, 0, none⟩), .slice a2 n2 c2, .slice a3 n3 c3]) (by simp [results, Try.results30, go_sem]) rfl ⟨rfl, ?_⟩
  exact (Below.refl _ _).alloc (Nat.le_refl _) _

/-- what a chain reads -/
def chainL (lo hi lk : List Int) (j : Nat) : List Int := (lk.drop (lo.getD j 0).toNat).take ((hi.getD j 0).toNat - (lo.getD j 0).toNat)

/-- a slice of keys below B, and where it was made the rest is as it was -/
def ChainB (zs : List Int) (B : Nat) (w : World) (e : Ending) (w' : World) : Prop :=
  ∃ a n c, e = .returned (.slice a n c) ∧ n = zs.length ∧ n ≤ c ∧ c ≤ 8192 ∧ HasI .i64 w' B a zs ∧ Below w.heap.size w w'
theorem hasI_cut {w : World} {B : Nat} {a : Option Addr} {zs : List Int} (h : HasI .i64 w B a zs) (l m : Nat) : HasI .i64 w B (a.map (fun x => x.add l)) ((zs.drop l).take m) := by
  intro h0
  simp only [List.length_take, List.length_drop] at h0
  obtain ⟨b, off, rfl, hb, hc⟩ := h (by omega)
  refine ⟨b, off + l, by simp [Addr.add_lit], hb, fun i hi => ?_⟩
  simp only [List.length_take, List.length_drop] at hi
  rw [Nat.add_assoc, hc (l + i) (by omega)]
  simp [List.getD, List.getElem?_take_of_lt (show i < m by omega)]

set_option maxRecDepth 20000 in
set_option maxHeartbeats 1000000 in
theorem chainOf_any (hb B : Nat) (av : Value) (hp ho lo hi lk : List Int) (os : List ByteArray) (j : Nat) (w : World) (hh : HoldC w B hb av hp ho lo hi lk os) (hB : B ≤ w.heap.size) (hj : j < lo.length) (hc : ChainOk lk lo hi j) (hm : lk.length ≤ 4096) (hm2 : lo.length ≤ 4096) :
    Calls Try.prog 53 #[.pointer (some ⟨hb, 0, none⟩), .int .i32 j] w fun e w' => ChainB (chainL lo hi lk j) B w e w' := by
  obtain ⟨nb, cb, gh, ga, oa, oc, la, lc, k1, k2, k3, k4, e0, e1, e2, e3, e4, hN, f0, g0, g1, hI, F1, F2, cc1, cc2⟩ := hh.ex
  have HI := hid_of hI
  have HF2 := hid_of F2
  have LT := hid_of hh.lt
  obtain ⟨q1, q2, q3, q4⟩ := hc
  obtain ⟨l, el⟩ : ∃ l : Nat, lo.getD j 0 = l := ⟨(lo.getD j 0).toNat, by omega⟩
  obtain ⟨h, eh⟩ : ∃ h : Nat, hi.getD j 0 = h := ⟨(hi.getD j 0).toNat, by omega⟩
  rw [el, eh] at q2
  rw [eh] at q3
  have p0 : w.cell? ⟨ga, j * 3, none⟩ = some (.int .i64 0) := by
    obtain ⟨L, h1, h2, h3⟩ := F2
    rw [cell_row h1, h3 _ (by omega), ← appF0]
  have p1 : w.cell? ⟨ga, j * 3 + 1, none⟩ = some (.int .i32 l) := by
    obtain ⟨L, h1, h2, h3⟩ := F2
    rw [cell_row h1, h3 _ (by omega), ← appF1 lo hi j el.symm]
  have p2 : w.cell? ⟨ga, j * 3 + 2, none⟩ = some (.int .i32 h) := by
    obtain ⟨L, h1, h2, h3⟩ := F2
    rw [cell_row h1, h3 _ (by omega), ← appF2 lo hi j eh.symm]
  obtain ⟨m, em⟩ : ∃ m, m = lo.length := ⟨_, rfl⟩
  obtain ⟨n, en⟩ : ∃ n, n = lk.length := ⟨_, rfl⟩
  rw [← em] at g0 hj hm2
  rw [← en] at g1 q3 hm cc1
  have EN := hid_of en
  have EL := hid_of el
  have EH := hid_of eh
  have d1 : (j : Int) < (m : Int) := by omega
  have d2 : (0 : Int) ≤ (l : Int) := by omega
  have d3 : (l : Int) ≤ (h : Int) := by omega
  have d4 : (h : Int) ≤ (lc : Int) := by omega
  have d5 : (h : Int) ≤ (n : Int) := by omega
  have d6 : h ≤ 4096 := by omega
  have n1 : w.heap.size ≠ hb := by have := LT.out; omega
  have n2 : w.heap.size ≠ cb := by omega
  have HK := hid_of q4
  clear em en el eh q1 q2 q3 q4 F1 F2 hI hN e0 e1 e2 e4 f0 k1 k3
  go_enter Try.func53, Try.ntmps53
  go_wp2_with fail
  obtain ⟨w0, hw0⟩ : ∃ w0, w0 = w.alloc (.cells #[.int .i64 0, .int .i32 l, .int .i32 h] 96) := ⟨_, rfl⟩
  rw [← hw0]
  have B0 : Hid (Below w.heap.size w w0) := by rw [hw0]; exact (Below.refl _ _).alloc (Nat.le_refl _) _
  have r1 : w0.cell? ⟨w.heap.size, 1, none⟩ = some (.int .i32 l) := by rw [hw0]; simp [go_sem]
  have r2 : w0.cell? ⟨w.heap.size, 2, none⟩ = some (.int .i32 h) := by rw [hw0]; simp [go_sem]
  have r3 : w0.cell? ⟨hb, 3, none⟩ = some (.pointer (some ⟨cb, 0, none⟩)) := by
    rw [B0.out.cell (p := ⟨hb, 3, none⟩) (by have := LT.out; show hb < _; omega)]; exact e3
  have r4 : w0.cell? ⟨cb, 1, none⟩ = some (.slice la n lc) := by
    rw [B0.out.cell (p := ⟨cb, 1, none⟩) (by show cb < _; omega)]; exact g1
  clear hw0 e3 g1 g0 p0 p1 p2
  have EC : Hid (chainL lo hi lk j = (lk.drop l).take (h - l)) := by rw [Hid, chainL, EL.out, EH.out]; rfl
  have HI0 := hid_of (HI.out.below B0.out hB)
  by_cases hl : h = l
  · subst hl
    go_quiet (fail)
    go_wp2_with fail
    go_ret
    refine ⟨_, _, _, rfl, ?_, Nat.le_refl _, by omega, ?_, below_drewN B0.out _⟩
    · rw [EC.out]; simp
    · rw [EC.out]; intro h0; simp at h0
  · go_quiet (fail)
    go_wp2_with fail
    go_ret
    refine ⟨_, _, _, rfl, ?_, Nat.le_refl _, by omega, ?_, below_drewN B0.out _⟩
    · rw [EC.out, List.length_take, List.length_drop, ← EN.out]; omega
    · rw [EC.out]; exact (hasI_cut HI0.out l (h - l)).drewN _

end Go.Proofs.Qxb6608735a
