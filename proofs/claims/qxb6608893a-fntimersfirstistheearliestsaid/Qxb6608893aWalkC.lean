import Derived.Test.Qxb6608893aWalkB
namespace Go.Proofs.Qxb6608893a
open Go.RowKit
set_option linter.unusedVariables false

theorem info2 : (Try.prog.info? 2).map (fun i => (i.zero, i.size, i.bytes)) = some (some (.int .i64 0), 1, 8) := by kernel_rfl
theorem info3 : (Try.prog.info? 3).map (fun i => (i.zero, i.size, i.bytes)) = some (some (.int .i64 0), 1, 8) := by kernel_rfl
theorem size2 : (Try.prog.info? 2).map (·.size) = some 1 := by kernel_rfl
theorem size3 : (Try.prog.info? 3).map (·.size) = some 1 := by kernel_rfl
theorem HasI.of_none {k : IntKind} {w : World} {B : Nat} {zs : List Int} (h : HasI k w B none zs) : zs = [] := by
  cases zs with
  | nil => rfl
  | cons s t =>
    obtain ⟨b, off, hh, _⟩ := h (by simp)
    cases hh

/-- the heap's order up to place k -/
def Heap (z : List Int) (k : Nat) : Prop := ∀ j, 1 ≤ j → j < k → z.getD ((j - 1) / 2) 0 ≤ z.getD j 0
theorem heap_min {z : List Int} {n : Nat} (h : Heap z n) : ∀ j, j < n → z.getD 0 0 ≤ z.getD j 0 := by
  intro j
  induction j using Nat.strongRecOn with
  | ind j ih =>
    intro hj
    by_cases e : j = 0
    · subst e; exact Int.le_refl _
    · exact Int.le_trans (ih ((j - 1) / 2) (by omega) (by omega)) (h j (by omega) hj)

theorem heap_succ {z : List Int} {k : Nat} (h : Heap z k) (hk : z.getD ((k - 1) / 2) 0 ≤ z.getD k 0) : Heap z (k + 1) := by
  intro j h1 h2
  by_cases e : j = k
  · subst e; exact hk
  · exact h j h1 (by omega)

/-- the timers at tb: nothing filed, or the first time x -/
def Tm (w : World) (tb n : Nat) (x : Int) : Prop := (n = 0 ∧ w.cell? ⟨tb, 0, none⟩ = some (.slice none 0 0)) ∨ (0 < n ∧ ∃ g c, w.cell? ⟨tb, 0, none⟩ = some (.slice (some ⟨g, 0, none⟩) n c) ∧ w.cell? ⟨g, 0, none⟩ = some (.int .i64 x))
def fstOf (n : Nat) (x : Int) : Int := if n = 0 then 0 else x

theorem newTimers_any (a0 a1 a2 : Option Addr) (n c0 c1 c2 : Nat) (at' st it : List Int) (w : World) (h0 : HasI .i64 w w.heap.size a0 at') (h1 : HasI .i64 w w.heap.size a1 st) (h2 : HasI .i64 w w.heap.size a2 it)
    (l0 : at'.length = n) (l1 : st.length = n) (l2 : it.length = n) (hm : n ≤ 4096) (f1 : ∀ z ∈ st, (Lit.int .i64 z).wf = true) (f2 : ∀ z ∈ it, (Lit.int .i64 z).wf = true) :
    Calls Try.prog 8 #[.slice a0 n c0, .slice a1 n c1, .slice a2 n c2] w fun e w' => e = .returned (.pointer (some ⟨w.heap.size, 0, none⟩)) ∧ Tm w' w.heap.size n (at'.getD 0 0) ∧ Below w.heap.size w w' := by
  by_cases hn : n = 0
  · subst hn
    refine (newTimers_none a0 a1 a2 c0 c1 c2 w).mono ?_
    rintro e w' ⟨rfl, hc, hb⟩
    exact ⟨rfl, .inl ⟨rfl, hc⟩, hb⟩
  · refine (newTimers_some a0 a1 a2 n c0 c1 c2 at' st it w h0 h1 h2 l0 l1 l2 (by omega) hm f1 f2).mono ?_
    rintro e w' ⟨rfl, hc, hx, hb⟩
    exact ⟨rfl, .inr ⟨by omega, _, _, hc, hx⟩, hb⟩

theorem first_any (tb n : Nat) (x : Int) (w : World) (hm : n ≤ 4096) (h : Tm w tb n x) :
    Calls Try.prog 9 #[.pointer (some ⟨tb, 0, none⟩)] w fun e w' => e = .returned (.tuple #[.int .i64 (fstOf n x), .bool (decide (0 < n))]) ∧ w' = w := by
  rcases h with ⟨rfl, hc⟩ | ⟨hn, g, c, hc, hx⟩
  · refine (first_none tb w hc).mono ?_
    rintro e w' ⟨rfl, hw⟩
    exact ⟨rfl, hw⟩
  · refine (first_some tb g n c x w hn hm hc hx).mono ?_
    rintro e w' ⟨rfl, hw⟩
    have e1 : fstOf n x = x := by rw [fstOf, if_neg (by omega)]
    have e2 : decide (0 < n) = true := by simpa using hn
    rw [e1, e2]
    exact ⟨rfl, hw⟩

set_option maxRecDepth 20000 in
set_option maxHeartbeats 2000000 in
theorem law6_main (a0 a1 a2 : Option Addr) (n c0 c1 c2 : Nat) (z0 z1 z2 : List Int) (w : World)
    (h0 : HasI .i64 w w.heap.size a0 z0) (h1 : HasI .i64 w w.heap.size a1 z1) (h2 : HasI .i64 w w.heap.size a2 z2) (l0 : z0.length = n) (l1 : z1.length = n) (l2 : z2.length = n)
    (hm : n ≤ 4096) (f1 : ∀ z ∈ z1, (Lit.int .i64 z).wf = true) (f2 : ∀ z ∈ z2, (Lit.int .i64 z).wf = true) :
    Calls Try.prog 5 #[.slice a0 n c0, .slice a1 n c1, .slice a2 n c2] w fun e w' => e = .returned (.bool true) ∧ Below w.heap.size w w' := by
  have HG := hid_of (guard7 a0 a1 a2 n c0 n c1 n c2 w (by unfold maxLen; omega) (by unfold maxLen; omega) (by unfold maxLen; omega))
  have hq0 := fun w => run_neq_slice_nil_any (P := Try.prog) w 26 2 a0 n c0 0 0 Try.underlying26
  have hq1 := fun w => run_neq_slice_nil_any (P := Try.prog) w 27 3 a1 n c1 0 0 Try.underlying27
  have hq2 := fun w => run_neq_slice_nil_any (P := Try.prog) w 27 3 a2 n c2 0 0 Try.underlying27
  have H0 := hid_of h0
  have H1 := hid_of h1
  have H2 := hid_of h2
  have L0 := hid_of l0
  have L1 := hid_of l1
  have L2 := hid_of l2
  have F1 := hid_of f1
  have F2 := hid_of f2
  clear h0 h1 h2 l0 l1 l2 f1 f2
  go_enter Try.func5, Try.ntmps5
  go_wp2_with fail
  refine HG.out.mono ?_
  rintro e w' ⟨⟨r, rfl⟩, hw⟩
  subst w'
  clear HG
  cases r
  · go_wp2_with fail
    go_ret
    exact ⟨rfl, Below.refl _ _⟩
  · go_upto_if 49 with fail
    go_cut [0] (fun s wc => ∃ a c, s = .slice a n c ∧ HasI .i64 wc wc.heap.size a z0 ∧ Below w.heap.size w wc)
    case first =>
      cases ha : a0 with
      | none =>
        subst ha
        have hz := H0.out.of_none
        go_wp2_with fail
        go_meet
        case rel => exact ⟨none, c0, rfl, fun h => absurd h (by rw [hz]; simp), Below.refl _ _⟩
      | some ad =>
        subst ha
        obtain ⟨i0, hi, hz0, hz1, hz2⟩ := info_parts info2
        go_wp2_with (at_make; refine wpList_make_full _ rfl _ _ 26 rfl w.heap.size 2 i0 (.int .i64 0) 1 Try.underlying26 hi hz0 hz1 _ _ _ _ n rfl rfl rfl rfl (by rw [hz2]; omega) (by unfold maxLen; omega) (Nat.le_refl _) ?_)
        intro v1 hown hgrow
        obtain ⟨L, hrow, hlen⟩ := row_some hown
        have HB1 : Hid (Below w.heap.size w v1) := (Below.refl _ _).grown hgrow (Nat.le_refl _) (fun k h => by cases h)
        have HI1 := hid_of (H0.out.below HB1.out (Nat.le_refl _))
        have HRow := hid_of hrow
        have HLen := hid_of hlen
        clear hown hgrow hrow hlen hi hz0 hz1 hz2
        go_wp2_with (with_reducible refine at_copy ?_; refine wpList_copy_splice rfl _ _ 26 26 rfl 2 Try.underlying26 size2 _ _ _ _ _ _ rfl rfl w.heap.size 0 L 2 HRow.out (z0.map (Value.int .i64)) (by simp [L0.out]) (hpos_of HI1.out) (by simp [L0.out, HLen.out]) (ints_oneCell _ _) w.heap.size w HB1.out (Nat.le_refl _) ?_)
        intro v2 HG2 hB2
        have hg2 := HG2.out
        rw [splice_all _ _ (by simp [L0.out, HLen.out])] at hg2
        have HI2 := hid_of (hasI_row hg2 (row_lt hg2))
        have HB2 := hid_of hB2
        clear HG2 hg2 hB2
        go_wp2_with fail
        go_meet
        case rel => exact ⟨_, n, rfl, HI2.out, HB2.out⟩
    case rest =>
      rename World => wa
      obtain ⟨aa, ca, rfl, hI, hB⟩ := hcut
      have HA := hid_of hI
      have HBa := hid_of hB
      have H1a := hid_of ((H1.out.below hB (Nat.le_refl _)).mono hB.size)
      have H2a := hid_of ((H2.out.below hB (Nat.le_refl _)).mono hB.size)
      clear hI hB H0 H1 H2 hq0
      go_upto_if 58 with fail
      go_cut [1] (fun s wc => ∃ a c, s = .slice a n c ∧ HasI .i64 wc wc.heap.size a z1 ∧ Below wa.heap.size wa wc)
      case first =>
        cases ha : a1 with
        | none =>
          subst ha
          have hz := H1a.out.of_none
          go_wp2_with fail
          go_meet
          case rel => exact ⟨none, c1, rfl, fun h => absurd h (by rw [hz]; simp), Below.refl _ _⟩
        | some ad =>
          subst ha
          obtain ⟨i0, hi, hz0, hz1, hz2⟩ := info_parts info3
          go_wp2_with (at_make; refine wpList_make_full _ rfl _ _ 27 rfl wa.heap.size 3 i0 (.int .i64 0) 1 Try.underlying27 hi hz0 hz1 _ _ _ _ n rfl rfl rfl rfl (by rw [hz2]; omega) (by unfold maxLen; omega) (Nat.le_refl _) ?_)
          intro v1 hown hgrow
          obtain ⟨L, hrow, hlen⟩ := row_some hown
          have HB1 : Hid (Below wa.heap.size wa v1) := (Below.refl _ _).grown hgrow (Nat.le_refl _) (fun k h => by cases h)
          have HI1 := hid_of (H1a.out.below HB1.out (Nat.le_refl _))
          have HRow := hid_of hrow
          have HLen := hid_of hlen
          clear hown hgrow hrow hlen hi hz0 hz1 hz2
          go_wp2_with (with_reducible refine at_copy ?_; refine wpList_copy_splice rfl _ _ 27 27 rfl 3 Try.underlying27 size3 _ _ _ _ _ _ rfl rfl wa.heap.size 0 L 3 HRow.out (z1.map (Value.int .i64)) (by simp [L1.out]) (hpos_of HI1.out) (by simp [L1.out, HLen.out]) (ints_oneCell _ _) wa.heap.size wa HB1.out (Nat.le_refl _) ?_)
          intro v2 HG2 hB2
          have hg2 := HG2.out
          rw [splice_all _ _ (by simp [L1.out, HLen.out])] at hg2
          have HI2 := hid_of (hasI_row hg2 (row_lt hg2))
          have HB2 := hid_of hB2
          clear HG2 hg2 hB2
          go_wp2_with fail
          go_meet
          case rel => exact ⟨_, n, rfl, HI2.out, HB2.out⟩
      case rest =>
        rename World => wb
        obtain ⟨ab, cb, rfl, hI, hB⟩ := hcut
        have HS := hid_of hI
        have HBb := hid_of (HBa.out.trans (hB.mono HBa.out.size))
        have HAb := hid_of ((HA.out.below hB (Nat.le_refl _)).mono hB.size)
        have H2b := hid_of ((H2a.out.below hB (Nat.le_refl _)).mono hB.size)
        clear hI hB HA H1a H2a HBa hq1
        go_upto_if 67 with fail
        go_cut [2] (fun s wc => ∃ a c, s = .slice a n c ∧ HasI .i64 wc wc.heap.size a z2 ∧ Below wb.heap.size wb wc)
        case first =>
          cases ha : a2 with
          | none =>
            subst ha
            have hz := H2b.out.of_none
            go_wp2_with fail
            go_meet
            case rel => exact ⟨none, c2, rfl, fun h => absurd h (by rw [hz]; simp), Below.refl _ _⟩
          | some ad =>
            subst ha
            obtain ⟨i0, hi, hz0, hz1, hz2⟩ := info_parts info3
            go_wp2_with (at_make; refine wpList_make_full _ rfl _ _ 27 rfl wb.heap.size 3 i0 (.int .i64 0) 1 Try.underlying27 hi hz0 hz1 _ _ _ _ n rfl rfl rfl rfl (by rw [hz2]; omega) (by unfold maxLen; omega) (Nat.le_refl _) ?_)
            intro v1 hown hgrow
            obtain ⟨L, hrow, hlen⟩ := row_some hown
            have HB1 : Hid (Below wb.heap.size wb v1) := (Below.refl _ _).grown hgrow (Nat.le_refl _) (fun k h => by cases h)
            have HI1 := hid_of (H2b.out.below HB1.out (Nat.le_refl _))
            have HRow := hid_of hrow
            have HLen := hid_of hlen
            clear hown hgrow hrow hlen hi hz0 hz1 hz2
            go_wp2_with (with_reducible refine at_copy ?_; refine wpList_copy_splice rfl _ _ 27 27 rfl 3 Try.underlying27 size3 _ _ _ _ _ _ rfl rfl wb.heap.size 0 L 3 HRow.out (z2.map (Value.int .i64)) (by simp [L2.out]) (hpos_of HI1.out) (by simp [L2.out, HLen.out]) (ints_oneCell _ _) wb.heap.size wb HB1.out (Nat.le_refl _) ?_)
            intro v2 HG2 hB2
            have hg2 := HG2.out
            rw [splice_all _ _ (by simp [L2.out, HLen.out])] at hg2
            have HI2 := hid_of (hasI_row hg2 (row_lt hg2))
            have HB2 := hid_of hB2
            clear HG2 hg2 hB2
            go_wp2_with fail
            go_meet
            case rel => exact ⟨_, n, rfl, HI2.out, HB2.out⟩
        case rest =>
          rename World => wt
          obtain ⟨ac, cc, rfl, hI, hB⟩ := hcut
          have HT := hid_of hI
          have HBt := hid_of (HBb.out.trans (hB.mono HBb.out.size))
          have HAt := hid_of ((HAb.out.below hB (Nat.le_refl _)).mono hB.size)
          have HSt := hid_of ((HS.out.below hB (Nat.le_refl _)).mono hB.size)
          clear hI hB HAb HS H2b HBb hq2
          go_wp2_with fail
          go_loopw [10] (fun i wr => ∃ k : Nat, i = .int .i64 k ∧ 1 ≤ k ∧ (k ≤ n ∨ k = 1) ∧ Heap z0 k ∧ ∃ q, wr = wt.drewN q) (fun i _ => n - (intOf i).toNat)
          case atStart => exact ⟨1, rfl, by omega, .inr rfl, fun j _ _ => by omega, 0, rfl⟩
          case round =>
            obtain ⟨k, rfl, hk1, hk2, hheap, q, rfl⟩ := hrel
            have HHp := hid_of hheap
            clear hheap
            by_cases hlt : k < n
            · obtain ⟨b, off, hab, hbB, hc⟩ := HAt.out (by rw [L0.out]; omega)
              subst hab
              have hx := hc ((k - 1) / 2) (by rw [L0.out]; omega)
              have hy := hc k (by rw [L0.out]; exact hlt)
              obtain ⟨x, ex⟩ : ∃ x, x = z0.getD ((k - 1) / 2) 0 := ⟨_, rfl⟩
              obtain ⟨y, ey⟩ : ∃ y, y = z0.getD k 0 := ⟨_, rfl⟩
              rw [← ex] at hx
              rw [← ey] at hy
              have X := hid_of ex
              have Y := hid_of ey
              clear hc ex ey hk2
              have i1 : (k : Int) < (n : Int) := by omega
              have i2 : (0 : Int) ≤ ((k : Int) - 1) / 2 := by omega
              have i3 : ((k : Int) - 1) / 2 < (n : Int) := by omega
              by_cases hxy : y < x
              · go_wp2_with fail
                go_quiet (fail)
                go_wp2_with fail
                go_ret
                exact ⟨rfl, below_drewN (below_drewN HBt.out _) _⟩
              · have HS1 : Hid (Heap z0 (k + 1)) := heap_succ HHp.out (by rw [← X.out, ← Y.out]; omega)
                go_wp2_with fail
                go_quiet (fail)
                go_wp2_with fail
                go_roundw
                case rel => exact ⟨k + 1, by go_num, by omega, .inl (by omega), HS1.out, _, rfl⟩
                case measure => simp [intOf]; omega
            · have HH : Hid (Heap z0 n) := fun j h1 h2 => HHp.out j h1 (by omega)
              clear HHp hk2 hk1
              go_wp2_with fail
              go_loopw [11] (fun i wr => ∃ k : Nat, i = .int .i64 k ∧ k ≤ n ∧ ∃ q, wr = wt.drewN q) (fun i _ => n - (intOf i).toNat)
              case atStart => exact ⟨0, rfl, by omega, q, rfl⟩
              case round =>
                clear hlt
                obtain ⟨k2, rfl, hk2, q2, rfl⟩ := hrel
                by_cases hlt : k2 < n
                · obtain ⟨b1, o1, hab, hbB1, hc1⟩ := HSt.out (by rw [L1.out]; omega)
                  subst hab
                  obtain ⟨b2, o2, hab, hbB2, hc2⟩ := HT.out (by rw [L2.out]; omega)
                  subst hab
                  have hs := hc1 k2 (by rw [L1.out]; exact hlt)
                  have ht := hc2 k2 (by rw [L2.out]; exact hlt)
                  have C1 := hid_of hc1
                  have C2 := hid_of hc2
                  obtain ⟨x, ex⟩ : ∃ x, x = z1.getD k2 0 := ⟨_, rfl⟩
                  obtain ⟨y, ey⟩ : ∃ y, y = z2.getD k2 0 := ⟨_, rfl⟩
                  rw [← ex] at hs
                  rw [← ey] at ht
                  clear hc1 hc2 ex ey
                  by_cases hx0 : x < 0
                  · go_wp2_with fail
                    go_ret
                    exact ⟨rfl, below_drewN HBt.out _⟩
                  · by_cases hy0 : y < -1
                    · go_wp2_with fail
                      go_ret
                      exact ⟨rfl, below_drewN HBt.out _⟩
                    · go_wp2_with fail
                      go_loopw [12] (fun j wr => ∃ m : Nat, j = .int .i64 m ∧ m ≤ n ∧ ∃ q, wr = wt.drewN q) (fun j _ => n - (intOf j).toNat)
                      case atStart => exact ⟨k2 + 1, by go_num, by omega, q2, rfl⟩
                      case round =>
                        obtain ⟨m, rfl, hm2, q3, rfl⟩ := hrel
                        have j1 : (k2 : Int) < (n : Int) := by omega
                        by_cases hltm : m < n
                        · have hs2 := C1.out m (by rw [L1.out]; exact hltm)
                          have ht2 := C2.out m (by rw [L2.out]; exact hltm)
                          obtain ⟨x2, ex⟩ : ∃ x, x = z1.getD m 0 := ⟨_, rfl⟩
                          obtain ⟨y2, ey⟩ : ∃ y, y = z2.getD m 0 := ⟨_, rfl⟩
                          rw [← ex] at hs2
                          rw [← ey] at ht2
                          clear ex ey
                          have j2 : (m : Int) < (n : Int) := by omega
                          cases g1 : (x == x2)
                          · go_wp2_with fail
                            go_quiet (fail)
                            go_wp2_with fail
                            go_roundw
                            case rel => exact ⟨m + 1, by go_num, by omega, _, rfl⟩
                            case measure => simp [intOf]; omega
                          · cases g2 : (y == y2)
                            · go_wp2_with fail
                              go_quiet (fail)
                              go_wp2_with fail
                              go_roundw
                              case rel => exact ⟨m + 1, by go_num, by omega, _, rfl⟩
                              case measure => simp [intOf]; omega
                            · go_wp2_with fail
                              go_quiet (fail)
                              go_wp2_with fail
                              go_ret
                              exact ⟨rfl, below_drewN (below_drewN HBt.out _) _⟩
                        · go_wp2_with fail
                          go_roundw
                          case rel => exact ⟨k2 + 1, by go_num, by omega, q3, rfl⟩
                          case measure => simp [intOf]; omega
                · go_wp2_with fail
                  refine (newTimers_any aa ab ac n ca cb cc z0 z1 z2 (wt.drewN q2) (HAt.out.drewN q2) (HSt.out.drewN q2) (HT.out.drewN q2) L0.out L1.out L2.out hm F1.out F2.out).mono ?_
                  rintro e w8 ⟨rfl, htm, hb8⟩
                  have HTm := hid_of htm
                  have HB8 := hid_of ((below_drewN HBt.out q2).trans (hb8.mono HBt.out.size))
                  have HA8 := hid_of ((HAt.out.drewN q2).below hb8 (Nat.le_refl _))
                  clear htm hb8 hlt hk2 HSt HT HAt HBt
                  go_wp2_with fail
                  refine (first_any _ n (z0.getD 0 0) w8 hm HTm.out).mono ?_
                  rintro e w9 ⟨rfl, hw⟩
                  subst w9
                  by_cases hn : n = 0
                  · have g1 : decide (0 < n) = false := by simp [hn]
                    have g2 : fstOf n (z0.getD 0 0) = 0 := by simp [fstOf, hn]
                    have g3 : ((n : Int) == 0) = true := by simp [hn]
                    clear hn
                    rw [g1, g2]
                    go_wp2_with fail
                    go_ret
                    exact ⟨rfl, HB8.out⟩
                  · have g1 : decide (0 < n) = true := by simp; omega
                    have g2 : fstOf n (z0.getD 0 0) = z0.getD 0 0 := by simp [fstOf, hn]
                    have g3 : ((n : Int) == 0) = false := by simp; omega
                    obtain ⟨x, ex⟩ : ∃ x, x = z0.getD 0 0 := ⟨_, rfl⟩
                    rw [g1, g2, ← ex]
                    have X := hid_of ex
                    have hn' : 0 < n := by omega
                    clear hn g2 ex HTm
                    go_wp2_with fail
                    go_loop [16, 17] (fun f i => ∃ k : Nat, i = .int .i64 k ∧ k ≤ n ∧ f = .bool (decide (0 < k))) (fun _ i => n - (intOf i).toNat)
                    case atStart => exact ⟨0, rfl, by omega, rfl⟩
                    case round =>
                      obtain ⟨k, rfl, hk, rfl⟩ := hrel
                      by_cases hlt : k < n
                      · obtain ⟨b, off, hab, hbB, hc⟩ := HA8.out (by rw [L0.out]; omega)
                        subst hab
                        have hy := hc k (by rw [L0.out]; exact hlt)
                        have hle : x ≤ z0.getD k 0 := by rw [X.out]; exact heap_min HH.out k hlt
                        have hz : k = 0 → z0.getD k 0 = x := fun e => by rw [e, X.out]
                        obtain ⟨y, ey⟩ : ∃ y, y = z0.getD k 0 := ⟨_, rfl⟩
                        rw [← ey] at hy hle hz
                        have HZ := hid_of hz
                        clear hc ey hz
                        cases g4 : (y == x)
                        · have hk0 : 0 < k := by
                            by_cases e : k = 0
                            · have := HZ.out e; simp [this] at g4
                            · omega
                          have g5 : decide (0 < k) = true := by simpa using hk0
                          go_wp2_with fail
                          go_round
                          case rel => exact ⟨k + 1, by go_num, by omega, by simp; omega⟩
                          case measure => simp [intOf]; omega
                        · go_wp2_with fail
                          go_round
                          case rel => exact ⟨k + 1, by go_num, by omega, by simp⟩
                          case measure => simp [intOf]; omega
                      · have g5 : decide (0 < k) = true := by simp; omega
                        go_wp2_with fail
                        go_ret
                        exact ⟨by simp, HB8.out⟩

end Go.Proofs.Qxb6608893a
