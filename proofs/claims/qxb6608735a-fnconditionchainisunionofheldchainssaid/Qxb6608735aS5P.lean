import Derived.Test.Qxb6608735aS5O
import Derived.Test.Qxb6608735aS5Guard
import Derived.Deep.DeepCutAuto
namespace Go.Proofs.Qxb6608735a
open Go.RowKit Go.Maps Go.WideMaps Go.Joins
set_option linter.unusedVariables false

theorem size21 : (Try.prog.info? 21).map (·.size) = some 1 := by kernel_rfl
theorem bt {a b c : World} (h : Below a.heap.size a b) (k : Below b.heap.size b c) : Below a.heap.size a c := h.trans (k.mono h.size)

/-- the chain that is answered, and whether the condition is met -/
def AnsV (P : Prop) (M : Int → Prop) (w : World) (v u : Value) (w' : World) : Prop :=
  ∃ a n c r zs, v = .slice a n c ∧ u = .bool r ∧ Below w.heap.size w w' ∧ HasI .i64 w' w'.heap.size a zs ∧ zs.length = n ∧ (r = true ↔ P) ∧ Up zs ∧ (r = true → ∀ v, v ∈ zs ↔ M v) ∧ (r = false → zs = []) ∧ n ≤ 4096
def Ans (P : Prop) (M : Int → Prop) (w : World) (e : Ending) (w' : World) : Prop := ∃ v u, e = .returned (.tuple #[v, u]) ∧ AnsV P M w v u w'
theorem Ans.back {P : Prop} {M : Int → Prop} {w0 w w' : World} {e : Ending} (h : Ans P M w e w') (hb : Below w0.heap.size w0 w) : Ans P M w0 e w' := by
  obtain ⟨v, u, rfl, a, n, c, r, zs, h1, h2, h3, h4⟩ := h
  exact ⟨v, u, rfl, a, n, c, r, zs, h1, h2, bt hb h3, h4⟩
theorem cond_ans {hp ho lo hi lk ps : List Int} {os cs : List ByteArray} {w w' : World} {e : Ending} (h : CondB hp ho lo hi lk ps os cs w e w') (hlk : lk.length ≤ 4096) : Ans (AllMet hp ho ps os cs) (fun v => ∃ u, u < ps.length ∧ OnCh hp ho lo hi lk (ps.getD u 0) v) w e w' := by
  rcases h with ⟨rfl, hb, h⟩ | ⟨a, n, c, zs, rfl, hb, h, rfl, hI, hu, hm⟩
  · exact ⟨_, _, rfl, none, 0, 0, false, [], rfl, rfl, hb, fun h => absurd h (by simp), rfl, ⟨fun h => absurd h (by simp), fun h' => absurd h' h⟩, List.Pairwise.nil, fun h => absurd h (by simp), fun _ => rfl, by omega⟩
  · refine ⟨_, _, rfl, a, _, c, true, zs, rfl, rfl, hb, hI, rfl, ⟨fun _ => h, fun _ => rfl⟩, hu, fun _ => hm, fun h => absurd h (by simp), ?_⟩
    exact Nat.le_trans (up_len hu (fun v hv => by
      obtain ⟨u, _, j, _, h⟩ := (hm v).1 hv
      exact chainL_mem h)) hlk
theorem mod_ans {ls cs os : List ByteArray} {ow lk lo hi : List Int} {w w' : World} {e : Ending} (h : ModB ls cs os ow lk lo hi w e w') (hlk : lk.length ≤ 4096) : Ans (∀ u, u < cs.length → MetC ls ow os (cs.getD u ByteArray.empty)) (fun v => ∃ t, t < lk.length ∧ MarkC lo hi (UsedC ls ow cs cs.length) lo.length t ∧ lk.getD t 0 = v) w e w' := by
  rcases h with ⟨rfl, hb, h⟩ | ⟨a, n, c, zs, rfl, hb, h, rfl, hI, hu, hm⟩
  · exact ⟨_, _, rfl, none, 0, 0, false, [], rfl, rfl, hb, fun h => absurd h (by simp), rfl, ⟨fun h => absurd h (by simp), fun h' => absurd h' h⟩, List.Pairwise.nil, fun h => absurd h (by simp), fun _ => rfl, by omega⟩
  · refine ⟨_, _, rfl, a, _, c, true, zs, rfl, rfl, hb, hI, rfl, ⟨fun _ => h, fun _ => rfl⟩, hu, fun _ => hm, fun h => absurd h (by simp), ?_⟩
    exact Nat.le_trans (up_len hu (fun v hv => by
      obtain ⟨t, ht, _, e⟩ := (hm v).1 hv
      exact mem_getD.2 ⟨t, ht, e⟩)) hlk

def SizesOk (r1 r2 r3 r4 t : Int) (n0 n5 n6 n7 : Nat) : Prop := (r1 ≤ 1048576 → t ≤ 1048576 ∧ n0 ≤ 4096) ∧ (r2 ≤ 1048576 → r1 ≤ 1048576 ∧ n5 ≤ 4096) ∧ (r3 ≤ 1048576 → r2 ≤ 1048576 ∧ n6 ≤ 4096) ∧ (r4 ≤ 1048576 → r3 ≤ 1048576 ∧ n7 ≤ 4096)
theorem SizesOk.all {r1 r2 r3 r4 t : Int} {n0 n5 n6 n7 : Nat} (h : SizesOk r1 r2 r3 r4 t n0 n5 n6 n7) (h4 : ¬ 1048576 < r4) : n0 ≤ 4096 ∧ n5 ≤ 4096 ∧ n6 ≤ 4096 ∧ n7 ≤ 4096 := by
  obtain ⟨a1, a2, a3, a4⟩ := h
  have b4 := a4 (by omega)
  have b3 := a3 b4.1
  have b2 := a2 b3.1
  have b1 := a1 b2.1
  exact ⟨b1.2, b2.2, b3.2, b4.2⟩

set_option maxRecDepth 20000 in
set_option maxHeartbeats 4000000 in
theorem law5 (a0 a1 a2 a3 a4 a5 a6 a7 : Option Addr) (n0 c0 n1 c1 n2 c2 n3 c3 n4 c4 n5 c5 n6 c6 n7 c7 : Nat) (ls os is cs : List ByteArray) (ow lk lo hi : List Int) (w : World)
    (h0 : HasS w w.heap.size a0 ls) (h1 : HasI .i32 w w.heap.size a1 ow) (h2 : HasI .i64 w w.heap.size a2 lk) (h3 : HasI .i32 w w.heap.size a3 lo) (h4 : HasI .i32 w w.heap.size a4 hi) (h5 : HasS w w.heap.size a5 os) (h6 : HasS w w.heap.size a6 is) (h7 : HasS w w.heap.size a7 cs)
    (l0 : ls.length = n0) (l1 : ow.length = n1) (l2 : lk.length = n2) (l3 : lo.length = n3) (l4 : hi.length = n4) (l5 : os.length = n5) (l6 : is.length = n6) (l7 : cs.length = n7)
    (m0 : n0 ≤ maxLen) (m1 : n1 ≤ maxLen) (m2 : n2 ≤ maxLen) (m3 : n3 ≤ maxLen) (m4 : n4 ≤ maxLen) (m5 : n5 ≤ maxLen) (m6 : n6 ≤ maxLen) (m7 : n7 ≤ maxLen)
    (z0 : ∀ s ∈ ls, s.size ≤ maxLen) (z5 : ∀ s ∈ os, s.size ≤ maxLen) (z7 : ∀ s ∈ cs, s.size ≤ maxLen) (i1 : I32 ow) (i3 : I32 lo) (i4 : I32 hi) :
    Calls Try.prog 5 #[.slice a0 n0 c0, .slice a1 n1 c1, .slice a2 n2 c2, .slice a3 n3 c3, .slice a4 n4 c4, .slice a5 n5 c5, .slice a6 n6 c6, .slice a7 n7 c7] w fun e w' => e = .returned (.bool true) ∧ Below w.heap.size w w' := by
  have hneq3 := fun w => run_neq_slice_nil_any (P := Try.prog) w 41 21 a3 n3 c3 0 0 Try.underlying41
  have hneq4 := fun w => run_neq_slice_nil_any (P := Try.prog) w 41 21 a4 n4 c4 0 0 Try.underlying41
  have HG := hid_of (guard20 a0 a1 a2 a3 a4 a5 a6 a7 n0 c0 n1 c1 n2 c2 n3 c3 n4 c4 n5 c5 n6 c6 n7 c7 _ ls os is cs w h0 l0 h5 l5 h6 l6 h7 l7 m0 m1 m2 m3 m4 m5 m6 m7)
  have HT0 := hid_of (fun t h1 h2 => strTotal t a0 n0 c0 _ ls w h0 l0 m0 h1 h2)
  have HT5 := hid_of (fun t h1 h2 => strTotal t a5 n5 c5 _ os w h5 l5 m5 h1 h2)
  have HT6 := hid_of (fun t h1 h2 => strTotal t a6 n6 c6 _ is w h6 l6 m6 h1 h2)
  have HT7 := hid_of (fun t h1 h2 => strTotal t a7 n7 c7 _ cs w h7 l7 m7 h1 h2)
  have H0 := hid_of h0
  have H1 := hid_of h1
  have H2 := hid_of h2
  have H3 := hid_of h3
  have H4 := hid_of h4
  have H5 := hid_of h5
  have H6 := hid_of h6
  have H7 := hid_of h7
  have L0 := hid_of l0
  have L1 := hid_of l1
  have L2 := hid_of l2
  have L3 := hid_of l3
  have L4 := hid_of l4
  have L5 := hid_of l5
  have L6 := hid_of l6
  have L7 := hid_of l7
  have Z0 := hid_of z0
  have Z5 := hid_of z5
  have Z7 := hid_of z7
  have I1 := hid_of i1
  have I3 := hid_of i3
  have I4 := hid_of i4
  clear h0 h1 h2 h3 h4 h5 h6 h7 l0 l1 l2 l3 l4 l5 l6 l7 m0 m1 m2 m3 m4 m5 m6 m7 z0 z5 z7 i1 i3 i4
  go_enter Try.func5, Try.ntmps5
  go_wp2_with fail
  refine HG.out.mono ?_
  rintro e w' ⟨⟨r, rfl⟩, hw⟩
  subst w'
  clear HG
  cases r
  · go_wp2_with fail
    go_ret
    exact ⟨rfl, Below.refl _ _⟩
  · by_cases b1 : (4096 : Int) < (n1 : Int)
    · have d1 := dec_yes b1
      clear b1
      go_wp2_with fail
      go_ret
      exact ⟨rfl, Below.refl _ _⟩
    · have d1 := dec_no b1
      have m1 : n1 ≤ 4096 := by omega
      clear b1
      by_cases b2 : (4096 : Int) < (n2 : Int)
      · have d2 := dec_yes b2
        clear b2
        go_wp2_with fail
        go_ret
        exact ⟨rfl, Below.refl _ _⟩
      · have d2 := dec_no b2
        have m2 : n2 ≤ 4096 := by omega
        clear b2
        by_cases b3 : (4096 : Int) < (n3 : Int)
        · have d3 := dec_yes b3
          clear b3
          go_wp2_with fail
          go_ret
          exact ⟨rfl, Below.refl _ _⟩
        · have d3 := dec_no b3
          have m3 : n3 ≤ 4096 := by omega
          clear b3
          by_cases b4 : (4096 : Int) < (n4 : Int)
          · have d4 := dec_yes b4
            clear b4
            go_wp2_with fail
            go_ret
            exact ⟨rfl, Below.refl _ _⟩
          · have d4 := dec_no b4
            have m4 : n4 ≤ 4096 := by omega
            clear b4
            go_wp2_with fail
            refine (HT0.out _ (by omega) (by omega)).mono ?_
            rintro e w' ⟨⟨r1, rfl, hr1, hr1', hs1⟩, hw⟩
            subst w'
            have T5 := hid_of (HT5.out r1 hr1 hr1')
            have S1 := hid_of hs1
            clear hr1 hr1' hs1 HT0 HT5
            go_wp2_with fail
            refine T5.out.mono ?_
            rintro e w' ⟨⟨r2, rfl, hr1, hr1', hs1⟩, hw⟩
            subst w'
            have T6 := hid_of (HT6.out r2 hr1 hr1')
            have S2 := hid_of hs1
            clear hr1 hr1' hs1 HT6 T5
            go_wp2_with fail
            refine T6.out.mono ?_
            rintro e w' ⟨⟨r3, rfl, hr1, hr1', hs1⟩, hw⟩
            subst w'
            have T7 := hid_of (HT7.out r3 hr1 hr1')
            have S3 := hid_of hs1
            clear hr1 hr1' hs1 HT7 T6
            go_wp2_with fail
            refine T7.out.mono ?_
            rintro e w' ⟨⟨r4, rfl, hr1, hr1', hs1⟩, hw⟩
            subst w'
            have SZ := hid_of (⟨S1.out, S2.out, S3.out, hs1⟩ : SizesOk r1 r2 r3 r4 _ n0 n5 n6 n7)
            clear hr1 hr1' hs1 T7 S1 S2 S3
            by_cases b5 : (1048576 : Int) < r4
            · have d5 := dec_yes b5
              clear b5
              go_wp2_with fail
              go_ret
              exact ⟨rfl, Below.refl _ _⟩
            · have d5 := dec_no b5
              obtain ⟨m0, m5, m6, m7⟩ := SizesOk.all (r1 := r1) (r2 := r2) (r3 := r3) (r4 := r4) SZ.out b5
              clear b5 SZ
              go_upto_if 84 with fail
              go_cut [3] (fun s wc => ∃ a c, s = .slice a n3 c ∧ HasI .i32 wc wc.heap.size a lo ∧ Below w.heap.size w wc)
              case first =>
                cases ha : a3 with
                | none =>
                  subst ha
                  have hz := H3.out.of_none
                  go_wp2_with fail
                  go_meet
                  case rel => exact ⟨none, c3, rfl, fun h => absurd h (by rw [hz]; simp), Below.refl _ _⟩
                | some ad =>
                  subst ha
                  obtain ⟨i0, hi, hz0, hz1, hz2⟩ := info_parts info21
                  go_wp2_with (at_make; refine wpList_make_full _ rfl _ _ 41 rfl w.heap.size 21 i0 (.int .i32 0) 1 Try.underlying41 hi hz0 hz1 _ _ _ _ n3 rfl rfl rfl rfl (by rw [hz2]; omega) (by unfold maxLen; omega) (Nat.le_refl _) ?_)
                  intro w1 hown hgrow
                  obtain ⟨L, hrow, hlen⟩ := row_some hown
                  have HB1 : Hid (Below w.heap.size w w1) := (Below.refl _ _).grown hgrow (Nat.le_refl _) (fun k h => by cases h)
                  have HI1 := hid_of (H3.out.below HB1.out (Nat.le_refl _))
                  have HRow := hid_of hrow
                  have HLen := hid_of hlen
                  clear hown hgrow hrow hlen hneq3 hneq4 hi hz0 hz1 hz2
                  go_wp2_with (with_reducible refine at_copy ?_; refine wpList_copy_splice rfl _ _ 41 41 rfl 21 Try.underlying41 size21 _ _ _ _ _ _ rfl rfl w.heap.size 0 L 21 HRow.out (lo.map (Value.int .i32)) (by simp [L3.out]) (hpos_of HI1.out) (by simp [L3.out, HLen.out]) (ints_oneCell _ _) w.heap.size w HB1.out (Nat.le_refl _) ?_)
                  intro w2 HG2 hB2
                  have hg2 := HG2.out
                  rw [splice_all _ _ (by simp [L3.out, HLen.out])] at hg2
                  have HI2 := hid_of (hasI_row hg2 (row_lt hg2))
                  have HB2 := hid_of hB2
                  clear HG2 hg2 hB2
                  go_wp2_with fail
                  go_meet
                  case rel => exact ⟨_, n3, rfl, HI2.out, HB2.out⟩
              case rest =>
                rename World => w1
                obtain ⟨a3', c3', rfl, h3', hB1⟩ := hcut
                have B1 := hid_of hB1
                have K0 := hid_of ((H0.out.below hB1 (Nat.le_refl _)).mono hB1.size)
                have K1 := hid_of ((H1.out.below hB1 (Nat.le_refl _)).mono hB1.size)
                have K2 := hid_of ((H2.out.below hB1 (Nat.le_refl _)).mono hB1.size)
                have K3 := hid_of h3'
                have K4 := hid_of ((H4.out.below hB1 (Nat.le_refl _)).mono hB1.size)
                have K5 := hid_of ((H5.out.below hB1 (Nat.le_refl _)).mono hB1.size)
                have K6 := hid_of ((H6.out.below hB1 (Nat.le_refl _)).mono hB1.size)
                have K7 := hid_of ((H7.out.below hB1 (Nat.le_refl _)).mono hB1.size)
                clear h3' hB1 H0 H1 H2 H3 H4 H5 H6 H7 d1 d2 d3 d4 d5
                go_upto_if 93 with fail
                go_cut [4] (fun s wc => ∃ a c, s = .slice a n4 c ∧ HasI .i32 wc wc.heap.size a hi ∧ Below w1.heap.size w1 wc)
                case first =>
                  cases ha : a4 with
                  | none =>
                    subst ha
                    have hz := K4.out.of_none
                    go_wp2_with fail
                    go_meet
                    case rel => exact ⟨none, c4, rfl, fun h => absurd h (by rw [hz]; simp), Below.refl _ _⟩
                  | some ad =>
                    subst ha
                    obtain ⟨i0, hi, hz0, hz1, hz2⟩ := info_parts info21
                    go_wp2_with (at_make; refine wpList_make_full _ rfl _ _ 41 rfl w1.heap.size 21 i0 (.int .i32 0) 1 Try.underlying41 hi hz0 hz1 _ _ _ _ n4 rfl rfl rfl rfl (by rw [hz2]; omega) (by unfold maxLen; omega) (Nat.le_refl _) ?_)
                    intro w1' hown hgrow
                    obtain ⟨L, hrow, hlen⟩ := row_some hown
                    have HB1 : Hid (Below w1.heap.size w1 w1') := (Below.refl _ _).grown hgrow (Nat.le_refl _) (fun k h => by cases h)
                    have HI1 := hid_of (K4.out.below HB1.out (Nat.le_refl _))
                    have HRow := hid_of hrow
                    have HLen := hid_of hlen
                    clear hown hgrow hrow hlen hneq3 hneq4 hi hz0 hz1 hz2
                    go_wp2_with (with_reducible refine at_copy ?_; refine wpList_copy_splice rfl _ _ 41 41 rfl 21 Try.underlying41 size21 _ _ _ _ _ _ rfl rfl w1.heap.size 0 L 21 HRow.out (hi.map (Value.int .i32)) (by simp [L4.out]) (hpos_of HI1.out) (by simp [L4.out, HLen.out]) (ints_oneCell _ _) w1.heap.size w1 HB1.out (Nat.le_refl _) ?_)
                    intro w2 HG2 hB2
                    have hg2 := HG2.out
                    rw [splice_all _ _ (by simp [L4.out, HLen.out])] at hg2
                    have HI2 := hid_of (hasI_row hg2 (row_lt hg2))
                    have HB2 := hid_of hB2
                    clear HG2 hg2 hB2
                    go_wp2_with fail
                    go_meet
                    case rel => exact ⟨_, n4, rfl, HI2.out, HB2.out⟩
                case rest =>
                  rename World => w2
                  obtain ⟨a4', c4', rfl, h4', hB2⟩ := hcut
                  have B2 := hid_of (bt B1.out hB2)
                  have J0 := hid_of ((K0.out.below hB2 (Nat.le_refl _)).mono hB2.size)
                  have J1 := hid_of ((K1.out.below hB2 (Nat.le_refl _)).mono hB2.size)
                  have J2 := hid_of ((K2.out.below hB2 (Nat.le_refl _)).mono hB2.size)
                  have J3 := hid_of ((K3.out.below hB2 (Nat.le_refl _)).mono hB2.size)
                  have J4 := hid_of h4'
                  have J5 := hid_of ((K5.out.below hB2 (Nat.le_refl _)).mono hB2.size)
                  have J6 := hid_of ((K6.out.below hB2 (Nat.le_refl _)).mono hB2.size)
                  have J7 := hid_of ((K7.out.below hB2 (Nat.le_refl _)).mono hB2.size)
                  clear h4' hB2 K0 K1 K2 K3 K4 K5 K6 K7 B1 hneq3 hneq4
                  have HPr := hid_of (premise_any a0 a1 a2 a3' a4' a5 a6 n0 c0 n1 c1 n2 c2 n3 c3' n4 c4' n5 c5 n6 c6 _ ls os ow lk lo hi w2 J0.out J1.out J2.out J3.out J4.out J5.out (Nat.le_refl _) L0.out L1.out L2.out L3.out L4.out L5.out m0 m1 m2 m3 m4 m5 m6 Z0.out Z5.out I1.out I3.out I4.out)
                  go_wp2_with fail
                  refine HPr.out.mono ?_
                  rintro e w3 (⟨rfl, hb3⟩ | ⟨rfl, hb3, hmap, hfine⟩)
                  · have B3 := hid_of (bt B2.out hb3)
                    clear hb3 HPr
                    go_wp2_with fail
                    go_ret
                    exact ⟨rfl, B3.out⟩
                  · have hb23 := hid_of hb3
                    have HM := hid_of hmap
                    have HF := hid_of hfine
                    obtain rfl : n4 = n3 := by rw [← L3.out, ← L4.out, hfine.eq]
                    clear hb3 hmap hfine HPr
                    have HHe := hid_of (held_any a1 n1 c1 _ ow w3 (J1.out.below hb23.out (Nat.le_refl _)) hb23.out.size L1.out m1 I1.out)
                    go_wp2_with fail
                    refine HHe.out.mono ?_
                    rintro e w4 ⟨ap, cp, ao, co, mm, rfl, hmm, hp, ho, hb4⟩
                    have X4 := hid_of (bt hb23.out hb4)
                    have Y4 := hid_of hb4
                    have P4 := hid_of hp
                    have O4 := hid_of ho
                    have MM := hid_of hmm
                    have mm4 : mm ≤ 4096 := by have := heldP_le ow n1; omega
                    clear hmm hp ho hb4 HHe
                    have HNl := hid_of (names_any a0 n0 c0 _ ls w4 (J0.out.below X4.out (Nat.le_refl _)) X4.out.size L0.out m0)
                    go_wp2_with fail
                    refine HNl.out.mono ?_
                    rintro e w5 ⟨rfl, hn5, hb5⟩
                    have X5 := hid_of (bt X4.out hb5)
                    have Y5 := hid_of hb5
                    clear hn5 hb5 HNl
                    have HNx := hid_of (nameIndex_any a0 n0 c0 _ ls w5 (J0.out.below X5.out (Nat.le_refl _)) X5.out.size L0.out m0 Z0.out)
                    go_wp2_with fail
                    refine HNx.out.mono ?_
                    rintro e w6 ⟨⟨mb, rfl⟩, hb6⟩
                    have X6 := hid_of (bt X5.out hb6)
                    have Y6 := hid_of (bt Y5.out hb6)
                    clear hb6 HNx
                    go_wp2_with fail
                    refine (newAtoms_any _ _ _ _ w6).mono ?_
                    rintro e w7 ⟨rfl, hb7, hs7⟩
                    have X7 := hid_of (bt X6.out hb7)
                    have Y7 := hid_of (bt Y6.out hb7)
                    clear hb7 hs7
                    have HCs := hid_of (copyStrings a6 n6 c6 _ is w7 (J6.out.below X7.out (Nat.le_refl _)) X7.out.size L6.out m6)
                    go_wp2_with fail
                    refine HCs.out.mono ?_
                    rintro e w8 ⟨ai, ci, rfl, _, hb8⟩
                    have X8 := hid_of (bt X7.out hb8)
                    have Y8 := hid_of (bt Y7.out hb8)
                    clear hb8 HCs
                    have HCi := hid_of (copyInt64 a2 n2 c2 _ lk w8 (J2.out.below X8.out (Nat.le_refl _)) X8.out.size L2.out m2)
                    go_wp2_with fail
                    refine HCi.out.mono ?_
                    rintro e w9 ⟨al, cl, rfl, hcl1, hcl2, hlk9, hb9⟩
                    have X9 := hid_of (bt X8.out hb9)
                    have Y9 := hid_of (bt Y8.out hb9)
                    have K9 := hid_of hlk9
                    have CL := hid_of (And.intro hcl1 hcl2)
                    clear hb9 HCi hlk9 hcl1 hcl2
                    have HNo := hid_of (names_any a5 n5 c5 _ os w9 (J5.out.below X9.out (Nat.le_refl _)) X9.out.size L5.out m5)
                    go_wp2_with fail
                    refine HNo.out.mono ?_
                    rintro e w10 ⟨rfl, hn10, hb10⟩
                    have X10 := hid_of (bt X9.out hb10)
                    have Y10 := hid_of (bt Y9.out hb10)
                    have HNh := hid_of (newHolding_full w6.heap.size ai ap ao a3' a4' al (some ⟨w9.heap.size, 0, none⟩) n6 ci mm cp co n4 c3' c4' n2 cl n5 n5 w10.heap.size (heldP ow n1) (heldO ow n1) lo hi lk os w10
                      ((P4.out.below Y10.out (Nat.le_refl _)).mono Y10.out.size) ((O4.out.below Y10.out (Nat.le_refl _)).mono Y10.out.size) ((J3.out.below X10.out (Nat.le_refl _)).mono X10.out.size) ((J4.out.below X10.out (Nat.le_refl _)).mono X10.out.size) ((K9.out.below hb10 (Nat.le_refl _)).mono hb10.size) hn10 (Nat.le_refl _)
                      MM.out.symm ((heldO_len ow n1).trans MM.out.symm) L3.out L4.out L2.out L5.out mm4 m4 CL.out.1 CL.out.2)
                    clear hn10 hb10 HNo
                    go_wp2_with fail
                    refine HNh.out.mono ?_
                    rintro e w11 ⟨hb, rfl, hb11, hHC⟩
                    have X11 := hid_of (bt X10.out hb11)
                    have V11 := hid_of (bt (bt Y4.out Y10.out) hb11)
                    have HC11 := hid_of hHC
                    clear hb11 hHC HNh
                    go_wp2_with fail
                    obtain ⟨w12, hw12⟩ : ∃ w12, w12 = w11.alloc (.cells #[.pointer (some ⟨hb, 0, none⟩)] 32) := ⟨_, rfl⟩
                    rw [← hw12]
                    have Y12 : Hid (Below w11.heap.size w11 w12) := by rw [hw12]; exact (Below.refl _ _).alloc (Nat.le_refl _) _
                    have S12 : Hid (w12.heap.size = w11.heap.size + 1) := by rw [Hid, hw12]; simp
                    have C12 : Hid (w12.cell? ⟨w11.heap.size, 0, none⟩ = some (.pointer (some ⟨hb, 0, none⟩))) := by rw [Hid, hw12]; simp [go_sem]
                    have X12 := hid_of (bt X11.out Y12.out)
                    have HM12 := hid_of (ownsMap_below HM.out (bt V11.out Y12.out) HM.out.lt)
                    have HSp := hid_of (split_any a7 n7 c7 _ w2.heap.size ls cs w12 (J7.out.below X12.out (Nat.le_refl _)) X12.out.size HM12.out.lt HM12.out L7.out m7 Z7.out)
                    clear hw12
                    refine HSp.out.mono ?_
                    rintro e w13 ⟨sa, sc, sb, sd, q1, q2, rfl, hq1, hq2, hps, hcs, hb13⟩
                    have X13 := hid_of (bt X12.out hb13)
                    have HM13 := hid_of (ownsMap_below HM12.out hb13 HM12.out.lt)
                    have HC13 := hid_of (((HC11.out.below Y12.out (Nat.le_refl _)).below hb13 Y12.out.size).mono (Nat.le_trans Y12.out.size hb13.size))
                    have PS := hid_of hps
                    have CS := hid_of hcs
                    have Q1 := hid_of hq1
                    have Q2 := hid_of hq2
                    have c13 : w13.cell? ⟨w11.heap.size, 0, none⟩ = some (.pointer (some ⟨hb, 0, none⟩)) := by
                      rw [hb13.cell (p := ⟨w11.heap.size, 0, none⟩) (by have := S12.out; show w11.heap.size < _; omega)]; exact C12.out
                    have LT13 : Hid (w11.heap.size < w13.heap.size) := by have := S12.out; have := hb13.size; rw [Hid]; omega
                    have C13 := hid_of c13
                    have q14 : q1 ≤ 4096 := by rw [hq1]; exact Nat.le_trans (splitP_le _ _ _) m7
                    have q24 : q2 ≤ 4096 := by rw [hq2]; exact Nat.le_trans (splitO_le _ _ _) m7
                    clear hq1 hq2 hps hcs hb13 HSp HM12 HM V11 X12 X11 X10 Y10 Y4 Y5 Y6 Y7 Y8 Y9 X4 X5 X6 X7 X8 X9 Y12 S12 C12 HC11 P4 O4 CL K9 hb23
                    have CK : Hid (∀ w', Below w13.heap.size w13 w' → w'.cell? ⟨w11.heap.size, 0, none⟩ = some (.pointer (some ⟨hb, 0, none⟩))) := fun w' h => (h.cell (p := ⟨w11.heap.size, 0, none⟩) LT13.out).trans C13.out
                    have HCC : Hid (∀ a n c wX, Below w13.heap.size w13 wX → Calls Try.prog 29 #[.agg #[.pointer (some ⟨hb, 0, none⟩)], .agg #[.slice a n c, .pointer (some ⟨w6.heap.size, 0, none⟩), .slice sa q1 sc, .slice sb q2 sd]] wX fun e w' =>
                        Ans (AllMet (heldP ow n1) (heldO ow n1) (splitP ls cs n7) os (splitO ls cs n7)) (fun v => ∃ u, u < (splitP ls cs n7).length ∧ OnCh (heldP ow n1) (heldO ow n1) lo hi lk ((splitP ls cs n7).getD u 0) v) w13 e w') := fun a n c wX hX => by
                      refine (callCond_any hb w6.heap.size w13.heap.size a sa sb n c q1 sc q2 sd (heldP ow n1) (heldO ow n1) lo hi lk (splitP ls cs n7) os (splitO ls cs n7) wX (HC13.out.below hX (Nat.le_refl _)) hX.size (PS.out.below hX (Nat.le_refl _)) (CS.out.below hX (Nat.le_refl _)) Q1.out.symm Q2.out.symm q14 q24
                        (by rw [← MM.out]; exact mm4) (fun i hi' => ?_) (asc_of_up (held_up ow n1).1) (fun u hu => ?_) (heldO_len ow n1) (fun i hi' => ?_) HF.out.ch (by rw [L2.out]; exact m2) (by rw [L3.out]; exact m4) (by rw [L5.out]; exact m5)).mono ?_
                      · obtain ⟨k, hk, e1, _⟩ := held_at ow n1 i hi'
                        rw [e1]; omega
                      · obtain ⟨k, hk, e1⟩ := split_bound HF.out.dis hu
                        rw [L0.out] at hk
                        rw [e1]; omega
                      · rw [heldO_len] at hi'
                        obtain ⟨k, hk, _, e1, e2⟩ := held_at ow n1 i hi'
                        rw [e1]
                        exact ⟨e2, HF.out.own k (by rw [L1.out]; exact hk)⟩
                      · intro e w' h
                        exact (cond_ans h (by rw [L2.out]; exact m2)).back hX
                    have HNc := hid_of (names_any a7 n7 c7 _ cs w13.drew (J7.out.below X13.out.drew (Nat.le_refl _)) X13.out.size L7.out m7)
                    go_wp2_with fail
                    go_cut [27, 28] (fun v u wq => AnsV (AllMet (heldP ow n1) (heldO ow n1) (splitP ls cs n7) os (splitO ls cs n7)) (fun v => ∃ u, u < (splitP ls cs n7).length ∧ OnCh (heldP ow n1) (heldO ow n1) lo hi lk ((splitP ls cs n7).getD u 0) v) w13 v u wq)
                    case first =>
                      go_region_held3 (fun w' => w'.cell? ⟨w11.heap.size, 0, none⟩ = some (.pointer (some ⟨hb, 0, none⟩))) (go_keep) (first | (go_at_call 24; refine HNc.out.mono ?_; rintro e w14 ⟨rfl, hn14, hb14⟩; have HB14 : Hid (Below w13.heap.size w13 w14) := of_drew hb14; have c14 := CK.out w14 HB14.out; clear hn14 hb14) | (go_at_call 30; refine (newCondition_any _ _ _ _ _ _ _ _ _ _ _).mono ?_; rintro e w15 ⟨rfl, hb15⟩; have HB15 := hid_of (bt HB14.out hb15); have c15 := CK.out w15 HB15.out; clear hb15) | (go_at_call 29; refine (HCC.out _ _ _ _ HB15.out).mono ?_; rintro e w16 ⟨v16, u16, rfl, hans⟩; have HA16 := hid_of hans; have c16 : w16.cell? ⟨w11.heap.size, 0, none⟩ = some (.pointer (some ⟨hb, 0, none⟩)) := (by obtain ⟨_, _, _, _, _, _, _, h, _⟩ := hans; exact CK.out w16 h); clear hans))
                      go_wp2_with fail
                      go_meet
                      case rel => exact HA16.out
                    case rest =>
                      rename World => w16
                      obtain ⟨ga, gn, gc, gr, gz, rfl, rfl, hb16, hI16, hl16, hr16, hu16, hm16, hn16, hg4⟩ := hcut
                      have X16 := hid_of (bt X13.out hb16)
                      have HM16 := hid_of (ownsMap_below HM13.out hb16 HM13.out.lt)
                      have G1 := hid_of hI16
                      have G2 := hid_of hl16
                      have G3 := hid_of hr16
                      have G4 := hid_of hu16
                      have G5 := hid_of hm16
                      have G6 := hid_of hn16
                      have HMo := hid_of (model_any a1 a2 a3' a4' a5 a7 n1 c1 n2 c2 n4 c3' c4' n5 c5 n7 c7 w2.heap.size w2.heap.size ls os cs ow lk lo hi w16 (J1.out.below X16.out (Nat.le_refl _)) (J2.out.below X16.out (Nat.le_refl _)) (J3.out.below X16.out (Nat.le_refl _)) (J4.out.below X16.out (Nat.le_refl _)) (J5.out.below X16.out (Nat.le_refl _)) (J7.out.below X16.out (Nat.le_refl _)) X16.out.size
                        HM16.out.lt HM16.out L1.out L2.out L3.out L4.out L5.out L7.out (by rw [L0.out]; exact m0) m1 m2 m4 m5 m7 Z5.out Z7.out HF.out)
                      clear hb16 hI16 hl16 hr16 hu16 hm16 hn16 HNc HCC CK C13 c13 LT13 PS CS Q1 Q2 HC13 HM13
                      go_wp2_with fail
                      refine HMo.out.mono ?_
                      intro e w17 hmod
                      obtain ⟨v17, u17', rfl, ha, hn, hc, hr, hz, rfl, rfl, hb17, hI17, hl17, hr17, hu17, hm17, hn17, hh4⟩ := mod_ans hmod (by rw [L2.out]; exact m2)
                      clear hmod HMo
                      have X17 := hid_of (bt X16.out hb17)
                      have er : gr = hr := by
                        have e1 := G3.out
                        rw [← L1.out, ← L7.out, met_iff HF.out.dis] at e1
                        have e2 := e1.trans hr17.symm
                        cases gr <;> cases hr <;> simp_all
                      subst er
                      have ez : gz = hz := by
                        cases gr
                        · rw [G6.out rfl, hn17 rfl]
                        · have hmet := hr17.1 rfl
                          refine up_ext G4.out hu17 (fun v => ?_)
                          rw [G5.out rfl v, hm17 rfl v, ← L1.out, ← L7.out]
                          exact chain_iff HF.out hmet v
                      subst ez
                      obtain rfl : gn = hn := by rw [← G2.out, ← hl17]
                      have HSm := hid_of (sameInt64_yes ga ha gn gc hc w17.heap.size gz w17 ((G1.out.below hb17 (Nat.le_refl _)).mono hb17.size) hI17 G2.out (by omega))
                      clear hb17 hI17 hl17 hr17 hu17 hm17 hn17
                      go_wp2_with fail
                      refine HSm.out.mono ?_
                      rintro e w18 ⟨rfl, q, rfl⟩
                      go_wp2_with fail
                      go_ret
                      exact ⟨rfl, below_drewN (bt B2.out X17.out) q⟩

end Go.Proofs.Qxb6608735a
