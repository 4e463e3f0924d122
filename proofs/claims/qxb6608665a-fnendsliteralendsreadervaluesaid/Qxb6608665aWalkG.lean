import Derived.Test.Qxb6608665aWalkF
namespace Go.Proofs.Qxb6608665a
open Go.RowKit
set_option linter.unusedVariables false

theorem reader_new {w5 w6 : World} {B m cap : Nat} (h : w6 = w5.alloc (.cells #[.slice (some ⟨B, 0, none⟩) m cap, .int .i64 0, .slice none 0 0] 45)) :
    w6.cell? ⟨w5.heap.size, 0, none⟩ = some (.slice (some ⟨B, 0, none⟩) m cap) ∧ w6.cell? ⟨w5.heap.size, 1, none⟩ = some (.int .i64 0) ∧ w6.frozen? ⟨w5.heap.size, 1, none⟩ = false ∧ Below w5.heap.size w5 w6 := by
  subst h
  refine ⟨by rw [World.cell?_alloc_new]; rfl, by rw [World.cell?_alloc_new]; rfl, World.frozen?_alloc_at _ _ _ _ rfl, (Below.refl _ _).alloc (Nat.le_refl _) _⟩

theorem got_left {zs : List Int} {c : Int} {k : Nat} (h : k < zs.length) : (zs ++ [c]).getD k 0 = zs.getD k 0 := by simp [List.getElem?_append_left h]
theorem got_last {zs : List Int} {c : Int} {n : Nat} (h : zs.length = n) : (zs ++ [c]).getD n 0 = c := by simp [← h]

theorem all_left {zs : List Int} {c : Int} {n : Nat} (hn : zs.length = n) (hl : ∀ j, j < n → litB (zs.getD j 0) = true) (hE : endB c = false) : ∀ k, k < n + 1 → endB ((zs ++ [c]).getD k 0) = false := by
  intro k hk
  by_cases e : k < n
  · rw [got_left (by rw [hn]; exact e)]
    exact (lit_not (hl k e)).1
  · obtain rfl : k = n := by omega
    rw [got_last hn]
    exact hE

set_option maxRecDepth 100000 in
set_option maxHeartbeats 1000000 in
theorem law2_some (b off n cap : Nat) (zs : List Int) (c : Int) (w : World) (hr : Reads w b off zs) (hn : zs.length = n) (hm : n ≤ cap) (hmax : cap ≤ maxLen) (hbw : b < w.heap.size) :
    Calls Try.prog 6 #[.slice (some ⟨b, off, none⟩) n cap, .int .u8 c] w fun e w' => e = .returned (.bool true) ∧ Below w.heap.size w w' := by
  have HR := hid_of hr
  have HN := hid_of hn
  clear hr hn
  unfold maxLen at hmax
  by_cases hbig : 1048576 < n
  · have HG := hid_of (guard_no (some ⟨b, off, none⟩) n cap c w hbig)
    go_enter Try.func6, Try.ntmps6
    go_wp2_with fail
    refine HG.out.mono ?_
    rintro e w' ⟨rfl, hw⟩
    subst w'
    go_wp2_with fail
    go_ret
    exact ⟨rfl, Below.refl _ _⟩
  · have HG := hid_of (guard_yes (some ⟨b, off, none⟩) n cap c w (by omega))
    by_cases hbig2 : 1048576 ≤ n ∨ n = 0
    · have hc : 1048576 ≤ n ∨ n = 0 := hbig2
      clear hbig2
      rcases hc with hc | hc
      · have hci : (1048576 : Int) ≤ (n : Int) := by omega
        clear hc hbig
        go_enter Try.func6, Try.ntmps6
        go_wp2_with fail
        refine HG.out.mono ?_
        rintro e w' ⟨rfl, hw⟩
        subst w'
        go_wp2_with fail
        go_ret
        exact ⟨rfl, Below.refl _ _⟩
      · subst hc
        go_enter Try.func6, Try.ntmps6
        go_wp2_with fail
        refine HG.out.mono ?_
        rintro e w' ⟨rfl, hw⟩
        subst w'
        go_wp2_with fail
        go_ret
        exact ⟨rfl, Below.refl _ _⟩
    · have h1 : n < 1048576 := by omega
      have h0 : 0 < n := by omega
      have h2 : ((n : Int) == 0) = false := by simp; omega
      have hdd : decide ((1048576 : Int) ≤ (n : Int)) = false := by simp; omega
      have H1 := hid_of h1
      have H0 := hid_of h0
      clear hbig hbig2 h1 h0
      obtain ⟨i0, hi, hz0, hz1, hz2⟩ := info_parts info5
      go_enter Try.func6, Try.ntmps6
      go_wp2_with fail
      refine HG.out.mono ?_
      rintro e w' ⟨rfl, hw⟩
      subst w'
      go_wp2_with fail
      go_loop [5] (fun t => ∃ k : Nat, t = .int .i64 k ∧ k ≤ n ∧ ∀ j, j < k → litB (zs.getD j 0) = true) (fun t => n - (intOf t).toNat)
      case atStart => exact ⟨0, rfl, by omega, fun j hj => by omega⟩
      case round =>
        obtain ⟨k, rfl, hk, hall⟩ := hrel
        have HA := hid_of hall
        clear hall
        by_cases hlt : k < n
        · have hcell := HR.out k (by rw [HN.out]; exact hlt)
          obtain ⟨d, hd⟩ : ∃ d, d = zs.getD k 0 := ⟨_, rfl⟩
          rw [← hd] at hcell
          have HD := hid_of hd
          clear hd
          cases hl : litB d
          · go_wp2_with (go_at_call 17; refine (literal_any _ _).mono ?_; rintro e w' ⟨rfl, rfl⟩)
            go_ret
            exact ⟨rfl, Below.refl _ _⟩
          · go_wp2_with (go_at_call 17; refine (literal_any _ _).mono ?_; rintro e w' ⟨rfl, rfl⟩)
            go_round
            case rel =>
              refine ⟨k + 1, by go_num, by omega, fun j hj => ?_⟩
              by_cases e : j = k
              · subst e; rw [← HD.out]; exact hl
              · exact HA.out j (by omega)
            case measure => simp [intOf]; omega
        · have HL : Hid (∀ j, j < n → litB (zs.getD j 0) = true) := fun j hj => HA.out j (by omega)
          clear HA hm hmax
          have hnb : n ≤ 2000000 := by have := H1.out; omega
          go_wp2_with (first
            | (at_make; refine wpList_make_own _ rfl _ _ 22 rfl w.heap.size 5 i0 (.int .u8 0) 1 Try.underlying22 hi hz0 hz1 _ _ _ (n + 1) rfl rfl (by omega) (by have := H1.out; rw [hz2]; omega) (by have := H1.out; unfold maxLen; omega) (Nat.le_refl _) ?_))
          intro w1 hown1 hgrow1
          have HO1 := hid_of hown1
          have HB1 := hid_of ((Below.refl _ _).grown hgrow1 (Nat.le_refl _) (fun k h => by cases h) : Below w.heap.size w w1)
          have HR1 := hid_of (reads_below HR.out HB1.out hbw)
          clear hown1 hgrow1
          go_wp2_with (first
            | (at_builtin; refine wpList_append_fits _ rfl _ _ 22 rfl w.heap.size 5 i0 1 Try.underlying22 hi hz1 w.heap.size 0 (n + 1) [] rfl HO1.out ⟨b, off, none⟩ n cap (zs.map (Value.int .u8)) rfl (by simp [HN.out]) (cells_of HR1.out) (ints_oneCell _ _) (by omega) ?_))
          intro w2 hown2 hgrow2
          have HO2 := hid_of hown2
          have HB2 := hid_of (HB1.out.grown hgrow2 HB1.out.size (fun k h => by cases h; exact Nat.le_refl _))
          clear hown2 hgrow2
          go_wp2_with (first
            | (at_builtin; refine wpList_append_fits _ rfl _ _ 22 rfl w.heap.size 5 i0 1 Try.underlying22 hi hz1 w.heap.size n (n + 1) (zs.map (Value.int .u8)) rfl (HO2.out.alloc _) ⟨w2.heap.size, 0, none⟩ 1 1 [.int .u8 c] rfl rfl (cell_one_new _ _ _) (by simp [Value.oneCell']) (by omega) ?_))
          intro w3 hown3 hgrow3
          have hrow3 := (row_full hown3).1
          have HB3 := hid_of ((HB2.out.alloc HB2.out.size _).grown hgrow3 (by have := HB2.out.size; simp; omega) (fun k h => by cases h; exact Nat.le_refl _))
          have HR3 : Hid (Reads w3 w.heap.size 0 (zs ++ [c])) := reads_row (by rw [List.map_append]; exact hrow3)
          have HS3 : Hid (w.heap.size < w3.heap.size) := (Array.getElem?_eq_some_iff.1 hrow3).1
          clear hown3 hgrow3 hrow3 HO1 HO2 HB1 HB2 HR1 hi hz0 hz1 hz2
          go_wp2_with fail
          refine (follows_any c w3).mono ?_
          rintro e w4 ⟨rfl, hb4⟩
          have HR4 := hid_of (reads_below HR3.out hb4 HS3.out)
          have HB4 := hid_of (HB3.out.trans (hb4.mono (Nat.le_of_lt HS3.out)))
          have HS4 : Hid (w.heap.size < w4.heap.size) := Nat.lt_of_lt_of_le HS3.out hb4.size
          clear hb4 HR3 HB3 HS3
          go_wp2_with fail
          refine (clone_any w.heap.size (n + 1) (n + 1) (zs ++ [c]) w4 HR4.out (by simp [HN.out]) (by have := H1.out; omega) HS4.out).mono ?_
          rintro e w5 ⟨rfl, hb5, hr5, hs5⟩
          have HR5 := hid_of (reads_below HR4.out hb5 HS4.out)
          have HC5 := hid_of hr5
          have HB5 := hid_of (HB4.out.trans (hb5.mono (Nat.le_of_lt HS4.out)))
          have HS5 := hid_of hs5
          have HS54 : Hid (w.heap.size < w4.heap.size) := HS4.out
          clear hb5 hr5 hs5 HR4 HB4 HS4
          cases hE : endB c
          · go_wp2_with fail
            refine (newReader_any _ _ _ _ _).mono ?_
            rintro e w6 ⟨rfl, hw6⟩
            obtain ⟨ht6, hp6, hf6, hb6⟩ := reader_new hw6
            have hv := readerValue_any w5.heap.size w.heap.size (n + 1) (n + 1) (n + 1) (zs ++ [c]) w6 (by have := H1.out; unfold maxLen; omega) ht6 hp6 hf6 (reads_below HR5.out hb6 (Nat.lt_trans HS54.out HS5.out)) (by simp [HN.out]) (Nat.lt_trans HS54.out HS5.out) (Nat.le_refl _) _ rfl (by rw [got_left (by rw [HN.out]; exact H0.out)]; exact HL.out 0 H0.out) (by have := H0.out; omega) (by omega) (all_left HN.out HL.out hE) (fun h => absurd h (Nat.lt_irrefl _))
            have HV := hid_of hv
            have HRB := hid_of (reads_below HR5.out hb6 (Nat.lt_trans HS54.out HS5.out))
            have HRC := hid_of (reads_below HC5.out hb6 HS5.out)
            have HB6 := hid_of (HB5.out.trans (hb6.mono (Nat.le_of_lt (Nat.lt_trans HS54.out HS5.out))))
            clear hw6 ht6 hp6 hf6 hb6 hv
            go_wp2_with fail
            refine HV.out.mono ?_
            rintro e w7 ⟨rfl, hb7, hc7⟩
            have HE := hid_of (bytesEqual_yes w.heap.size w4.heap.size (n + 1) (n + 1) (n + 1) (zs ++ [c]) w7 (reads_below HRB.out hb7 (Nat.lt_trans HS54.out HS5.out)) (reads_below HRC.out hb7 HS5.out) (by simp [HN.out]) (by have := H1.out; omega))
            have HP := hid_of (fun q => pos_any w5.heap.size _ (w7.drewN q) hc7)
            have HB7 := hid_of (HB6.out.trans (hb7.mono (Nat.le_of_lt (Nat.lt_trans HS54.out HS5.out))))
            clear hb7 hc7
            go_wp2_with fail
            refine HE.out.mono ?_
            rintro e w8 ⟨rfl, q, rfl⟩
            go_wp2_with fail
            refine (HP.out _).mono ?_
            rintro e w9 ⟨rfl, hw9⟩
            subst w9
            go_wp2_with fail
            refine (zzEnds_any _ _).mono ?_
            rintro e w9 ⟨rfl, hw9⟩
            subst w9
            go_wp2_with fail
            go_ret
            exact ⟨by simp, below_drewN HB7.out _⟩
          · go_wp2_with fail
            refine (newReader_any _ _ _ _ _).mono ?_
            rintro e w6 ⟨rfl, hw6⟩
            obtain ⟨ht6, hp6, hf6, hb6⟩ := reader_new hw6
            have hv := readerValue_any w5.heap.size w.heap.size (n + 1) (n + 1) n (zs ++ [c]) w6 (by have := H1.out; unfold maxLen; omega) ht6 hp6 hf6 (reads_below HR5.out hb6 (Nat.lt_trans HS54.out HS5.out)) (by simp [HN.out]) (Nat.lt_trans HS54.out HS5.out) (Nat.le_refl _) _ rfl (by rw [got_left (by rw [HN.out]; exact H0.out)]; exact HL.out 0 H0.out) (by have := H0.out; omega) (by omega) (fun k hk => by rw [got_left (by rw [HN.out]; exact hk)]; exact (lit_not (HL.out k hk)).1) (fun _ => by rw [got_last HN.out]; exact hE)
            have HV := hid_of hv
            have HRB := hid_of (reads_below HR5.out hb6 (Nat.lt_trans HS54.out HS5.out))
            have HRC := hid_of (reads_below HC5.out hb6 HS5.out)
            have HB6 := hid_of (HB5.out.trans (hb6.mono (Nat.le_of_lt (Nat.lt_trans HS54.out HS5.out))))
            clear hw6 ht6 hp6 hf6 hb6 hv
            go_wp2_with fail
            refine HV.out.mono ?_
            rintro e w7 ⟨rfl, hb7, hc7⟩
            have HE := hid_of (bytesEqual_yes w.heap.size w4.heap.size n (n + 1) (n + 1) (zs ++ [c]) w7 (reads_below HRB.out hb7 (Nat.lt_trans HS54.out HS5.out)) (reads_below HRC.out hb7 HS5.out) (by simp [HN.out]) (by have := H1.out; omega))
            have HP := hid_of (fun q => pos_any w5.heap.size _ (w7.drewN q) hc7)
            have HB7 := hid_of (HB6.out.trans (hb7.mono (Nat.le_of_lt (Nat.lt_trans HS54.out HS5.out))))
            clear hb7 hc7
            go_wp2_with fail
            refine HE.out.mono ?_
            rintro e w8 ⟨rfl, q, rfl⟩
            go_wp2_with fail
            refine (HP.out _).mono ?_
            rintro e w9 ⟨rfl, hw9⟩
            subst w9
            go_wp2_with fail
            refine (zzEnds_any _ _).mono ?_
            rintro e w9 ⟨rfl, hw9⟩
            subst w9
            go_wp2_with fail
            go_ret
            exact ⟨by simp, below_drewN HB7.out _⟩

theorem law2_empty (a : Option Addr) (cap : Nat) (c : Int) (w : World) : Calls Try.prog 6 #[.slice a 0 cap, .int .u8 c] w fun e w' => e = .returned (.bool true) ∧ Below w.heap.size w w' := by
  have HG := hid_of (guard_yes a 0 cap c w (by omega))
  go_enter Try.func6, Try.ntmps6
  go_wp2_with fail
  refine HG.out.mono ?_
  rintro e w' ⟨rfl, hw⟩
  subst w'
  go_wp2_with fail
  go_ret
  exact ⟨rfl, Below.refl _ _⟩

end Go.Proofs.Qxb6608665a
