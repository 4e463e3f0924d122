import Derived.Test.Qxb6613409aRows
import Derived.WalkKit
import Derived.WalkSpells
import Derived.Below
namespace Go.Proofs.Qxb6613409a
open Go.RowKit
set_option linter.unusedVariables false

theorem hid_of {p : Prop} (h : p) : Hid p := h
theorem ret_int {k : IntKind} {a b : Int} (h : a = b) : Ending.returned (.int k a) = .returned (.int k b) := by rw [h]

/-- whole years, toward zero -/
def yr (m : Int) : Int := m.tdiv 12
theorem yr_pos {m : Int} (h : 0 ≤ m) : yr m = m / 12 := by unfold yr; exact Int.tdiv_eq_ediv_of_nonneg h
theorem yr_neg {m : Int} (h : m < 0) : yr m = -((-m) / 12) := by
  unfold yr
  have e : m.tdiv 12 = -((-m).tdiv 12) := by rw [Int.neg_tdiv, Int.neg_neg]
  rw [e, Int.tdiv_eq_ediv_of_nonneg (by omega)]

theorem wrap_in {m : Int} (h0 : -9223372036854775808 ≤ m) (h1 : m ≤ 9223372036854775807) : wrap64 m = m := IntWalk.wrap64_in m ⟨h0, h1⟩
theorem yr_lo {m : Int} (h0 : -9223372036854775808 ≤ m) : -9223372036854775808 ≤ yr m := by
  by_cases h : 0 ≤ m
  · rw [yr_pos h]; omega
  · rw [yr_neg (by omega)]; omega
theorem yr_hi {m : Int} (h1 : m ≤ 9223372036854775807) : yr m ≤ 9223372036854775807 := by
  by_cases h : 0 ≤ m
  · rw [yr_pos h]; omega
  · rw [yr_neg (by omega)]; omega

theorem year_any (m : Int) (w : World) (h0 : -9223372036854775808 ≤ m) (h1 : m ≤ 9223372036854775807) :
    Calls Try.prog 5 #[.int .i64 m] w fun e w' => e = .returned (.int .i64 (yr m)) ∧ w' = w := by
  have H := hid_of (wrap_in (yr_lo h0) (yr_hi h1))
  clear h0 h1
  go_enter Try.func5, Try.ntmps5
  go_wp2_with fail
  go_ret
  exact ⟨ret_int H.out, rfl⟩

theorem law7 (m : Int) (w : World) (h0 : -9223372036854775808 ≤ m) (h1 : m ≤ 9223372036854775807) :
    Calls Try.prog 3 #[.int .i64 m] w fun e w' => e = .returned (.bool true) ∧ w' = w := by
  have HY := hid_of (year_any m w h0 h1)
  by_cases hm : 0 ≤ m
  · have hy := yr_pos hm
    obtain ⟨y, hyy⟩ : ∃ y, y = yr m := ⟨_, rfl⟩
    rw [← hyy] at HY
    have b1 : 12 * y ≤ m := by omega
    have b2 : m ≤ 12 * y + 11 := by omega
    have b3 : 0 ≤ y := by omega
    by_cases hbig : m ≤ 9223372036854775795
    · have HY2 := hid_of (year_any (m + 12) w (by omega) (by omega))
      have e2 : yr (m + 12) = y + 1 := by rw [yr_pos (by omega)]; omega
      rw [e2] at HY2
      have hd : decide (m ≤ 9223372036854775795) = true := by simpa using hbig
      have hb4 : m ≤ 4611686018427387904 * 2 - 13 := by omega
      clear hy hyy e2
      go_enter Try.func3, Try.ntmps3
      go_wp2_with fail
      refine HY.out.mono ?_
      rintro e w' ⟨rfl, hw⟩
      subst w'
      go_wp2_with fail
      refine HY2.out.mono ?_
      rintro e w' ⟨rfl, hw⟩
      subst w'
      go_wp2_with fail
      go_ret
      exact ⟨rfl, rfl⟩
    · have hd : decide (m ≤ 9223372036854775795) = false := by simpa using hbig
      clear hy hyy hbig
      go_enter Try.func3, Try.ntmps3
      go_wp2_with fail
      refine HY.out.mono ?_
      rintro e w' ⟨rfl, hw⟩
      subst w'
      go_wp2_with fail
      go_ret
      exact ⟨rfl, rfl⟩
  · have hm' : m < 0 := by omega
    have hy := yr_neg hm'
    obtain ⟨y, hyy⟩ : ∃ y, y = yr m := ⟨_, rfl⟩
    rw [← hyy] at HY
    have b1 : m ≤ 12 * y := by omega
    have b2 : 12 * y ≤ m + 11 := by omega
    have b3 : y ≤ 0 := by omega
    clear hm
    by_cases hbig : -9223372036854775796 ≤ m
    · have HY2 := hid_of (year_any (m - 12) w (by omega) (by omega))
      have e2 : yr (m - 12) = y - 1 := by rw [yr_neg (by omega)]; omega
      rw [e2] at HY2
      have hd : decide (-9223372036854775796 ≤ m) = true := by simpa using hbig
      clear hy hyy e2
      go_enter Try.func3, Try.ntmps3
      go_wp2_with fail
      refine HY.out.mono ?_
      rintro e w' ⟨rfl, hw⟩
      subst w'
      go_wp2_with fail
      refine HY2.out.mono ?_
      rintro e w' ⟨rfl, hw⟩
      subst w'
      go_wp2_with fail
      go_ret
      exact ⟨rfl, rfl⟩
    · have hd : decide (-9223372036854775796 ≤ m) = false := by simpa using hbig
      clear hy hyy hbig
      go_enter Try.func3, Try.ntmps3
      go_wp2_with fail
      refine HY.out.mono ?_
      rintro e w' ⟨rfl, hw⟩
      subst w'
      go_wp2_with fail
      go_ret
      exact ⟨rfl, rfl⟩

theorem yr_step_pos {k : Int} (h : 0 < k + 1) (hm : (k + 1) % 12 = 0) : yr (k + 1) = yr k + 1 := by
  rw [yr_pos (by omega)]
  by_cases h0 : 0 ≤ k
  · rw [yr_pos h0]; omega
  · exfalso; omega
theorem yr_step_pos0 {k : Int} (h : 0 < k + 1) (hm : ¬ (k + 1) % 12 = 0) : yr (k + 1) = yr k := by
  rw [yr_pos (by omega), yr_pos (by omega)]; omega
theorem yr_step_neg {k : Int} (h : k + 1 ≤ 0) (hm : k % 12 = 0) : yr (k + 1) = yr k + 1 := by
  rw [yr_neg (m := k) (by omega)]
  by_cases h0 : k + 1 = 0
  · exfalso; omega
  · rw [yr_neg (by omega)]; omega
theorem yr_step_neg0 {k : Int} (h : k + 1 ≤ 0) (hm : ¬ k % 12 = 0) : yr (k + 1) = yr k := by
  rw [yr_neg (m := k) (by omega)]
  by_cases h0 : k + 1 = 0
  · rw [h0]; have : k = -1 := by omega
    subst this; rfl
  · rw [yr_neg (by omega)]; omega

theorem udiff {a b : Int} (ha0 : -9223372036854775808 ≤ a) (ha1 : a ≤ 9223372036854775807) (hb0 : -9223372036854775808 ≤ b) (hb1 : b ≤ 9223372036854775807) (hab : a ≤ b) : IntKind.u64.wrap (IntKind.u64.wrap b - IntKind.u64.wrap a) = b - a := by
  simp [IntKind.wrap, IntKind.signed, IntKind.bits]
  omega
theorem uwrap_pos {b : Int} (h0 : 0 ≤ b) (h1 : b ≤ 9223372036854775807) : IntKind.u64.wrap b = b := by
  simp [IntKind.wrap, IntKind.signed, IntKind.bits]
  omega
theorem tmod_neg {k : Int} (h : k < 0) : (k.tmod 12 == 0) = (k % 12 == 0) := by
  have h2 : k.tmod 12 = -((-k) % 12) := by
    have : k.tmod 12 = -((-k).tmod 12) := by rw [Int.neg_tmod, Int.neg_neg]
    rw [this, Int.tmod_eq_emod_of_nonneg (by omega)]
  rw [h2, Bool.eq_iff_iff]
  simp only [beq_iff_eq]
  omega

/-- the loop's relation: the turns so far -/
def R8 (a b : Int) (t i : Value) : Prop := ∃ x k : Int, t = .int .i64 x ∧ i = .int .i64 k ∧ a ≤ k ∧ k ≤ b ∧ 0 ≤ x ∧ x ≤ k - a ∧ x = yr k - yr a
theorem r8 {a b x k : Int} (h1 : a ≤ k) (h2 : k ≤ b) (h3 : 0 ≤ x) (h4 : x ≤ k - a) (h5 : x = yr k - yr a) : R8 a b (.int .i64 x) (.int .i64 k) := ⟨x, k, rfl, rfl, h1, h2, h3, h4, h5⟩

theorem law8 (a b : Int) (w : World) (ha0 : -9223372036854775808 ≤ a) (ha1 : a ≤ 9223372036854775807) (hb0 : -9223372036854775808 ≤ b) (hb1 : b ≤ 9223372036854775807) :
    Calls Try.prog 4 #[.int .i64 a, .int .i64 b] w fun e w' => e = .returned (.bool true) ∧ w' = w := by
  by_cases hab : b < a
  · go_enter Try.func4, Try.ntmps4
    go_wp2_with fail
    go_ret
    exact ⟨rfl, rfl⟩
  · have hu := udiff ha0 ha1 hb0 hb1 (by omega)
    by_cases hbig : 65536 < b - a
    · go_enter Try.func4, Try.ntmps4
      go_wp2_with fail
      go_ret
      exact ⟨rfl, rfl⟩
    · have HYa := hid_of (year_any a w ha0 ha1)
      have HYb := hid_of (year_any b w hb0 hb1)
      have hab' : a ≤ b := by omega
      clear hab
      go_enter Try.func4, Try.ntmps4
      go_wp2_with fail
      clear hu
      go_loop [5, 6] (fun t i => R8 a b t i) (fun _ i => (b - intOf i).toNat)
      case atStart => exact r8 (by omega) (by omega) (by omega) (by omega) (by omega)
      case round =>
        obtain ⟨x, k, rfl, rfl, hk0, hk1, hx0, hx1, hx⟩ := hrel
        have HX := hid_of hx
        clear hx
        by_cases hlt : k < b
        · by_cases hp : 0 < k + 1
          · by_cases hq : (k + 1) % 12 = 0
            · have hq' : ((k + 1) % 12 == 0) = true := by simpa using hq
              have HS := hid_of (yr_step_pos hp hq)
              clear hq
              go_wp2_with fail
              go_round
              case rel => exact ⟨_, _, r8 (x := x + 1) (k := k + 1) (by omega) (by omega) (by omega) (by omega) (by have := HX.out; have := HS.out; omega), rfl, rfl, (uwrap_pos (by omega) hb1).symm⟩
              case measure => simp [intOf]; omega
            · have hq' : ((k + 1) % 12 == 0) = false := by simpa using hq
              have HS := hid_of (yr_step_pos0 hp hq)
              clear hq
              go_wp2_with fail
              go_round
              case rel => exact ⟨_, _, r8 (x := x) (k := k + 1) (by omega) (by omega) (by omega) (by omega) (by have := HX.out; have := HS.out; omega), rfl, rfl, (uwrap_pos (by omega) hb1).symm⟩
              case measure => simp [intOf]; omega
          · by_cases hq : k % 12 = 0
            · have hq' : (k.tmod 12 == 0) = true := by rw [tmod_neg (by omega)]; simpa using hq
              have HS := hid_of (yr_step_neg (by omega) hq)
              have hp' : k + 1 ≤ 0 := by omega
              clear hq hp
              go_wp2_with fail
              go_round
              case rel => exact r8 (x := x + 1) (k := k + 1) (by omega) (by omega) (by omega) (by omega) (by have := HX.out; have := HS.out; omega)
              case measure => simp [intOf]; omega
            · have hq' : (k.tmod 12 == 0) = false := by rw [tmod_neg (by omega)]; simpa using hq
              have HS := hid_of (yr_step_neg0 (by omega) hq)
              have hp' : k + 1 ≤ 0 := by omega
              clear hq hp
              go_wp2_with fail
              go_round
              case rel => exact r8 (x := x) (k := k + 1) (by omega) (by omega) (by omega) (by omega) (by have := HX.out; have := HS.out; omega)
              case measure => simp [intOf]; omega
        · have ekb : k = b := by omega
          have hsub : yr b - yr a = x := by have := HX.out; rw [ekb] at this; omega
          have HSub := hid_of hsub
          have h1 := yr_lo ha0
          have h2 := yr_hi ha1
          have h3 := yr_lo hb0
          have h4 := yr_hi hb1
          obtain ⟨ya, hya⟩ : ∃ y, y = yr a := ⟨_, rfl⟩
          obtain ⟨yb, hyb⟩ : ∃ y, y = yr b := ⟨_, rfl⟩
          rw [← hya] at HYa HSub h1 h2
          rw [← hyb] at HYb HSub h3 h4
          have h5 : 0 ≤ yb - ya := by have := HSub.out; omega
          have h6 : yb - ya ≤ 65536 := by have := HSub.out; omega
          have h7 : (yb - ya == x) = true := by have := HSub.out; simpa using this
          clear ekb hsub hya hyb
          go_wp2_with fail
          refine HYb.out.mono ?_
          rintro e w' ⟨rfl, hw⟩
          subst w'
          go_wp2_with fail
          refine HYa.out.mono ?_
          rintro e w' ⟨rfl, hw⟩
          subst w'
          go_wp2_with fail
          go_ret
          exact ⟨by simp, rfl⟩

end Go.Proofs.Qxb6613409a
