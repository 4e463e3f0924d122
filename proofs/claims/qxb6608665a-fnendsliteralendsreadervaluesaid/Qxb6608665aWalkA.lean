import Derived.Test.Qxb6608665aRows
import Derived.WalkKit
import Derived.WalkSpells
import Derived.Deep.QuietTactic
import Derived.BigQuiet
namespace Go.Proofs.Qxb6608665a
open Go.RowKit

theorem hid_of {p : Prop} (h : p) : Hid p := h

def wsB (c : Int) : Bool := c == 32 || c == 9 || c == 10 || c == 13
def endB (c : Int) : Bool := c == 44 || c == 125 || c == 93 || wsB c

theorem isWS_any (c : Int) (w : World) : Calls Try.prog 24 #[.int .u8 c] w fun e w' => e = .returned (.bool (wsB c)) ∧ w' = w := by
  go_enter Try.func24, Try.ntmps24
  go_wp2
  all_goals
    go_ret
    exact ⟨by simp [wsB, *], rfl⟩

theorem isSpace_any (c : Int) (w : World) : Calls Try.prog 40 #[.int .u8 c] w fun e w' => e = .returned (.bool (wsB c)) ∧ w' = w := by
  go_enter Try.func40, Try.ntmps40
  go_wp2
  all_goals
    go_ret
    exact ⟨by simp [wsB, *], rfl⟩

theorem endsLiteral_any (c : Int) (w : World) : Calls Try.prog 30 #[.int .u8 c] w fun e w' => e = .returned (.bool (endB c)) ∧ w' = w := by
  go_enter Try.func30, Try.ntmps30
  go_wp2_with (go_at_call 40; refine (isSpace_any _ _).mono ?_; rintro e w' ⟨rfl, rfl⟩)
  all_goals
    go_ret
    exact ⟨by simp [endB, *], rfl⟩

theorem zzEnds_any (c : Int) (w : World) : Calls Try.prog 14 #[.int .u8 c] w fun e w' => e = .returned (.bool (endB c)) ∧ w' = w := by
  go_enter Try.func14, Try.ntmps14
  go_wp2_with (go_at_call 30; refine (endsLiteral_any _ _).mono ?_; rintro e w' ⟨rfl, rfl⟩)
  go_ret
  exact ⟨rfl, rfl⟩

/-- the slice value at address a of len n reads the bytes zs in world w -/
def Reads (w : World) (b off : Nat) (zs : List Int) : Prop := ∀ i, i < zs.length → w.cell? ⟨b, off + i, none⟩ = some (.int .u8 (zs.getD i 0))

theorem skipWS_any (b off n cap : Nat) (zs : List Int) (i : Nat) (w : World) (hr : Reads w b off zs) (hn : zs.length = n) (hm : n ≤ maxLen) (hi : i ≤ n) :
    Calls Try.prog 26 #[.slice (some ⟨b, off, none⟩) n cap, .int .i64 i] w fun e w' => ∃ j : Nat, e = .returned (.int .i64 j) ∧ w' = w ∧ i ≤ j ∧ j ≤ n ∧ (∀ k, i ≤ k → k < j → wsB (zs.getD k 0) = true) ∧ (j < n → wsB (zs.getD j 0) = false) := by
  unfold maxLen at hm
  go_enter Try.func26, Try.ntmps26
  go_wp2
  go_loop [1] (fun t => ∃ j : Nat, t = .int .i64 j ∧ i ≤ j ∧ j ≤ n ∧ (∀ k, i ≤ k → k < j → wsB (zs.getD k 0) = true)) (fun t => n - (intOf t).toNat)
  case atStart => exact ⟨i, rfl, by omega, hi, fun k _ _ => by omega⟩
  case round =>
    obtain ⟨j, rfl, hij, hjn, hall⟩ := hrel
    have HA : Hid (∀ k, i ≤ k → k < j → wsB (zs.getD k 0) = true) := hall
    clear hall
    by_cases hlt : j < n
    · have hcell := hr j (by omega)
      have HN : Hid (zs.length = n) := hn
      have HR : Hid (Reads w b off zs) := hr
      clear hn hr
      obtain ⟨c, hc⟩ : ∃ c, c = zs.getD j 0 := ⟨_, rfl⟩
      rw [← hc] at hcell
      have HC : Hid (c = zs.getD j 0) := hc
      clear hc
      by_cases hws : wsB c = true
      · go_wp2_with (go_at_call 24; refine (isWS_any _ _).mono ?_; rintro e w' ⟨rfl, rfl⟩)
        go_round
        case rel =>
          refine ⟨j + 1, by go_num, by omega, by omega, fun k h1 h2 => ?_⟩
          by_cases e : k = j
          · subst e; rw [← HC.out]; exact hws
          · exact HA.out k h1 (by omega)
        case measure => simp [intOf]; omega
      · have hws' : wsB c = false := by simpa using hws
        clear hws
        go_wp2_with (go_at_call 24; refine (isWS_any _ _).mono ?_; rintro e w' ⟨rfl, rfl⟩)
        go_ret
        exact ⟨j, rfl, rfl, hij, hjn, HA.out, fun _ => by rw [← HC.out]; exact hws'⟩
    · go_wp2
      go_ret
      exact ⟨j, rfl, rfl, hij, hjn, HA.out, fun h => absurd h hlt⟩

theorem skip0 (b off n cap : Nat) (zs : List Int) (i : Nat) (x : Int) (hx : x = i) (w : World) (hr : Reads w b off zs) (hn : zs.length = n) (hm : n ≤ maxLen) (hi : i ≤ n) (hw : i < n → wsB (zs.getD i 0) = false) :
    Calls Try.prog 26 #[.slice (some ⟨b, off, none⟩) n cap, .int .i64 x] w fun e w' => e = .returned (.int .i64 x) ∧ w' = w := by
  subst hx
  refine (skipWS_any b off n cap zs i w hr hn hm hi).mono ?_
  rintro e w' ⟨j, rfl, rfl, h1, h2, h3, h4⟩
  have : j = i := by
    by_cases e : j = i
    · exact e
    · have a := h3 i (by omega) (by omega)
      have b := hw (by omega)
      rw [a] at b; cases b
  subst this
  exact ⟨rfl, rfl⟩

theorem skip1 (b off n cap : Nat) (zs : List Int) (i : Nat) (x : Int) (hx : x = i) (w : World) (hr : Reads w b off zs) (hn : zs.length = n) (hm : n ≤ maxLen) (hi : i < n) (hw1 : wsB (zs.getD i 0) = true) (hw : i + 1 < n → wsB (zs.getD (i + 1) 0) = false) :
    Calls Try.prog 26 #[.slice (some ⟨b, off, none⟩) n cap, .int .i64 x] w fun e w' => e = .returned (.int .i64 (x + 1)) ∧ w' = w := by
  subst hx
  refine (skipWS_any b off n cap zs i w hr hn hm (by omega)).mono ?_
  rintro e w' ⟨j, rfl, rfl, h1, h2, h3, h4⟩
  have : j = i + 1 := by
    by_cases e : j = i + 1
    · exact e
    · by_cases e2 : j = i
      · subst e2; have := h4 (by omega); rw [hw1] at this; cases this
      · have a := h3 (i + 1) (by omega) (by omega)
        have b := hw (by omega)
        rw [a] at b; cases b
  subst this
  exact ⟨by simp, rfl⟩

theorem word_yes (b off n cap : Nat) (zs : List Int) (i : Nat) (s : ByteArray) (w : World) (hr : Reads w b off zs) (hn : zs.length = n) (hm : n ≤ maxLen) (hi : i + s.size ≤ n) (hs : ∀ k (h : k < s.size), zs.getD (i + k) 0 = (s[k].toNat : Int)) :
    Calls Try.prog 38 #[.slice (some ⟨b, off, none⟩) n cap, .int .i64 i, .string s] w fun e w' => e = .returned (.tuple #[.int .i64 ((i : Int) + (s.size : Int)), .bool true]) ∧ ∃ q, w' = w.drewN q := by
  unfold maxLen at hm
  have HN : Hid (zs.length = n) := hn
  have HR : Hid (Reads w b off zs) := hr
  have HS : Hid (∀ k (h : k < s.size), zs.getD (i + k) 0 = (s[k].toNat : Int)) := hs
  clear hn hr hs
  go_enter Try.func38, Try.ntmps38
  go_wp2
  go_loopw [8] (fun t wr => ∃ k : Nat, t = .int .i64 k ∧ k ≤ s.size ∧ ∃ q, wr = w.drewN q) (fun t _ => s.size - (intOf t).toNat)
  case atStart => exact ⟨0, rfl, by omega, 0, rfl⟩
  case round =>
    obtain ⟨k, rfl, hk, q, rfl⟩ := hrel
    by_cases hlt : k < s.size
    · have hcell : w.cell? ⟨b, off + (i + k), none⟩ = some (.int .u8 (s[k].toNat : Int)) := by
        have := HR.out (i + k) (by rw [HN.out]; omega)
        rw [HS.out k hlt] at this
        exact this
      go_wp2
      go_quiet (fail)
      go_wp2
      go_roundw
      case rel => exact ⟨k + 1, by go_num, by omega, _, rfl⟩
      case measure => simp [intOf]; omega
    · go_wp2
      go_ret2
      exact ⟨rfl, q, rfl⟩

/-- 'null' stands at i -/
def nullAt (zs : List Int) (i : Nat) : Prop := i + 4 ≤ zs.length ∧ zs.getD i 0 = 110 ∧ zs.getD (i + 1) 0 = 117 ∧ zs.getD (i + 2) 0 = 108 ∧ zs.getD (i + 3) 0 = 108

theorem word_null (b off n cap : Nat) (zs : List Int) (i : Nat) (x : Int) (hx : x = i) (w : World) (hr : Reads w b off zs) (hn : zs.length = n) (hm : n ≤ maxLen) (h : nullAt zs i) :
    Calls Try.prog 38 #[.slice (some ⟨b, off, none⟩) n cap, .int .i64 x, .string { data := #[110, 117, 108, 108] }] w fun e w' => e = .returned (.tuple #[.int .i64 (x + 4), .bool true]) ∧ ∃ q, w' = w.drewN q := by
  subst hx
  obtain ⟨h0, h1, h2, h3, h4⟩ := h
  refine word_yes b off n cap zs i { data := #[110, 117, 108, 108] } w hr hn hm (by rw [← hn]; exact h0) ?_
  intro k hk
  match k, hk with
  | 0, _ => exact h1
  | 1, _ => exact h2
  | 2, _ => exact h3
  | 3, _ => exact h4
  | k + 4, hk => exact absurd (show k + 4 < 4 from hk) (by omega)

theorem value_null (b off n cap : Nat) (zs : List Int) (i : Nat) (x : Int) (hx : x = i) (w : World) (hr : Reads w b off zs) (hn : zs.length = n) (hm : n ≤ maxLen) (h : nullAt zs i) :
    Calls Try.prog 29 #[.slice (some ⟨b, off, none⟩) n cap, .int .i64 x] w fun e w' => e = .returned (.tuple #[.int .i64 (x + 4), .bool true]) ∧ ∃ q, w' = w.drewN q := by
  have hw := word_null b off n cap zs i x hx w hr hn hm h
  subst hx
  have HW := hid_of hw
  clear hw
  unfold maxLen at hm
  obtain ⟨h0, h1, h2, h3, h4⟩ := h
  have hcell : w.cell? ⟨b, off + i, none⟩ = some (.int .u8 110) := by
    have := hr i (by omega)
    rw [h1] at this
    exact this
  have hlt : i < n := by omega
  clear h0 h1 h2 h3 h4 hr hn
  go_enter Try.func29, Try.ntmps29
  go_wp2_with (go_at_call 38; refine HW.out.mono ?_; rintro e w' ⟨rfl, q, rfl⟩)
  go_ret2
  exact ⟨rfl, q, rfl⟩

end Go.Proofs.Qxb6608665a
