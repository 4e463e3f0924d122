import Derived.Test.Qxb6608665aWalkB
namespace Go.Proofs.Qxb6608665a
open Go.RowKit

set_option maxRecDepth 20000 in
/-- the string of one plain letter that opens at 1 -/
theorem string_one (b off n cap : Nat) (w : World) (hm : n ≤ maxLen) (hl : 4 ≤ n)
    (hc2 : w.cell? ⟨b, off + 2, none⟩ = some (.int .u8 97)) (hc3 : w.cell? ⟨b, off + 3, none⟩ = some (.int .u8 34)) :
    Calls Try.prog 37 #[.slice (some ⟨b, off, none⟩) n cap, .int .i64 1] w fun e w' => e = .returned (.tuple #[.int .i64 4, .bool true]) ∧ w' = w := by
  unfold maxLen at hm
  go_enter Try.func37, Try.ntmps37
  go_wp2_with fail
  go_loop [6] (fun j => j = .int .i64 2 ∨ j = .int .i64 3) (fun j => 4 - (intOf j).toNat)
  case atStart => exact .inl rfl
  case round =>
    rcases hrel with rfl | rfl
    · go_wp2_with fail
      go_round
      case rel => exact .inr rfl
      case measure => simp [intOf]
    · go_wp2_with fail
      go_ret2
      exact ⟨rfl, rfl⟩

def objText (c : Int) : List Int := [123, 34, 97, 34, 58, 110, 117, 108, 108, c]

/-- what the object answers where c is no white space and no comma -/
def resObj (c : Int) : Value := if c = 125 then .tuple #[.int .i64 10, .bool true] else .tuple #[.int .i64 9, .bool false]
theorem resObj_yes {c : Int} (h : c = 125) : Ending.returned (.tuple #[.int .i64 10, .bool true]) = .returned (resObj c) := by rw [resObj, if_pos h]
theorem resObj_no {c : Int} (h : ¬ c = 125) : Ending.returned (.tuple #[.int .i64 9, .bool false]) = .returned (resObj c) := by rw [resObj, if_neg h]

theorem object_any (b off cap : Nat) (c : Int) (w : World) (hr : Reads w b off (objText c)) (hws : wsB c = false) (h44 : (c == 44) = false) :
    Calls Try.prog 36 #[.slice (some ⟨b, off, none⟩) 10 cap, .int .i64 0] w fun e w' => (∃ q, w' = w.drewN q) ∧ e = .returned (resObj c) := by
  have hm : 10 ≤ maxLen := by unfold maxLen; omega
  have hnull : nullAt (objText c) 5 := ⟨by simp [objText], rfl, rfl, rfl, rfl⟩
  have HS1 := hid_of (skip0 b off 10 cap (objText c) 1 1 rfl w hr rfl hm (by omega) (fun _ => rfl))
  have HS4 := hid_of (skip0 b off 10 cap (objText c) 4 4 rfl w hr rfl hm (by omega) (fun _ => rfl))
  have HS5 := hid_of (skip0 b off 10 cap (objText c) 5 5 rfl w hr rfl hm (by omega) (fun _ => rfl))
  have HV := hid_of (value_null b off 10 cap (objText c) 5 5 rfl w hr rfl hm hnull)
  have HS9 := hid_of (fun q => skip0 b off 10 cap (objText c) 9 9 rfl (w.drewN q) hr rfl hm (by omega) (fun _ => hws))
  have hc1 : w.cell? ⟨b, off + 1, none⟩ = some (.int .u8 34) := hr 1 (by simp [objText])
  have hc2 : w.cell? ⟨b, off + 2, none⟩ = some (.int .u8 97) := hr 2 (by simp [objText])
  have hc3 : w.cell? ⟨b, off + 3, none⟩ = some (.int .u8 34) := hr 3 (by simp [objText])
  have hc4 : w.cell? ⟨b, off + 4, none⟩ = some (.int .u8 58) := hr 4 (by simp [objText])
  have hc9 : w.cell? ⟨b, off + 9, none⟩ = some (.int .u8 c) := hr 9 (by simp [objText])
  have HT := hid_of (string_one b off 10 cap w hm (by omega) hc2 hc3)
  clear hm hnull hr hc2 hc3
  go_enter Try.func36, Try.ntmps36
  go_wp2_with (go_at_call 26; refine HS1.out.mono ?_; rintro e w' ⟨rfl, hw⟩; subst w')
  go_loopw [6] (fun j wr => j = .int .i64 1 ∧ wr = w) (fun _ _ => 0)
  case atStart => exact ⟨rfl, rfl⟩
  case round =>
    obtain ⟨rfl, rfl⟩ := hrel
    go_wp2_with fail
    refine HT.out.mono ?_
    rintro e w' ⟨rfl, hw⟩
    subst w'
    go_wp2_with fail
    refine HS4.out.mono ?_
    rintro e w' ⟨rfl, hw⟩
    subst w'
    go_wp2_with fail
    refine HS5.out.mono ?_
    rintro e w' ⟨rfl, hw⟩
    subst w'
    go_wp2_with fail
    refine HV.out.mono ?_
    rintro e w' ⟨rfl, q, rfl⟩
    go_wp2_with fail
    refine (HS9.out _).mono ?_
    rintro e w' ⟨rfl, hw⟩
    subst w'
    by_cases h125 : c = 125
    · go_wp2_with fail
      go_ret2
      exact ⟨⟨_, rfl⟩, resObj_yes h125⟩
    · go_wp2_with fail
      go_ret2
      exact ⟨⟨_, rfl⟩, resObj_no h125⟩

theorem value_object (b off cap : Nat) (c : Int) (w : World) (hr : Reads w b off (objText c)) (x : Int) (ok : Bool)
    (ha : Calls Try.prog 36 #[.slice (some ⟨b, off, none⟩) 10 cap, .int .i64 0] w fun e w' => (∃ q, w' = w.drewN q) ∧ e = .returned (.tuple #[.int .i64 x, .bool ok])) :
    Calls Try.prog 29 #[.slice (some ⟨b, off, none⟩) 10 cap, .int .i64 0] w fun e w' => (∃ q, w' = w.drewN q) ∧ e = .returned (.tuple #[.int .i64 x, .bool ok]) := by
  have HA := hid_of ha
  clear ha
  have hcell0 : w.cell? ⟨b, off, none⟩ = some (.int .u8 123) := hr 0 (by simp [objText])
  clear hr
  go_enter Try.func29, Try.ntmps29
  go_wp2_with (go_at_call 36; refine HA.out.mono ?_; rintro e w' ⟨⟨q, rfl⟩, rfl⟩)
  go_ret2
  exact ⟨⟨q, rfl⟩, rfl⟩

/-- the top value, where the value at 0 ends at x: not valid -/
theorem top_no (b off n cap : Nat) (zs : List Int) (w : World) (hr : Reads w b off zs) (hn : zs.length = n) (hm : n ≤ maxLen) (h0 : wsB (zs.getD 0 0) = false) (x : Int)
    (ha : Calls Try.prog 29 #[.slice (some ⟨b, off, none⟩) n cap, .int .i64 0] w fun e w' => (∃ q, w' = w.drewN q) ∧ e = .returned (.tuple #[.int .i64 x, .bool false])) :
    Calls Try.prog 12 #[.slice (some ⟨b, off, none⟩) n cap] w fun e w' => e = .returned (.bool false) ∧ ∃ q, w' = w.drewN q := by
  have HA := hid_of ha
  have HS := hid_of (skip0 b off n cap zs 0 0 rfl w hr hn hm (by omega) (fun _ => h0))
  clear ha hr hn hm h0
  go_enter Try.func12, Try.ntmps12
  go_wp2_with fail
  refine HS.out.mono ?_
  rintro e w' ⟨rfl, hw⟩
  subst w'
  go_wp2_with fail
  refine HA.out.mono ?_
  rintro e w' ⟨⟨q, rfl⟩, rfl⟩
  go_wp2_with fail
  go_ret
  exact ⟨rfl, q, rfl⟩

/-- the top value, where the value at 0 is valid and ends at x, no white space there -/
theorem top_yes (b off n cap : Nat) (zs : List Int) (w : World) (hr : Reads w b off zs) (hn : zs.length = n) (hm : n ≤ maxLen) (h0 : wsB (zs.getD 0 0) = false) (i : Nat) (x : Int) (hx : x = i) (hi : i ≤ n) (hw : i < n → wsB (zs.getD i 0) = false)
    (ha : Calls Try.prog 29 #[.slice (some ⟨b, off, none⟩) n cap, .int .i64 0] w fun e w' => (∃ q, w' = w.drewN q) ∧ e = .returned (.tuple #[.int .i64 x, .bool true])) :
    Calls Try.prog 12 #[.slice (some ⟨b, off, none⟩) n cap] w fun e w' => e = .returned (.bool (x == n)) ∧ ∃ q, w' = w.drewN q := by
  have HA := hid_of ha
  have HS := hid_of (skip0 b off n cap zs 0 0 rfl w hr hn hm (by omega) (fun _ => h0))
  have HX := hid_of (fun q => skip0 b off n cap zs i x hx (w.drewN q) hr hn hm hi hw)
  clear ha hr hn h0 hw hx hi
  unfold maxLen at hm
  go_enter Try.func12, Try.ntmps12
  go_wp2_with fail
  refine HS.out.mono ?_
  rintro e w' ⟨rfl, hw⟩
  subst w'
  go_wp2_with fail
  refine HA.out.mono ?_
  rintro e w' ⟨⟨q, rfl⟩, rfl⟩
  go_wp2_with fail
  refine (HX.out _).mono ?_
  rintro e w' ⟨rfl, hw⟩
  subst w'
  go_wp2_with fail
  go_ret
  exact ⟨rfl, q, rfl⟩

end Go.Proofs.Qxb6608665a
