import Derived.Test.Qxb6608735aBase
namespace Go.Proofs.Qxb6608735a
open Go.RowKit
set_option linter.unusedVariables false

/-- the call returns a bool, whichever -/
def AnyB (e : Ending) : Prop := ∃ r, e = .returned (.bool r)
theorem anyB (r : Bool) : AnyB (.returned (.bool r)) := ⟨r, rfl⟩

theorem dec_no {a b : Int} (h : ¬ a < b) : decide (a < b) = false := by simpa using h
theorem dec_yes {a b : Int} (h : a < b) : decide (a < b) = true := by simpa using h

set_option maxRecDepth 20000 in
set_option maxHeartbeats 400000 in
theorem guard11 (a0 a1 : Option Addr) (n0 c0 n1 c1 B : Nat) (ss : List ByteArray) (k : Int) (w : World) (h : HasS w B a0 ss) (hn : ss.length = n0) (hm0 : n0 ≤ maxLen) (hm1 : n1 ≤ maxLen) :
    Calls Try.prog 11 #[.slice a0 n0 c0, .slice a1 n1 c1, .int .i64 k] w fun e w' => AnyB e ∧ w' = w := by
  unfold maxLen at hm0 hm1
  have HS := hid_of h
  have HN := hid_of hn
  clear h hn
  by_cases hb : (1048576 : Int) < (n0 : Int)
  · have hd := dec_yes hb
    clear hb
    go_enter Try.func11, Try.ntmps11
    go_wp2_with fail
    go_ret
    exact ⟨anyB _, rfl⟩
  · have hd := dec_no hb
    have HB := hid_of hb
    clear hb
    go_enter Try.func11, Try.ntmps11
    go_wp2_with fail
    go_loop [7, 8] (fun t i => ∃ (x : Int) (k : Nat), t = .int .i64 x ∧ i = .int .i64 k ∧ k ≤ n0 ∧ 0 ≤ x ∧ x ≤ 1048576) (fun _ i => n0 - (intOf i).toNat)
    case atStart => exact ⟨_, 0, rfl, rfl, by omega, by omega, by have := HB.out; omega⟩
    case round =>
      obtain ⟨x, k, rfl, rfl, hk, hx0, hx1⟩ := hrel
      by_cases hlt : k < n0
      · obtain ⟨b, off, rfl, _, hc⟩ := HS.out (by rw [HN.out]; omega)
        have hcell := hc k (by rw [HN.out]; omega)
        clear hc
        obtain ⟨s, hs⟩ : ∃ s, s = ss.getD k ByteArray.empty := ⟨_, rfl⟩
        rw [← hs] at hcell
        clear hs
        have HX := hid_of hx1
        clear hx1
        by_cases hs1 : (1048576 : Int) < (s.size : Int)
        · have hd1 := dec_yes hs1
          clear hs1
          go_wp2_with fail
          go_ret
          exact ⟨anyB _, rfl⟩
        · have hd1 := dec_no hs1
          have H1 := hid_of hs1
          have hs2 : (s.size : Int) ≤ 1048576 := by omega
          have hx2 : x ≤ 1048576 := HX.out
          clear hs1
          by_cases hs3 : (1048576 : Int) < x + (s.size : Int)
          · have hd2 := dec_yes hs3
            clear hs3
            go_wp2_with fail
            go_ret
            exact ⟨anyB _, rfl⟩
          · have hd2 := dec_no hs3
            have H2 := hid_of hs3
            clear hs3
            go_wp2_with fail
            go_round
            case rel => exact ⟨_, k + 1, rfl, by go_num, by omega, by omega, by have := H2.out; omega⟩
            case measure => simp [intOf]; omega
      · by_cases h1 : (1048576 : Int) < (n1 : Int)
        · have hd1 := dec_yes h1
          clear h1
          go_wp2_with fail
          go_ret
          exact ⟨anyB _, rfl⟩
        · have hd1 := dec_no h1
          have hh : (n1 : Int) ≤ 1048576 := by omega
          clear h1
          by_cases h2 : (1048576 : Int) < x + (n1 : Int)
          · have hd2 := dec_yes h2
            clear h2
            go_wp2_with fail
            go_ret
            exact ⟨anyB _, rfl⟩
          · have hd2 := dec_no h2
            clear h2
            go_wp2_with fail
            go_ret
            exact ⟨anyB _, rfl⟩

set_option maxRecDepth 20000 in
set_option maxHeartbeats 400000 in
theorem guard18 (a0 a1 : Option Addr) (n0 c0 n1 c1 B : Nat) (ss : List ByteArray) (k : Int) (w : World) (h : HasS w B a0 ss) (hn : ss.length = n0) (hm0 : n0 ≤ maxLen) (hm1 : n1 ≤ maxLen) :
    Calls Try.prog 18 #[.slice a0 n0 c0, .slice a1 n1 c1,   .int .i32 k] w fun e w' => AnyB e ∧ w' = w := by
  unfold maxLen at hm0 hm1
  have HS := hid_of h
  have HN := hid_of hn
  clear h hn
  by_cases hb : (1048576 : Int) < (n0 : Int)
  · have hd := dec_yes hb
    clear hb
    go_enter Try.func18, Try.ntmps18
    go_wp2_with fail
    go_ret
    exact ⟨anyB _, rfl⟩
  · have hd := dec_no hb
    have HB := hid_of hb
    clear hb
    go_enter Try.func18, Try.ntmps18
    go_wp2_with fail
    go_loop [7, 8] (fun t i => ∃ (x : Int) (k : Nat), t = .int .i64 x ∧ i = .int .i64 k ∧ k ≤ n0 ∧ 0 ≤ x ∧ x ≤ 1048576) (fun _ i => n0 - (intOf i).toNat)
    case atStart => exact ⟨_, 0, rfl, rfl, by omega, by omega, by have := HB.out; omega⟩
    case round =>
      obtain ⟨x, k, rfl, rfl, hk, hx0, hx1⟩ := hrel
      by_cases hlt : k < n0
      · obtain ⟨b, off, rfl, _, hc⟩ := HS.out (by rw [HN.out]; omega)
        have hcell := hc k (by rw [HN.out]; omega)
        clear hc
        obtain ⟨s, hs⟩ : ∃ s, s = ss.getD k ByteArray.empty := ⟨_, rfl⟩
        rw [← hs] at hcell
        clear hs
        have HX := hid_of hx1
        clear hx1
        by_cases hs1 : (1048576 : Int) < (s.size : Int)
        · have hd1 := dec_yes hs1
          clear hs1
          go_wp2_with fail
          go_ret
          exact ⟨anyB _, rfl⟩
        · have hd1 := dec_no hs1
          have H1 := hid_of hs1
          have hs2 : (s.size : Int) ≤ 1048576 := by omega
          have hx2 : x ≤ 1048576 := HX.out
          clear hs1
          by_cases hs3 : (1048576 : Int) < x + (s.size : Int)
          · have hd2 := dec_yes hs3
            clear hs3
            go_wp2_with fail
            go_ret
            exact ⟨anyB _, rfl⟩
          · have hd2 := dec_no hs3
            have H2 := hid_of hs3
            clear hs3
            go_wp2_with fail
            go_round
            case rel => exact ⟨_, k + 1, rfl, by go_num, by omega, by omega, by have := H2.out; omega⟩
            case measure => simp [intOf]; omega
      · by_cases h1 : (1048576 : Int) < (n1 : Int)
        · have hd1 := dec_yes h1
          clear h1
          go_wp2_with fail
          go_ret
          exact ⟨anyB _, rfl⟩
        · have hd1 := dec_no h1
          have hh : (n1 : Int) ≤ 1048576 := by omega
          clear h1
          by_cases h2 : (1048576 : Int) < x + (n1 : Int)
          · have hd2 := dec_yes h2
            clear h2
            go_wp2_with fail
            go_ret
            exact ⟨anyB _, rfl⟩
          · have hd2 := dec_no h2
            clear h2
            go_wp2_with fail
            go_ret
            exact ⟨anyB _, rfl⟩

/-- the total in bytes: what it answers at most 2^20 speaks of at most 4096 strings -/
def StrB (n : Nat) (e : Ending) : Prop := ∃ r : Int, e = .returned (.int .i64 r) ∧ (r ≤ 1048576 → n ≤ 4096)
theorem strB {n : Nat} {r : Int} (h : r ≤ 1048576 → n ≤ 4096) : StrB n (.returned (.int .i64 r)) := ⟨r, rfl, h⟩

set_option maxRecDepth 20000 in
set_option maxHeartbeats 400000 in
theorem strBytes (t : Int) (a0 : Option Addr) (n0 c0 B : Nat) (ss : List ByteArray) (w : World) (h : HasS w B a0 ss) (hn : ss.length = n0) (hm0 : n0 ≤ maxLen) (ht0 : 0 ≤ t) (ht1 : t ≤ 65536) :
    Calls Try.prog 12 #[.int .i64 t, .slice a0 n0 c0] w fun e w' => StrB n0 e ∧ w' = w := by
  unfold maxLen at hm0
  have HS := hid_of h
  have HN := hid_of hn
  clear h hn
  have ht2 : ¬ (1048576 : Int) < t := by omega
  have hdt := dec_no ht2
  clear ht2
  by_cases hb : (4096 : Int) < (n0 : Int)
  · have hd := dec_yes hb
    clear hb
    go_enter Try.func12, Try.ntmps12
    go_wp2_with fail
    go_ret
    exact ⟨strB (by omega), rfl⟩
  · have hd := dec_no hb
    have hb' : n0 ≤ 4096 := by omega
    clear hb
    go_enter Try.func12, Try.ntmps12
    go_wp2_with fail
    go_loop [0, 5] (fun t i => ∃ (x : Int) (k : Nat), t = .int .i64 x ∧ i = .int .i64 k ∧ k ≤ n0 ∧ 0 ≤ x ∧ x ≤ 1048576) (fun _ i => n0 - (intOf i).toNat)
    case atStart => exact ⟨_, 0, rfl, rfl, by omega, by omega, by omega⟩
    case round =>
      clear hdt
      obtain ⟨x, k, rfl, rfl, hk, hx0, hx1⟩ := hrel
      by_cases hlt : k < n0
      · obtain ⟨b, off, rfl, _, hc⟩ := HS.out (by rw [HN.out]; omega)
        have hcell := hc k (by rw [HN.out]; omega)
        clear hc
        obtain ⟨s, hs⟩ : ∃ s, s = ss.getD k ByteArray.empty := ⟨_, rfl⟩
        rw [← hs] at hcell
        clear hs
        have hx2 : ¬ (1048576 : Int) < x := by omega
        have hdx := dec_no hx2
        clear hx2
        by_cases hs1 : (1048576 : Int) - x < (s.size : Int)
        · have hd1 := dec_yes hs1
          clear hs1
          go_wp2_with fail
          go_ret
          exact ⟨strB (by omega), rfl⟩
        · have hd1 := dec_no hs1
          have H1 := hid_of hs1
          have hs2 : (s.size : Int) ≤ 1048576 := by omega
          clear hs1
          go_wp2_with fail
          go_round
          case rel => exact ⟨_, k + 1, rfl, by go_num, by omega, by omega, by have := H1.out; omega⟩
          case measure => simp [intOf]; omega
      · go_wp2_with fail
        go_ret
        exact ⟨strB (by omega), rfl⟩

theorem ret_int {k : IntKind} {a b : Int} (h : a = b) : Ending.returned (.int k a) = .returned (.int k b) := by rw [h]
theorem w64_32 (z : Int) : wrap64 (wrap32 z) = wrap32 z := by unfold wrap64 wrap32; omega
theorem wrap32_lo (z : Int) : -2147483648 ≤ wrap32 z := by unfold wrap32; omega
theorem wrap32_hi (z : Int) : wrap32 z ≤ 2147483647 := by unfold wrap32; omega

/-- every key's low 32 bits are a position below n -/
def Named (zs : List Int) (n : Int) : Prop := ∀ i, i < zs.length → 0 ≤ wrap32 (zs.getD i 0) ∧ wrap32 (zs.getD i 0) < n
def KeysB (zs : List Int) (n : Int) (e : Ending) : Prop := ∃ r, e = .returned (.bool r) ∧ (r = true → Named zs n)
theorem keysB_no {zs : List Int} {n : Int} : KeysB zs n (.returned (.bool false)) := ⟨false, rfl, fun h => by cases h⟩
theorem keysB_yes {zs : List Int} {n : Int} (h : Named zs n) : KeysB zs n (.returned (.bool true)) := ⟨true, rfl, fun _ => h⟩

theorem keysNamed (a : Option Addr) (n c B : Nat) (zs : List Int) (m : Int) (w : World) (h : HasI .i64 w B a zs) (hn : zs.length = n) (hm0 : n ≤ maxLen) :
    Calls Try.prog 14 #[.slice a n c, .int .i64 m] w fun e w' => KeysB zs m e ∧ w' = w := by
  unfold maxLen at hm0
  have HS := hid_of h
  have HN := hid_of hn
  clear h hn
  go_enter Try.func14, Try.ntmps14
  go_wp2_with fail
  go_loop [5] (fun i => ∃ (k : Nat), i = .int .i64 k ∧ k ≤ n ∧ ∀ j, j < k → 0 ≤ wrap32 (zs.getD j 0) ∧ wrap32 (zs.getD j 0) < m) (fun i => n - (intOf i).toNat)
  case atStart => exact ⟨0, rfl, by omega, fun j hj => by omega⟩
  case round =>
    obtain ⟨k, rfl, hk, hall⟩ := hrel
    have HA := hid_of hall
    clear hall
    by_cases hlt : k < n
    · obtain ⟨b, off, rfl, _, hc⟩ := HS.out (by rw [HN.out]; omega)
      have hcell := hc k (by rw [HN.out]; omega)
      clear hc
      obtain ⟨z, hz⟩ : ∃ z, z = zs.getD k 0 := ⟨_, rfl⟩
      rw [← hz] at hcell
      have HZ := hid_of hz
      clear hz
      go_wp2_with fail
      · go_ret
        exact ⟨keysB_no, rfl⟩
      · have hq : 0 ≤ wrap32 z ∧ wrap64 (wrap32 z) < m := by assumption
        go_round
        case rel =>
          refine ⟨k + 1, by go_num, by omega, fun j hj => ?_⟩
          by_cases e : j = k
          · subst e; rw [← HZ.out]; exact ⟨hq.1, by rw [← w64_32]; exact hq.2⟩
          · exact HA.out j (by omega)
        case measure => simp [intOf]; omega
      · go_ret
        exact ⟨keysB_no, rfl⟩
    · go_wp2_with fail
      go_ret
      exact ⟨keysB_yes (fun i hi => HA.out i (by rw [HN.out] at hi; omega)), rfl⟩

theorem mappingOf (z : Int) (w : World) : Calls Try.prog 46 #[.int .i64 z] w fun e w' => e = .returned (.int .i64 (wrap32 z)) ∧ w' = w := by
  go_enter Try.func46, Try.ntmps46
  go_wp2_with fail
  go_ret
  exact ⟨ret_int (w64_32 z), rfl⟩

end Go.Proofs.Qxb6608735a
