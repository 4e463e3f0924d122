import Derived.Test.Qxb6608735aWalkG
import Derived.DeepKeys4
import Derived.MapViews
import Derived.Lib.SmallJoins
namespace Go.Proofs.Qxb6608735a
open Go.RowKit Go.Maps Go.WideMaps Go.Joins
set_option linter.unusedVariables false

/-- the total in bytes, whatever total came in -/
def StrT (t : Int) (n : Nat) (e : Ending) : Prop := ∃ r : Int, e = .returned (.int .i64 r) ∧ 0 ≤ r ∧ r ≤ 1048577 ∧ (r ≤ 1048576 → t ≤ 1048576 ∧ n ≤ 4096)
theorem strT {t r : Int} {n : Nat} (h0 : 0 ≤ r) (h1 : r ≤ 1048577) (h : r ≤ 1048576 → t ≤ 1048576 ∧ n ≤ 4096) : StrT t n (.returned (.int .i64 r)) := ⟨r, rfl, h0, h1, h⟩
def StrR (t : Int) (n : Nat) (s i : Value) : Prop := ∃ (x : Int) (k : Nat), s = .int .i64 x ∧ i = .int .i64 k ∧ k ≤ n ∧ 0 ≤ x ∧ ((k = 0 ∧ x = t + 16 * n) ∨ x ≤ 1048576)
theorem strR {t x : Int} {n k : Nat} (h1 : k ≤ n) (h2 : 0 ≤ x) (h3 : (k = 0 ∧ x = t + 16 * n) ∨ x ≤ 1048576) : StrR t n (.int .i64 x) (.int .i64 k) := ⟨x, k, rfl, rfl, h1, h2, h3⟩

set_option maxRecDepth 20000 in
set_option maxHeartbeats 400000 in
theorem strTotal (t : Int) (a0 : Option Addr) (n0 c0 B : Nat) (ss : List ByteArray) (w : World) (h : HasS w B a0 ss) (hn : ss.length = n0) (hm0 : n0 ≤ maxLen) (ht0 : 0 ≤ t) (ht1 : t ≤ 1048577) :
    Calls Try.prog 12 #[.int .i64 t, .slice a0 n0 c0] w fun e w' => StrT t n0 e ∧ w' = w := by
  unfold maxLen at hm0
  have HS := hid_of h
  have HN := hid_of hn
  clear h hn
  by_cases ht2 : (1048576 : Int) < t
  · have hdt := dec_yes ht2
    have HT := hid_of ht2
    clear ht2
    go_enter Try.func12, Try.ntmps12
    go_wp2_with fail
    go_ret
    exact ⟨strT (by omega) (by omega) (fun h => by omega), rfl⟩
  · have hdt := dec_no ht2
    have HT := hid_of ht2
    clear ht2
    by_cases hb : (4096 : Int) < (n0 : Int)
    · have hd := dec_yes hb
      clear hb
      go_enter Try.func12, Try.ntmps12
      go_wp2_with fail
      go_ret
      exact ⟨strT (by omega) (by omega) (fun h => by omega), rfl⟩
    · have hd := dec_no hb
      have hb' : n0 ≤ 4096 := by omega
      clear hb
      go_enter Try.func12, Try.ntmps12
      go_wp2_with fail
      go_loop [0, 5] (fun s i => StrR t n0 s i) (fun _ i => n0 - (intOf i).toNat)
      case atStart => exact strR (k := 0) (by omega) (by omega) (.inl ⟨rfl, rfl⟩)
      case round =>
        clear hdt
        obtain ⟨x, k, rfl, rfl, hk, hx0, hx1⟩ := hrel
        have HX := hid_of hx1
        have hxb : x ≤ 1200000 := by have := HT.out; omega
        clear hx1
        by_cases hlt : k < n0
        · obtain ⟨b, off, rfl, _, hc⟩ := HS.out (by rw [HN.out]; omega)
          have hcell := hc k (by rw [HN.out]; omega)
          clear hc
          obtain ⟨s, hs⟩ : ∃ s, s = ss.getD k ByteArray.empty := ⟨_, rfl⟩
          rw [← hs] at hcell
          clear hs
          by_cases hx2 : (1048576 : Int) < x
          · have hdx := dec_yes hx2
            clear hx2
            go_wp2_with fail
            go_ret
            exact ⟨strT (by omega) (by omega) (fun h => by omega), rfl⟩
          · have hdx := dec_no hx2
            have HX2 := hid_of hx2
            clear hx2
            by_cases hs1 : (1048576 : Int) - x < (s.size : Int)
            · have hd1 := dec_yes hs1
              clear hs1
              go_wp2_with fail
              go_ret
              exact ⟨strT (by omega) (by omega) (fun h => by omega), rfl⟩
            · have hd1 := dec_no hs1
              have H1 := hid_of hs1
              have hs2 : (s.size : Int) ≤ 1048576 := by omega
              clear hs1
              go_wp2_with fail
              go_round
              case rel => exact strR (k := k + 1) (by omega) (by omega) (.inr (by have := H1.out; omega))
              case measure => simp [intOf]; omega
        · go_wp2_with fail
          go_ret
          have hT := HT.out
          have hX := HX.out
          exact ⟨strT hx0 (by omega) (fun h => ⟨by omega, hb'⟩), rfl⟩

theorem copyInt64 (a : Option Addr) (n c B : Nat) (zs : List Int) (w : World) (h : HasI .i64 w B a zs) (hB : B ≤ w.heap.size) (hn : zs.length = n) (hm : n ≤ 4096) :
    Calls Try.prog 27 #[.slice a n c] w fun e w' => ∃ a' c', e = .returned (.slice a' n c') ∧ n ≤ c' ∧ c' ≤ 4096 ∧ HasI .i64 w' w'.heap.size a' zs ∧ Below w.heap.size w w' := by
  have hnil := fun w => Lib.run_eql_slice_nil (P := Try.prog) w 23 2 a n c 0 0 Try.underlying23
  obtain ⟨i0, hi, hz0, hz1, hz2⟩ := info_parts info2
  have HS := hid_of h
  have HN := hid_of hn
  clear h hn
  cases ha : a with
  | none =>
    subst ha
    have hs0 := HS.out.of_none
    have hn0 : n = 0 := by rw [← HN.out, hs0]; rfl
    subst hs0
    subst hn0
    go_enter Try.func27, Try.ntmps27
    go_wp2_with fail
    go_ret
    exact ⟨_, _, rfl, by omega, by omega, fun h => absurd h (by simp), Below.refl _ _⟩
  | some ad =>
    subst ha
    go_enter Try.func27, Try.ntmps27
    go_wp2_with (at_make; refine wpList_make_full _ rfl _ _ 23 rfl w.heap.size 2 i0 (.int .i64 0) 1 Try.underlying23 hi hz0 hz1 _ _ _ _ n rfl rfl rfl rfl (by rw [hz2]; omega) (by unfold maxLen; omega) (Nat.le_refl _) ?_)
    intro w1 hown hgrow
    have HF := hid_of (Filled.made (fun i => .int .i64 (zs.getD i 0)) hown)
    have HB1 := hid_of ((Below.refl _ _).grown hgrow (Nat.le_refl _) (fun k h => by cases h) : Below w.heap.size w w1)
    clear hown hgrow
    go_wp2_with fail
    go_loopw [4] (fun i wr => ∃ k : Nat, i = .int .i64 k ∧ k ≤ n ∧ Filled wr w.heap.size n k (fun i => .int .i64 (zs.getD i 0)) 2 ∧ Below w.heap.size w wr) (fun i _ => n - (intOf i).toNat)
    case atStart => exact ⟨0, rfl, by omega, HF.out, HB1.out⟩
    case round =>
      obtain ⟨k, rfl, hk, hf, hb⟩ := hrel
      have HF2 := hid_of hf
      have HB2 := hid_of hb
      clear hf hb HF HB1
      by_cases hlt : k < n
      · obtain ⟨b, off, hab, hbB, hc⟩ := HS.out (by rw [HN.out]; omega)
        obtain rfl := Option.some.inj hab
        clear hab
        have hcell : wr.cell? ⟨b, off + k, none⟩ = some (.int .i64 (zs.getD k 0)) := by
          rw [HB2.out.cell (p := ⟨b, off + k, none⟩) (Nat.lt_of_lt_of_le hbB hB)]
          exact hc k (by rw [HN.out]; omega)
        obtain ⟨s, hs⟩ : ∃ s, s = zs.getD k 0 := ⟨_, rfl⟩
        rw [← hs] at hcell
        have HSS := hid_of hs
        clear hs hc
        obtain ⟨v, hv⟩ := HF2.out.cell hlt
        have hfz := HF2.out.frozen k
        go_wp2_with fail
        go_roundw
        case rel => exact ⟨k + 1, by go_num, by omega, HF2.out.step hlt (by rw [HSS.out]), HB2.out.setCell (Nat.le_refl _) _⟩
        case measure => simp [intOf]; omega
      · go_wp2_with fail
        go_ret
        obtain rfl : k = n := by omega
        exact ⟨_, _, rfl, Nat.le_refl _, hm, HF2.out.hasI HN.out HF2.out.lt, HB2.out⟩

end Go.Proofs.Qxb6608735a
