import Derived.Test.Qxb6608735aWalkB
namespace Go.Proofs.Qxb6608735a
open Go.RowKit Go.Maps Go.WideMaps
set_option linter.unusedVariables false

theorem run_makeMap_hint {P : Program} {t k e : TypeId} (hu : P.underlying t = some (.map k e)) (q : IntKind) (n : Int) (w : World) : (Instr.makeMap t (some (.int q n))).run P w = .ok (.map (some w.heap.size)) (w.alloc (.map #[] 0)) := by
  simp [Instr.makeMap, run_underlying hu, asInt, asIntOf, Result.andThen]

/-- what zzIndex answers -/
def IndexB (w w' : World) (ss : List ByteArray) (e : Ending) : Prop :=
  (e = .returned (.tuple #[.map none, .bool false]) ∧ Below w.heap.size w w') ∨
  (e = .returned (.tuple #[.map (some w.heap.size), .bool true]) ∧ Below w.heap.size w w' ∧ w'.ownsMap Try.prog 9 (plainElem Try.prog 3) w.heap.size ss.length (Dm ss ss.length) ∧ Distinct ss ss.length)

set_option maxRecDepth 20000 in
set_option maxHeartbeats 400000 in
theorem index_any (a : Option Addr) (n c B : Nat) (ss : List ByteArray) (w : World) (h : HasS w B a ss) (hB : B ≤ w.heap.size) (hn : ss.length = n) (hm : n ≤ 4096) (hsz : ∀ s ∈ ss, s.size ≤ maxLen) :
    Calls Try.prog 13 #[.slice a n c] w fun e w' => IndexB w w' ss e := by
  have hmm := fun w => run_makeMap_hint Try.underlying26 .i64 (n : Int) w
  have HS := hid_of h
  have HN := hid_of hn
  have HZ := hid_of hsz
  clear h hn hsz
  go_enter Try.func13, Try.ntmps13
  go_wp2_with fail
  go_loopw [5] (fun i wr => ∃ k : Nat, i = .int .i64 k ∧ k ≤ n ∧ wr.ownsMap Try.prog 9 (plainElem Try.prog 3) w.heap.size k (Dm ss k) ∧ Below w.heap.size w wr ∧ Distinct ss k) (fun i _ => n - (intOf i).toNat)
  case atStart => exact ⟨0, rfl, by omega, World.ownsMap_made _ _ _ _, (Below.refl _ _).alloc (Nat.le_refl _) _, fun i j _ hj => by omega⟩
  case round =>
    obtain ⟨k, rfl, hk, hown, hbel, hdis⟩ := hrel
    have HO := hid_of hown
    have HBel := hid_of hbel
    have HD := hid_of hdis
    clear hown hbel hdis hmm
    by_cases hlt : k < n
    · obtain ⟨b, off, rfl, hbB, hc⟩ := HS.out (by rw [HN.out]; omega)
      have hcell : wr.cell? ⟨b, off + k, none⟩ = some (.string (ss.getD k ByteArray.empty)) := by
        rw [HBel.out.cell (p := ⟨b, off + k, none⟩) (Nat.lt_of_lt_of_le hbB hB)]
        exact hc k (by rw [HN.out]; omega)
      obtain ⟨s, hs⟩ : ∃ s, s = ss.getD k ByteArray.empty := ⟨_, rfl⟩
      rw [← hs] at hcell
      have hkey : keyOf Try.prog 9 (.string s) = some (keyS s) := keyOf_string_mk Try.underlying9 (by
        rw [hs]
        apply HZ.out
        have : k < ss.length := by rw [HN.out]; exact hlt
        simp [List.getD, List.getElem?_eq_getElem this])
      have HSS := hid_of hs
      have HK := hid_of hkey
      clear hc hs hkey
      cases hh : Maps.has (Dm ss k) (keyS s)
      · go_wp2_with (first
          | (at_lookup; refine wpList_lookup_own_ok_int _ rfl _ _ 26 rfl 9 3 .i64 law9 Try.underlying26 Try.underlying3 (zero3 _) w.heap.size k _ rfl HO.out _ _ rfl HK.out ?_; intro c hat hwc)
          | (at_mapUpdate; refine wpList_mapUpdate_own _ rfl _ _ _ 26 rfl 9 3 law9 Try.underlying26 _ w.heap.size k _ rfl HO.out (by unfold maxLen; omega) _ _ _ rfl rfl HK.out _ [] (plainElem_int Try.underlying3 (WalkArith.wf_i64 (by omega))) ?_))
        intro w1 hown1 hgrow1
        have R1 : Hid (w1.ownsMap Try.prog 9 (plainElem Try.prog 3) w.heap.size (k + 1) (Dm ss (k + 1))) := by
          have e : Dm ss (k + 1) = (Dm ss k).put (keyS s) (.lit (.int .i64 k)) := by rw [Dm, ← HSS.out]
          rw [e]; exact hown1
        have R2 := hid_of (HBel.out.grown hgrow1 HBel.out.size (fun j hj => by cases hj; exact Nat.le_refl _))
        have R3 : Hid (Distinct ss (k + 1)) := distinct_succ HD.out (by rw [← HSS.out]; exact hh)
        clear hown1 hgrow1 HO HBel HD
        go_wp2_with fail
        go_roundw
        case rel => exact ⟨k + 1, by go_num, by omega, R1.out, R2.out, R3.out⟩
        case measure => simp [intOf]; omega
      · go_wp2_with (first
          | (at_lookup; refine wpList_lookup_own_ok_int _ rfl _ _ 26 rfl 9 3 .i64 law9 Try.underlying26 Try.underlying3 (zero3 _) w.heap.size k _ rfl HO.out _ _ rfl HK.out ?_; intro c hat hwc))
        go_ret2
        exact .inl ⟨rfl, HBel.out⟩
    · go_wp2_with fail
      go_ret2
      have e : k = ss.length := by rw [HN.out]; omega
      rw [e] at HO HD
      exact .inr ⟨rfl, HBel.out, HO.out, HD.out⟩

end Go.Proofs.Qxb6608735a
