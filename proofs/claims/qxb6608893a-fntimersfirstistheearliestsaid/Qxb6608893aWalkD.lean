import Derived.Test.Qxb6608893aWalkC
namespace Go.Proofs.Qxb6608893a
open Go.RowKit
set_option linter.unusedVariables false

set_option maxRecDepth 20000 in
set_option maxHeartbeats 2000000 in
theorem law6 (a0 a1 a2 : Option Addr) (n0 c0 n1 c1 n2 c2 : Nat) (z0 z1 z2 : List Int) (w : World)
    (h0 : HasI .i64 w w.heap.size a0 z0) (h1 : HasI .i64 w w.heap.size a1 z1) (h2 : HasI .i64 w w.heap.size a2 z2) (l0 : z0.length = n0) (l1 : z1.length = n1) (l2 : z2.length = n2)
    (m0 : n0 ≤ maxLen) (m1 : n1 ≤ maxLen) (m2 : n2 ≤ maxLen) (f1 : ∀ z ∈ z1, (Lit.int .i64 z).wf = true) (f2 : ∀ z ∈ z2, (Lit.int .i64 z).wf = true) :
    Calls Try.prog 5 #[.slice a0 n0 c0, .slice a1 n1 c1, .slice a2 n2 c2] w fun e w' => e = .returned (.bool true) ∧ Below w.heap.size w w' := by
  have HG := hid_of (guard7 a0 a1 a2 n0 c0 n1 c1 n2 c2 w m0 m1 m2)
  have hq0 := fun w => run_neq_slice_nil_any (P := Try.prog) w 26 2 a0 n0 c0 0 0 Try.underlying26
  have hq1 := fun w => run_neq_slice_nil_any (P := Try.prog) w 27 3 a1 n1 c1 0 0 Try.underlying27
  have hq2 := fun w => run_neq_slice_nil_any (P := Try.prog) w 27 3 a2 n2 c2 0 0 Try.underlying27
  unfold maxLen at m0 m1 m2
  have H0 := hid_of h0
  have H1 := hid_of h1
  have H2 := hid_of h2
  have L0 := hid_of l0
  have L1 := hid_of l1
  have L2 := hid_of l2
  have F1 := hid_of f1
  have F2 := hid_of f2
  clear h0 h1 h2 l0 l1 l2 f1 f2
  by_cases b0 : (4096 : Int) < (n0 : Int) ∨ (4096 : Int) < (n1 : Int) ∨ (4096 : Int) < (n2 : Int)
  · have e : (decide ((4096 : Int) < (n0 : Int)) || decide ((4096 : Int) < (n1 : Int)) || decide ((4096 : Int) < (n2 : Int))) = true := by simp; omega
    go_enter Try.func5, Try.ntmps5
    go_wp2_with fail
    refine HG.out.mono ?_
    rintro e w' ⟨⟨r, rfl⟩, hw⟩
    subst w'
    cases r
    · go_wp2_with fail
      go_ret
      exact ⟨rfl, Below.refl _ _⟩
    · by_cases d0 : (4096 : Int) < (n0 : Int)
      · go_wp2_with fail
        go_ret
        exact ⟨rfl, Below.refl _ _⟩
      · by_cases d1 : (4096 : Int) < (n1 : Int)
        · go_wp2_with fail
          go_ret
          exact ⟨rfl, Below.refl _ _⟩
        · have d2 : (4096 : Int) < (n2 : Int) := by omega
          go_wp2_with fail
          go_ret
          exact ⟨rfl, Below.refl _ _⟩
  · have d0 : (n0 : Int) ≤ 4096 := by omega
    have d1 : (n1 : Int) ≤ 4096 := by omega
    have d2 : (n2 : Int) ≤ 4096 := by omega
    clear b0
    by_cases q1 : n1 = n0
    · by_cases q2 : n2 = n0
      · subst q1
        subst q2
        exact law6_main a0 a1 a2 _ c0 c1 c2 z0 z1 z2 w H0.out H1.out H2.out L0.out L1.out L2.out (by omega) F1.out F2.out
      · have q2' : ((n2 : Int) == (n0 : Int)) = false := by simp; omega
        subst q1
        go_enter Try.func5, Try.ntmps5
        go_wp2_with fail
        refine HG.out.mono ?_
        rintro e w' ⟨⟨r, rfl⟩, hw⟩
        subst w'
        cases r
        · go_wp2_with fail
          go_ret
          exact ⟨rfl, Below.refl _ _⟩
        · go_wp2_with fail
          go_ret
          exact ⟨rfl, Below.refl _ _⟩
    · have q1' : ((n1 : Int) == (n0 : Int)) = false := by simp; omega
      go_enter Try.func5, Try.ntmps5
      go_wp2_with fail
      refine HG.out.mono ?_
      rintro e w' ⟨⟨r, rfl⟩, hw⟩
      subst w'
      cases r
      · go_wp2_with fail
        go_ret
        exact ⟨rfl, Below.refl _ _⟩
      · go_wp2_with fail
        go_ret
        exact ⟨rfl, Below.refl _ _⟩

end Go.Proofs.Qxb6608893a
