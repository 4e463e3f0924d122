import Derived.Test.Qxb6608735aWalkG
namespace Go.Proofs.Qxb6608735a
open Go.RowKit
set_option linter.unusedVariables false

set_option maxRecDepth 20000 in
set_option maxHeartbeats 2000000 in
theorem guard20 (a0 a1 a2 a3 a4 a5 a6 a7 : Option Addr) (n0 c0 n1 c1 n2 c2 n3 c3 n4 c4 n5 c5 n6 c6 n7 c7 B : Nat) (ss0 ss5 ss6 ss7 : List ByteArray) (w : World)
    (hS0 : HasS w B a0 ss0) (hN0 : ss0.length = n0) (hS5 : HasS w B a5 ss5) (hN5 : ss5.length = n5) (hS6 : HasS w B a6 ss6) (hN6 : ss6.length = n6) (hS7 : HasS w B a7 ss7) (hN7 : ss7.length = n7) (hm0 : n0 ≤ maxLen) (hm1 : n1 ≤ maxLen) (hm2 : n2 ≤ maxLen) (hm3 : n3 ≤ maxLen) (hm4 : n4 ≤ maxLen) (hm5 : n5 ≤ maxLen) (hm6 : n6 ≤ maxLen) (hm7 : n7 ≤ maxLen) :
    Calls Try.prog 20 #[.slice a0 n0 c0, .slice a1 n1 c1, .slice a2 n2 c2, .slice a3 n3 c3, .slice a4 n4 c4, .slice a5 n5 c5, .slice a6 n6 c6, .slice a7 n7 c7] w fun e w' => AnyB e ∧ w' = w := by
  unfold maxLen at hm0 hm1 hm2 hm3 hm4 hm5 hm6 hm7
  have HS0 := hid_of hS0
  have HN0 := hid_of hN0
  have HS5 := hid_of hS5
  have HN5 := hid_of hN5
  have HS6 := hid_of hS6
  have HN6 := hid_of hN6
  have HS7 := hid_of hS7
  have HN7 := hid_of hN7
  clear hS0 hN0 hS5 hN5 hS6 hN6 hS7 hN7
  go_enter Try.func20, Try.ntmps20
  by_cases bL : (1048576 : Int) < (n0 : Int)
  · have dL := dec_yes bL
    clear bL
    go_wp2_with fail
    go_ret
    exact ⟨anyB _, rfl⟩
  · have dL0 := dec_no bL
    have eL0 : (n0 : Int) ≤ 1048576 := by omega
    clear bL
    go_wp2_with fail
    go_loop [17, 18] (fun t i => ∃ (x : Int) (k : Nat), t = .int .i64 x ∧ i = .int .i64 k ∧ k ≤ n0 ∧ 0 ≤ x ∧ x ≤ 1048576) (fun _ i => n0 - (intOf i).toNat)
    case atStart => exact ⟨_, 0, rfl, rfl, by omega, by omega, by omega⟩
    case round =>
      clear dL0 eL0
      obtain ⟨x0, k0, rfl, rfl, hk0, hx0, hy0⟩ := hrel
      by_cases hlt : k0 < n0
      · obtain ⟨b, off, rfl, _, hc⟩ := HS0.out (by rw [HN0.out]; omega)
        have hcell := hc k0 (by rw [HN0.out]; omega)
        clear hc
        obtain ⟨s, hs⟩ : ∃ s, s = ss0.getD k0 ByteArray.empty := ⟨_, rfl⟩
        rw [← hs] at hcell
        clear hs
        by_cases hs1 : (1048576 : Int) < (s.size : Int)
        · have hd1 := dec_yes hs1
          clear hs1
          go_wp2_with fail
          go_ret
          exact ⟨anyB _, rfl⟩
        · have hd1 := dec_no hs1
          have hs2 : (s.size : Int) ≤ 1048576 := by omega
          clear hs1
          by_cases hs3 : (1048576 : Int) < x0 + (s.size : Int)
          · have hd2 := dec_yes hs3
            clear hs3
            go_wp2_with fail
            go_ret
            exact ⟨anyB _, rfl⟩
          · have hd2 := dec_no hs3
            have H2 := hid_of hs3
            clear hs3
            go_wp2_with fail
            go_round
            case rel => exact ⟨_, k0 + 1, rfl, by go_num, by omega, by omega, by have := H2.out; omega⟩
            case measure => simp [intOf]; omega
      · have _h0 := True.intro
        by_cases bL : (1048576 : Int) < (n1 : Int)
        · have dL := dec_yes bL
          clear bL
          go_wp2_with fail
          go_ret
          exact ⟨anyB _, rfl⟩
        · have dL1 := dec_no bL
          have eL1 : (n1 : Int) ≤ 1048576 := by omega
          clear bL
          by_cases bS : (1048576 : Int) < x0 + (n1 : Int)
          · have dS := dec_yes bS
            clear bS
            go_wp2_with fail
            go_ret
            exact ⟨anyB _, rfl⟩
          · have dS1 := dec_no bS
            have eS1 : x0 + (n1 : Int) ≤ 1048576 := by omega
            clear bS
            by_cases bL : (1048576 : Int) < (n2 : Int)
            · have dL := dec_yes bL
              clear bL
              go_wp2_with fail
              go_ret
              exact ⟨anyB _, rfl⟩
            · have dL2 := dec_no bL
              have eL2 : (n2 : Int) ≤ 1048576 := by omega
              clear bL
              by_cases bS : (1048576 : Int) < x0 + (n1 : Int) + (n2 : Int)
              · have dS := dec_yes bS
                clear bS
                go_wp2_with fail
                go_ret
                exact ⟨anyB _, rfl⟩
              · have dS2 := dec_no bS
                have eS2 : x0 + (n1 : Int) + (n2 : Int) ≤ 1048576 := by omega
                clear bS
                by_cases bL : (1048576 : Int) < (n3 : Int)
                · have dL := dec_yes bL
                  clear bL
                  go_wp2_with fail
                  go_ret
                  exact ⟨anyB _, rfl⟩
                · have dL3 := dec_no bL
                  have eL3 : (n3 : Int) ≤ 1048576 := by omega
                  clear bL
                  by_cases bS : (1048576 : Int) < x0 + (n1 : Int) + (n2 : Int) + (n3 : Int)
                  · have dS := dec_yes bS
                    clear bS
                    go_wp2_with fail
                    go_ret
                    exact ⟨anyB _, rfl⟩
                  · have dS3 := dec_no bS
                    have eS3 : x0 + (n1 : Int) + (n2 : Int) + (n3 : Int) ≤ 1048576 := by omega
                    clear bS
                    by_cases bL : (1048576 : Int) < (n4 : Int)
                    · have dL := dec_yes bL
                      clear bL
                      go_wp2_with fail
                      go_ret
                      exact ⟨anyB _, rfl⟩
                    · have dL4 := dec_no bL
                      have eL4 : (n4 : Int) ≤ 1048576 := by omega
                      clear bL
                      by_cases bS : (1048576 : Int) < x0 + (n1 : Int) + (n2 : Int) + (n3 : Int) + (n4 : Int)
                      · have dS := dec_yes bS
                        clear bS
                        go_wp2_with fail
                        go_ret
                        exact ⟨anyB _, rfl⟩
                      · have dS4 := dec_no bS
                        have eS4 : x0 + (n1 : Int) + (n2 : Int) + (n3 : Int) + (n4 : Int) ≤ 1048576 := by omega
                        clear bS
                        by_cases bL : (1048576 : Int) < (n5 : Int)
                        · have dL := dec_yes bL
                          clear bL
                          go_wp2_with fail
                          go_ret
                          exact ⟨anyB _, rfl⟩
                        · have dL5 := dec_no bL
                          have eL5 : (n5 : Int) ≤ 1048576 := by omega
                          clear bL
                          by_cases bS : (1048576 : Int) < x0 + (n1 : Int) + (n2 : Int) + (n3 : Int) + (n4 : Int) + (n5 : Int)
                          · have dS := dec_yes bS
                            clear bS
                            go_wp2_with fail
                            go_ret
                            exact ⟨anyB _, rfl⟩
                          · have dS5 := dec_no bS
                            have eS5 : x0 + (n1 : Int) + (n2 : Int) + (n3 : Int) + (n4 : Int) + (n5 : Int) ≤ 1048576 := by omega
                            clear bS
                            go_wp2_with fail
                            go_loop [17, 19] (fun t i => ∃ (x : Int) (k : Nat), t = .int .i64 x ∧ i = .int .i64 k ∧ k ≤ n5 ∧ 0 ≤ x ∧ x ≤ 1048576) (fun _ i => n5 - (intOf i).toNat)
                            case atStart => exact ⟨_, 0, rfl, rfl, by omega, by omega, by omega⟩
                            case round =>
                              clear dL1 eL1 dS1 eS1 dL2 eL2 dS2 eS2 dL3 eL3 dS3 eS3 dL4 eL4 dS4 eS4 dL5 eL5 dS5 eS5
                              obtain ⟨x5, k5, rfl, rfl, hk5, hx5, hy5⟩ := hrel
                              by_cases hlt : k5 < n5
                              · obtain ⟨b, off, rfl, _, hc⟩ := HS5.out (by rw [HN5.out]; omega)
                                have hcell := hc k5 (by rw [HN5.out]; omega)
                                clear hc
                                obtain ⟨s, hs⟩ : ∃ s, s = ss5.getD k5 ByteArray.empty := ⟨_, rfl⟩
                                rw [← hs] at hcell
                                clear hs
                                by_cases hs1 : (1048576 : Int) < (s.size : Int)
                                · have hd1 := dec_yes hs1
                                  clear hs1
                                  go_wp2_with fail
                                  go_ret
                                  exact ⟨anyB _, rfl⟩
                                · have hd1 := dec_no hs1
                                  have hs2 : (s.size : Int) ≤ 1048576 := by omega
                                  clear hs1
                                  by_cases hs3 : (1048576 : Int) < x5 + (s.size : Int)
                                  · have hd2 := dec_yes hs3
                                    clear hs3
                                    go_wp2_with fail
                                    go_ret
                                    exact ⟨anyB _, rfl⟩
                                  · have hd2 := dec_no hs3
                                    have H2 := hid_of hs3
                                    clear hs3
                                    go_wp2_with fail
                                    go_round
                                    case rel => exact ⟨_, k5 + 1, rfl, by go_num, by omega, by omega, by have := H2.out; omega⟩
                                    case measure => simp [intOf]; omega
                              · have _h0 := True.intro
                                by_cases bL : (1048576 : Int) < (n6 : Int)
                                · have dL := dec_yes bL
                                  clear bL
                                  go_wp2_with fail
                                  go_ret
                                  exact ⟨anyB _, rfl⟩
                                · have dL6 := dec_no bL
                                  have eL6 : (n6 : Int) ≤ 1048576 := by omega
                                  clear bL
                                  by_cases bS : (1048576 : Int) < x5 + (n6 : Int)
                                  · have dS := dec_yes bS
                                    clear bS
                                    go_wp2_with fail
                                    go_ret
                                    exact ⟨anyB _, rfl⟩
                                  · have dS6 := dec_no bS
                                    have eS6 : x5 + (n6 : Int) ≤ 1048576 := by omega
                                    clear bS
                                    go_wp2_with fail
                                    go_loop [17, 20] (fun t i => ∃ (x : Int) (k : Nat), t = .int .i64 x ∧ i = .int .i64 k ∧ k ≤ n6 ∧ 0 ≤ x ∧ x ≤ 1048576) (fun _ i => n6 - (intOf i).toNat)
                                    case atStart => exact ⟨_, 0, rfl, rfl, by omega, by omega, by omega⟩
                                    case round =>
                                      clear dL6 eL6 dS6 eS6
                                      obtain ⟨x6, k6, rfl, rfl, hk6, hx6, hy6⟩ := hrel
                                      by_cases hlt : k6 < n6
                                      · obtain ⟨b, off, rfl, _, hc⟩ := HS6.out (by rw [HN6.out]; omega)
                                        have hcell := hc k6 (by rw [HN6.out]; omega)
                                        clear hc
                                        obtain ⟨s, hs⟩ : ∃ s, s = ss6.getD k6 ByteArray.empty := ⟨_, rfl⟩
                                        rw [← hs] at hcell
                                        clear hs
                                        by_cases hs1 : (1048576 : Int) < (s.size : Int)
                                        · have hd1 := dec_yes hs1
                                          clear hs1
                                          go_wp2_with fail
                                          go_ret
                                          exact ⟨anyB _, rfl⟩
                                        · have hd1 := dec_no hs1
                                          have hs2 : (s.size : Int) ≤ 1048576 := by omega
                                          clear hs1
                                          by_cases hs3 : (1048576 : Int) < x6 + (s.size : Int)
                                          · have hd2 := dec_yes hs3
                                            clear hs3
                                            go_wp2_with fail
                                            go_ret
                                            exact ⟨anyB _, rfl⟩
                                          · have hd2 := dec_no hs3
                                            have H2 := hid_of hs3
                                            clear hs3
                                            go_wp2_with fail
                                            go_round
                                            case rel => exact ⟨_, k6 + 1, rfl, by go_num, by omega, by omega, by have := H2.out; omega⟩
                                            case measure => simp [intOf]; omega
                                      · have _h0 := True.intro
                                        by_cases bL : (1048576 : Int) < (n7 : Int)
                                        · have dL := dec_yes bL
                                          clear bL
                                          go_wp2_with fail
                                          go_ret
                                          exact ⟨anyB _, rfl⟩
                                        · have dL7 := dec_no bL
                                          have eL7 : (n7 : Int) ≤ 1048576 := by omega
                                          clear bL
                                          by_cases bS : (1048576 : Int) < x6 + (n7 : Int)
                                          · have dS := dec_yes bS
                                            clear bS
                                            go_wp2_with fail
                                            go_ret
                                            exact ⟨anyB _, rfl⟩
                                          · have dS7 := dec_no bS
                                            have eS7 : x6 + (n7 : Int) ≤ 1048576 := by omega
                                            clear bS
                                            go_wp2_with fail
                                            go_loop [17, 21] (fun t i => ∃ (x : Int) (k : Nat), t = .int .i64 x ∧ i = .int .i64 k ∧ k ≤ n7 ∧ 0 ≤ x ∧ x ≤ 1048576) (fun _ i => n7 - (intOf i).toNat)
                                            case atStart => exact ⟨_, 0, rfl, rfl, by omega, by omega, by omega⟩
                                            case round =>
                                              clear dL7 eL7 dS7 eS7
                                              obtain ⟨x7, k7, rfl, rfl, hk7, hx7, hy7⟩ := hrel
                                              by_cases hlt : k7 < n7
                                              · obtain ⟨b, off, rfl, _, hc⟩ := HS7.out (by rw [HN7.out]; omega)
                                                have hcell := hc k7 (by rw [HN7.out]; omega)
                                                clear hc
                                                obtain ⟨s, hs⟩ : ∃ s, s = ss7.getD k7 ByteArray.empty := ⟨_, rfl⟩
                                                rw [← hs] at hcell
                                                clear hs
                                                by_cases hs1 : (1048576 : Int) < (s.size : Int)
                                                · have hd1 := dec_yes hs1
                                                  clear hs1
                                                  go_wp2_with fail
                                                  go_ret
                                                  exact ⟨anyB _, rfl⟩
                                                · have hd1 := dec_no hs1
                                                  have hs2 : (s.size : Int) ≤ 1048576 := by omega
                                                  clear hs1
                                                  by_cases hs3 : (1048576 : Int) < x7 + (s.size : Int)
                                                  · have hd2 := dec_yes hs3
                                                    clear hs3
                                                    go_wp2_with fail
                                                    go_ret
                                                    exact ⟨anyB _, rfl⟩
                                                  · have hd2 := dec_no hs3
                                                    have H2 := hid_of hs3
                                                    clear hs3
                                                    go_wp2_with fail
                                                    go_round
                                                    case rel => exact ⟨_, k7 + 1, rfl, by go_num, by omega, by omega, by have := H2.out; omega⟩
                                                    case measure => simp [intOf]; omega
                                              · have _h0 := True.intro
                                                go_wp2_with fail
                                                go_ret
                                                exact ⟨anyB _, rfl⟩

end Go.Proofs.Qxb6608735a
