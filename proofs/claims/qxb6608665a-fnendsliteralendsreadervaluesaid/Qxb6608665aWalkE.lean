import Derived.Test.Qxb6608665aWalkD
import Derived.Laws.CopyOwn
namespace Go.Proofs.Qxb6608665a
open Go.RowKit
set_option linter.unusedVariables false

def digB (c : Int) : Bool := decide (48 ≤ c) && decide (c ≤ 57)
def litB (c : Int) : Bool := digB c || c == 43 || c == 45 || c == 46 || c == 101 || c == 69 || c == 116 || c == 114 || c == 117 || c == 102 || c == 97 || c == 108 || c == 115 || c == 110

theorem lit_not {c : Int} (h : litB c = true) : endB c = false ∧ (c == 34) = false ∧ (c == 123) = false ∧ (c == 91) = false ∧ (c == 125) = false ∧ (c == 93) = false ∧ wsB c = false := by
  simp only [litB, digB, Bool.or_eq_true, Bool.and_eq_true, decide_eq_true_eq, beq_iff_eq] at h
  simp only [endB, wsB, Bool.or_eq_false_iff, beq_eq_false_iff_ne, ne_eq]
  omega

theorem isDigit_any (c : Int) (w : World) : Calls Try.prog 31 #[.int .u8 c] w fun e w' => e = .returned (.bool (digB c)) ∧ w' = w := by
  by_cases h : 48 ≤ c
  · go_enter Try.func31, Try.ntmps31
    go_wp2
    go_ret
    exact ⟨by simp [digB, h], rfl⟩
  · go_enter Try.func31, Try.ntmps31
    go_wp2
    go_ret
    exact ⟨by simp [digB]; omega, rfl⟩

theorem literal_any (c : Int) (w : World) : Calls Try.prog 17 #[.int .u8 c] w fun e w' => e = .returned (.bool (litB c)) ∧ w' = w := by
  cases hd : digB c
  · go_enter Try.func17, Try.ntmps17
    go_wp2_with (go_at_call 31; refine (isDigit_any _ _).mono ?_; rintro e w' ⟨rfl, rfl⟩)
    all_goals
      go_ret
      exact ⟨by simp [litB, *], rfl⟩
  · go_enter Try.func17, Try.ntmps17
    go_wp2_with (go_at_call 31; refine (isDigit_any _ _).mono ?_; rintro e w' ⟨rfl, rfl⟩)
    go_ret
    exact ⟨by simp [litB, hd], rfl⟩

theorem guard_yes (a : Option Addr) (n cap : Nat) (c : Int) (w : World) (h : n ≤ 1048576) : Calls Try.prog 16 #[.slice a n cap, .int .u8 c] w fun e w' => e = .returned (.bool true) ∧ w' = w := by
  go_enter Try.func16, Try.ntmps16
  go_wp2
  go_ret
  exact ⟨rfl, rfl⟩

theorem guard_no (a : Option Addr) (n cap : Nat) (c : Int) (w : World) (h : 1048576 < n) : Calls Try.prog 16 #[.slice a n cap, .int .u8 c] w fun e w' => e = .returned (.bool false) ∧ w' = w := by
  go_enter Try.func16, Try.ntmps16
  go_wp2
  go_ret
  exact ⟨rfl, rfl⟩

theorem newReader_any (a : Option Addr) (n cap : Nat) (x : Int) (w : World) : Calls Try.prog 19 #[.slice a n cap, .int .i64 x] w fun e w' => e = .returned (.pointer (some ⟨w.heap.size, 0, none⟩)) ∧ w' = w.alloc (.cells #[.slice a n cap, .int .i64 x, .slice none 0 0] 45) := by
  go_enter Try.func19, Try.ntmps19
  go_wp2
  go_ret
  exact ⟨rfl, rfl⟩

theorem pos_any (b : Nat) (x : Int) (w : World) (h : w.cell? ⟨b, 1, none⟩ = some (.int .i64 x)) : Calls Try.prog 22 #[.pointer (some ⟨b, 0, none⟩)] w fun e w' => e = .returned (.int .i64 x) ∧ w' = w := by
  go_enter Try.func22, Try.ntmps22
  go_wp2
  go_ret
  exact ⟨rfl, rfl⟩

theorem peek_any (b g n cap j : Nat) (d : Int) (w : World) (hm : n ≤ maxLen) (ht : w.cell? ⟨b, 0, none⟩ = some (.slice (some ⟨g, 0, none⟩) n cap)) (hp : w.cell? ⟨b, 1, none⟩ = some (.int .i64 j))
    (hj : j < n) (hd : w.cell? ⟨g, j, none⟩ = some (.int .u8 d)) (hws : wsB d = false) :
    Calls Try.prog 41 #[.pointer (some ⟨b, 0, none⟩)] w fun e w' => e = .returned (.int .u8 d) ∧ ∃ q, w' = w.drewN q := by
  unfold maxLen at hm
  have hji : (j : Int) < (n : Int) := by omega
  go_enter Try.func41, Try.ntmps41
  go_wp2
  go_loopw [3] (fun _ wr => wr = w) (fun _ _ => 0)
  case atStart => exact rfl
  case round =>
    obtain rfl := hrel
    go_wp2
    go_quiet ((go_at_call 40; exact Calls.quiet_of_same (isSpace_any _ _)))
    go_wp2
    go_quiet (fail)
    go_wp2
    go_quiet (fail)
    go_wp2
    go_ret
    exact ⟨rfl, _, by rw [World.drewN_drewN, World.drewN_drewN]⟩

/-- the number in the reader's field pos -/
def posIn (b : Nat) (w : World) : Nat := match w.cell? ⟨b, 1, none⟩ with | some v => (intOf v).toNat | none => 0
theorem posIn_of {b : Nat} {w : World} {j : Nat} (h : w.cell? ⟨b, 1, none⟩ = some (.int .i64 j)) : posIn b w = j := by simp [posIn, h, intOf]

theorem step_pos {b g n cap j : Nat} {w wr : World} (nq : Nat) (hB : Below b w wr) (ht : wr.cell? ⟨b, 0, none⟩ = some (.slice (some ⟨g, 0, none⟩) n cap)) (hp : wr.cell? ⟨b, 1, none⟩ = some (.int .i64 j)) (hfz : wr.frozen? ⟨b, 1, none⟩ = false) :
    Below b w ((wr.drewN nq).setCell ⟨b, 1, none⟩ (.int .i64 ((j : Int) + 1))) ∧ ((wr.drewN nq).setCell ⟨b, 1, none⟩ (.int .i64 ((j : Int) + 1))).cell? ⟨b, 0, none⟩ = some (.slice (some ⟨g, 0, none⟩) n cap) ∧
    ((wr.drewN nq).setCell ⟨b, 1, none⟩ (.int .i64 ((j : Int) + 1))).cell? ⟨b, 1, none⟩ = some (.int .i64 ((j + 1 : Nat) : Int)) ∧ ((wr.drewN nq).setCell ⟨b, 1, none⟩ (.int .i64 ((j : Int) + 1))).frozen? ⟨b, 1, none⟩ = false := by
  refine ⟨(below_drewN hB nq).setCell (Nat.le_refl _) _, ?_, ?_, ?_⟩
  · rw [World.cell?_setCell_other _ _ _ _ (by simp)]; exact ht
  · rw [World.cell?_setCell_same (u := .int .i64 j) _ _ _ (by exact hp)]; simp
  · simpa using hfz

theorem step_measure {b g n cap j s : Nat} {w wr : World} (nq : Nat) (hlt : j < s) (hB : Below b w wr) (ht : wr.cell? ⟨b, 0, none⟩ = some (.slice (some ⟨g, 0, none⟩) n cap)) (hp : wr.cell? ⟨b, 1, none⟩ = some (.int .i64 j)) (hfz : wr.frozen? ⟨b, 1, none⟩ = false) :
    s - posIn b ((wr.drewN nq).setCell ⟨b, 1, none⟩ (.int .i64 ((j : Int) + 1))) < s - posIn b wr := by
  rw [posIn_of hp, posIn_of (step_pos nq hB ht hp hfz).2.2.1]
  omega

set_option maxHeartbeats 1000000 in
theorem value_any (b g n cap s : Nat) (zs : List Int) (w : World) (hm : n ≤ maxLen) (ht : w.cell? ⟨b, 0, none⟩ = some (.slice (some ⟨g, 0, none⟩) n cap)) (hp : w.cell? ⟨b, 1, none⟩ = some (.int .i64 0)) (hfz : w.frozen? ⟨b, 1, none⟩ = false)
    (hr : Reads w g 0 zs) (hn : zs.length = n) (hgb : g < b) (hcap : n ≤ cap) (d : Int) (h0 : zs.getD 0 0 = d) (hd : litB d = true) (hs : 1 ≤ s) (hsn : s ≤ n) (hall : ∀ k, k < s → endB (zs.getD k 0) = false) (hend : s < n → endB (zs.getD s 0) = true) :
    Calls Try.prog 32 #[.pointer (some ⟨b, 0, none⟩)] w fun e w' => e = .returned (.slice (some ⟨g, 0, none⟩) s cap) ∧ Below b w w' ∧ w'.cell? ⟨b, 1, none⟩ = some (.int .i64 s) := by
  obtain ⟨-, h34, h123, h91, h125, h93, hws⟩ := lit_not hd
  have hd0 : w.cell? ⟨g, 0, none⟩ = some (.int .u8 d) := by have := hr 0 (by omega); rw [h0] at this; exact this
  have HP := hid_of (peek_any b g n cap 0 d w hm ht hp (by omega) hd0 hws)
  have HR := hid_of hr
  have HN := hid_of hn
  have HA := hid_of hall
  have HE := hid_of hend
  clear hr hn hall hend h0 hws hd
  unfold maxLen at hm
  have h1n : (0 : Int) < (n : Int) := by omega
  go_enter Try.func32, Try.ntmps32
  go_wp2_with fail
  refine HP.out.mono ?_
  rintro e w' ⟨rfl, q, rfl⟩
  go_wp2_with fail
  go_loopw [4] (fun t wr => t = .int .i64 0 ∧ wr = w.drewN q) (fun _ _ => 0)
  case atStart => exact ⟨rfl, rfl⟩
  case round =>
    obtain ⟨rfl, rfl⟩ := hrel
    go_wp2_with fail
    go_quiet (fail)
    go_wp2_with fail
    go_loopw [82] (fun _ wr => ∃ j : Nat, j ≤ s ∧ Below b w wr ∧ wr.cell? ⟨b, 0, none⟩ = some (.slice (some ⟨g, 0, none⟩) n cap) ∧ wr.cell? ⟨b, 1, none⟩ = some (.int .i64 j) ∧ wr.frozen? ⟨b, 1, none⟩ = false) (fun _ wr => s - posIn b wr)
    case atStart => exact ⟨0, by omega, below_drewN (Below.refl _ _) _, ht, hp, hfz⟩
    case round =>
      clear ht hp hfz hd0
      obtain ⟨j, hjs, hbel, ht, hp, hfz⟩ := hrel
      have HB := hid_of hbel
      clear hbel
      by_cases hlt : j < s
      · have hji : (j : Int) < (n : Int) := by omega
        have hc : wr.cell? ⟨g, j, none⟩ = some (.int .u8 (zs.getD j 0)) := by
          rw [HB.out.cell (p := ⟨g, j, none⟩) hgb]
          have := HR.out j (by rw [HN.out]; omega)
          rw [Nat.zero_add] at this
          exact this
        obtain ⟨c, hcc⟩ : ∃ c, c = zs.getD j 0 := ⟨_, rfl⟩
        have he : endB c = false := by rw [hcc]; exact HA.out j hlt
        rw [← hcc] at hc
        clear hcc
        go_wp2_with fail
        go_quiet ((go_at_call 30; exact Calls.quiet_of_same (endsLiteral_any _ _)))
        go_wp2_with fail
        go_roundw
        case rel => exact ⟨j + 1, by omega, step_pos nq HB.out ht hp hfz⟩
        case measure => exact step_measure nq hlt HB.out ht hp hfz
      · have hjs' : j = s := by omega
        subst hjs'
        by_cases hlt2 : j < n
        · have hji : (j : Int) < (n : Int) := by omega
          have hc : wr.cell? ⟨g, j, none⟩ = some (.int .u8 (zs.getD j 0)) := by
            rw [HB.out.cell (p := ⟨g, j, none⟩) hgb]
            have := HR.out j (by rw [HN.out]; omega)
            rw [Nat.zero_add] at this
            exact this
          obtain ⟨c, hcc⟩ : ∃ c, c = zs.getD j 0 := ⟨_, rfl⟩
          have he : endB c = true := by rw [hcc]; exact HE.out hlt2
          rw [← hcc] at hc
          clear hcc
          go_wp2_with fail
          go_quiet ((go_at_call 30; exact Calls.quiet_of_same (endsLiteral_any _ _)))
          go_wp2_with fail
          go_quiet (fail)
          go_wp2_with fail
          go_ret
          exact ⟨rfl, below_drewN (below_drewN HB.out _) _, hp⟩
        · have hji : ¬ (j : Int) < (n : Int) := by omega
          have hd2 : decide ((j : Int) < (n : Int)) = false := by simpa using hji
          go_wp2_with fail
          go_quiet ((go_at_call 30; exact Calls.quiet_of_same (endsLiteral_any _ _)))
          go_wp2_with fail
          go_quiet (fail)
          go_wp2_with fail
          go_ret
          exact ⟨rfl, below_drewN (below_drewN HB.out _) _, hp⟩

end Go.Proofs.Qxb6608665a
