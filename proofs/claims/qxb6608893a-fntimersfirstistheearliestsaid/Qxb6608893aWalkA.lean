import Derived.Test.Qxb6608893aBase
import Derived.DeepKeys4
import Derived.MapViews
import Derived.Lib.SmallJoins
import Derived.Deep.RegionHeld3
import Derived.Deep.DeepCutAuto
import Derived.BigRegion
namespace Go.Proofs.Qxb6608893a
open Go.RowKit Go.Maps Go.WideMaps Go.Joins
set_option linter.unusedVariables false

theorem dec_no {a b : Int} (h : ¬ a < b) : decide (a < b) = false := by simpa using h
theorem dec_yes {a b : Int} (h : a < b) : decide (a < b) = true := by simpa using h
def AnyB (e : Ending) : Prop := ∃ r, e = .returned (.bool r)
theorem anyB (r : Bool) : AnyB (.returned (.bool r)) := ⟨r, rfl⟩

set_option maxRecDepth 20000 in
theorem guard7 (a0 a1 a2 : Option Addr) (n0 c0 n1 c1 n2 c2 : Nat) (w : World) (h0 : n0 ≤ maxLen) (h1 : n1 ≤ maxLen) (h2 : n2 ≤ maxLen) :
    Calls Try.prog 7 #[.slice a0 n0 c0, .slice a1 n1 c1, .slice a2 n2 c2] w fun e w' => AnyB e ∧ w' = w := by
  unfold maxLen at h0 h1 h2
  by_cases b0 : (1048576 : Int) < (n0 : Int)
  · have d0 := dec_yes b0
    clear b0
    go_enter Try.func7, Try.ntmps7
    go_wp2_with fail
    go_ret
    exact ⟨anyB _, rfl⟩
  · have d0 := dec_no b0
    have e0 : (n0 : Int) ≤ 1048576 := by omega
    clear b0
    by_cases b1 : (1048576 : Int) < (n1 : Int)
    · have d1 := dec_yes b1
      clear b1
      go_enter Try.func7, Try.ntmps7
      go_wp2_with fail
      go_ret
      exact ⟨anyB _, rfl⟩
    · have d1 := dec_no b1
      have e1 : (n1 : Int) ≤ 1048576 := by omega
      clear b1
      by_cases s1 : (1048576 : Int) < (n0 : Int) + (n1 : Int)
      · have f1 := dec_yes s1
        clear s1
        go_enter Try.func7, Try.ntmps7
        go_wp2_with fail
        go_ret
        exact ⟨anyB _, rfl⟩
      · have f1 := dec_no s1
        clear s1
        by_cases b2 : (1048576 : Int) < (n2 : Int)
        · have d2 := dec_yes b2
          clear b2
          go_enter Try.func7, Try.ntmps7
          go_wp2_with fail
          go_ret
          exact ⟨anyB _, rfl⟩
        · have d2 := dec_no b2
          have e2 : (n2 : Int) ≤ 1048576 := by omega
          clear b2
          by_cases s2 : (1048576 : Int) < (n0 : Int) + (n1 : Int) + (n2 : Int)
          · have f2 := dec_yes s2
            clear s2
            go_enter Try.func7, Try.ntmps7
            go_wp2_with fail
            go_ret
            exact ⟨anyB _, rfl⟩
          · have f2 := dec_no s2
            clear s2
            go_enter Try.func7, Try.ntmps7
            go_wp2_with fail
            go_ret
            exact ⟨anyB _, rfl⟩

theorem first_none (b : Nat) (w : World) (h : w.cell? ⟨b, 0, none⟩ = some (.slice none 0 0)) :
    Calls Try.prog 9 #[.pointer (some ⟨b, 0, none⟩)] w fun e w' => e = .returned (.tuple #[.int .i64 0, .bool false]) ∧ w' = w := by
  go_enter Try.func9, Try.ntmps9
  go_wp2
  go_ret2
  exact ⟨rfl, rfl⟩

theorem first_some (b g n c : Nat) (x : Int) (w : World) (hn : 0 < n) (hm : n ≤ 4096) (h : w.cell? ⟨b, 0, none⟩ = some (.slice (some ⟨g, 0, none⟩) n c)) (hx : w.cell? ⟨g, 0, none⟩ = some (.int .i64 x)) :
    Calls Try.prog 9 #[.pointer (some ⟨b, 0, none⟩)] w fun e w' => e = .returned (.tuple #[.int .i64 x, .bool true]) ∧ w' = w := by
  have h0 : ((n : Int) == 0) = false := by simp; omega
  have h1 : (0 : Int) < (n : Int) := by omega
  go_enter Try.func9, Try.ntmps9
  go_wp2
  go_ret2
  exact ⟨rfl, rfl⟩

theorem laid38 : laidOutB Try.prog = true := by kernel_rfl
theorem row38 : (38 : TypeId) < Try.prog.types.size := of_decide_eq_true (by kernel_rfl)
theorem wide38 : (match Try.prog.underlying 38 with | some (.array _ _) | some (.struct _) => true | _ => false) = true := by rw [Try.underlying38]
theorem law38 : Keyed Try.prog 38 := Keyed.of_law (deep_law_laid laid38 (m := 2) (by omega) row38 (by kernel_rfl) wide38)
theorem cells38 : Try.prog.cellsOf 38 = 2 := by kernel_rfl
theorem formed38 {c0 c1 : Value} : (Value.agg #[c0, c1]).formed Try.prog 38 = true := by simp [Value.formed, Try.underlying38, cells38]
theorem key38 (a b : Int) (w : World) (wa : (Lit.int .i64 a).wf = true) (wb : (Lit.int .i64 b).wf = true) : ∃ kl, keyOf Try.prog 38 (.agg #[.int .i64 a, .int .i64 b]) = some kl := by
  have hd := shut_agg2 (H := Unit) (enc := fun _ => ()) (w := w) (base := 0) (spare := fun _ => true) (held := true) (P := Try.prog) (v0 := .int .i64 a) (v1 := .int .i64 b) (y0 := (.lit (.int .i64 a), [])) (y1 := (.lit (.int .i64 b), [])) Try.underlying38 (by kernel_rfl) cells38
    ⟨1, by simp [DataW.trod, Try.underlying3, wa]⟩ ⟨1, by simp [DataW.trod, Try.underlying3, wb]⟩
  exact ⟨_, (keyOf_asKey (by kernel_rfl) wide38 formed38 hd).1⟩

end Go.Proofs.Qxb6608893a
