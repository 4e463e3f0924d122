import Derived.Test.Qxb6608735aS5H
namespace Go.Proofs.Qxb6608735a
open Go.RowKit Go.Maps Go.WideMaps Go.Joins
set_option linter.unusedVariables false

/-- the held row at a place -/
theorem heldF_at {w : World} {g n : Nat} {hp ho : List Int} (h : Filled w g (n * 2) (n * 2) (heldF hp ho) 93) {i : Nat} (hi : i < n) : w.cell? ⟨g, i * 2, none⟩ = some (.int .i32 (hp.getD i 0)) ∧ w.cell? ⟨g, i * 2 + 1, none⟩ = some (.int .i32 (ho.getD i 0)) := by
  obtain ⟨L, h1, h2, h3⟩ := h
  constructor
  · rw [cell_row h1, h3 _ (by omega), ← heldF0 hp ho i rfl]
  · rw [cell_row h1, h3 _ (by omega), ← heldF1 hp ho i rfl]

set_option maxRecDepth 20000 in
theorem closure_any (pb hb B : Nat) (av : Value) (hp ho lo hi lk : List Int) (os : List ByteArray) (i : Nat) (w : World) (hh : HoldC w B hb av hp ho lo hi lk os) (hpb : w.cell? ⟨pb, 0, none⟩ = some (.pointer (some ⟨hb, 0, none⟩))) (hi' : i < hp.length) (hm : hp.length ≤ 4096) (hb32 : I32 hp) :
    Calls Try.prog 56 #[.int .i64 i, .pointer (some ⟨pb, 0, none⟩)] w fun e w' => e = .returned (.int .i64 (hp.getD i 0)) ∧ w' = w := by
  obtain ⟨nb, cb, gh, ga, oa, oc, la, lc, k1, k2, k3, k4, e0, e1, e2, e3, e4, hN, f0, g0, g1, hI, F1, F2, cc1, cc2⟩ := hh.ex
  have p0 := (heldF_at F1 hi').1
  obtain ⟨b1, b2⟩ := hb32 i hi'
  obtain ⟨x, ex⟩ : ∃ x, x = hp.getD i 0 := ⟨_, rfl⟩
  rw [← ex] at p0 b1 b2 ⊢
  obtain ⟨n, en⟩ : ∃ n, n = hp.length := ⟨_, rfl⟩
  rw [← en] at e1 hi' hm
  have d1 : (i : Int) < (n : Int) := by omega
  clear hh k1 k2 k3 k4 e0 e2 e3 e4 hN f0 g0 g1 hI F1 F2 hb32 ex en cc1 cc2
  go_enter Try.func56, Try.ntmps56
  go_wp2_with fail
  go_ret
  exact ⟨rfl, rfl⟩

def BisR (hp : List Int) (pos : Int) (n : Nat) (w : World) (lo hi : Value) (wr : World) : Prop :=
  ∃ l h : Nat, lo = .int .i64 l ∧ hi = .int .i64 h ∧ l ≤ h ∧ h ≤ n ∧ (∀ u, u < l → hp.getD u 0 < pos) ∧ (∀ u, h ≤ u → u < n → pos < hp.getD u 0) ∧ wr = w
def Asc (zs : List Int) : Prop := ∀ i j, i < j → j < zs.length → zs.getD i 0 < zs.getD j 0
/-- where a position is found -/
def BisB (hp : List Int) (pos : Int) (e : Ending) : Prop :=
  (∃ i : Nat, e = .returned (.tuple #[.int .i64 i, .bool true]) ∧ i < hp.length ∧ hp.getD i 0 = pos) ∨ (e = .returned (.tuple #[.int .i64 0, .bool false]) ∧ ∀ u, u < hp.length → hp.getD u 0 ≠ pos)

set_option maxRecDepth 20000 in
set_option maxHeartbeats 1000000 in
theorem bisect_any (pb hb B : Nat) (av : Value) (hp ho lo hi lk : List Int) (os : List ByteArray) (pos : Int) (n : Nat) (w : World) (hh : HoldC w B hb av hp ho lo hi lk os) (hpb : w.cell? ⟨pb, 0, none⟩ = some (.pointer (some ⟨hb, 0, none⟩))) (hn : hp.length = n) (hm : n ≤ 4096) (hb32 : I32 hp) (hasc : Asc hp) (hp1 : 0 ≤ pos) (hp2 : pos ≤ 4096) :
    Calls Try.prog 55 #[.int .i64 n, .func (.func 56) #[] #[.pointer (some ⟨pb, 0, none⟩)], .int .i64 pos] w fun e w' => BisB hp pos e ∧ w' = w := by
  have HC := hid_of (fun i (hi' : i < hp.length) => closure_any pb hb B av hp ho lo hi lk os i w hh hpb hi' (by omega) hb32)
  have HN := hid_of hn
  have HA := hid_of hasc
  have HI := hid_of hb32
  clear hh hpb hn hb32 hasc
  go_enter Try.func55, Try.ntmps55
  go_wp2_with fail
  go_loopw [8, 9] (fun l h wr => BisR hp pos n w l h wr) (fun l h _ => (intOf h).toNat - (intOf l).toNat)
  case atStart => exact ⟨0, n, rfl, rfl, by omega, by omega, fun u hu => by omega, fun u h1 h2 => by omega, rfl⟩
  case round =>
    obtain ⟨l, h, rfl, rfl, hlh, hhn, hl, hr, rfl⟩ := hrel
    have HL := hid_of hl
    have HR := hid_of hr
    clear hl hr
    by_cases hlt : l < h
    · obtain ⟨m, em⟩ : ∃ m, m = (l + h) / 2 := ⟨_, rfl⟩
      have m1 : l ≤ m := by omega
      have m2 : m < h := by omega
      go_wp2_with fail
      have em' : ((l : Int) + (h : Int)) / 2 = (m : Int) := by omega
      rw [em']
      refine (HC.out m (by rw [HN.out]; omega)).mono ?_
      rintro e w' ⟨rfl, hw⟩
      subst w'
      obtain ⟨b1, b2⟩ := HI.out m (by rw [HN.out]; omega)
      obtain ⟨x, ex⟩ : ∃ x, x = hp.getD m 0 := ⟨_, rfl⟩
      rw [← ex] at b1 b2 ⊢
      have X := hid_of ex
      clear em em' ex HC
      by_cases t1 : x < pos
      · go_wp2_with fail
        go_roundw
        case rel =>
          refine ⟨m + 1, h, by go_num, rfl, by omega, hhn, fun u hu => ?_, HR.out, rfl⟩
          by_cases e : u = m
          · subst e; rw [← X.out]; exact t1
          · have := HA.out u m (by omega) (by rw [HN.out]; omega)
            rw [← X.out] at this
            omega
        case measure => simp [intOf]; omega
      · by_cases t2 : pos < x
        · go_wp2_with fail
          go_roundw
          case rel =>
            refine ⟨l, m, rfl, rfl, by omega, by omega, HL.out, fun u h1 h2 => ?_, rfl⟩
            by_cases e : u = m
            · subst e; rw [← X.out]; exact t2
            · have := HA.out m u (by omega) (by rw [HN.out]; omega)
              rw [← X.out] at this
              omega
          case measure => simp [intOf]; omega
        · go_wp2_with fail
          go_ret2
          exact ⟨.inl ⟨m, rfl, by rw [HN.out]; omega, by rw [← X.out]; omega⟩, rfl⟩
    · go_wp2_with fail
      go_ret2
      exact ⟨.inr ⟨rfl, fun u hu e => by
        have hu' : u < n := by rw [← HN.out]; exact hu
        by_cases h1 : u < l
        · have := HL.out u h1; omega
        · have := HR.out u (by omega) hu'; omega⟩, rfl⟩

end Go.Proofs.Qxb6608735a
