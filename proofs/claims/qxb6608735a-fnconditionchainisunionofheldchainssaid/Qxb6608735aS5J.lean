import Derived.Test.Qxb6608735aS5I
namespace Go.Proofs.Qxb6608735a
open Go.RowKit Go.Maps Go.WideMaps Go.Joins
set_option linter.unusedVariables false

set_option maxRecDepth 20000 in
set_option maxHeartbeats 1000000 in
theorem place_any (hb B : Nat) (av : Value) (hp ho lo hi lk : List Int) (os : List ByteArray) (pos : Int) (w : World) (hh : HoldC w B hb av hp ho lo hi lk os) (hB : B ≤ w.heap.size) (hm : hp.length ≤ 4096) (hb32 : I32 hp) (hasc : Asc hp) (hp1 : 0 ≤ pos) (hp2 : pos ≤ 4096) :
    Calls Try.prog 52 #[.pointer (some ⟨hb, 0, none⟩), .int .i64 pos] w fun e w' => BisB hp pos e ∧ Below w.heap.size w w' := by
  have hmf : ∀ (fn : Fn) (first cap : Array Value) (w : World), (Instr.makeFunc fn first cap).run Try.prog w = .ok (.func fn first cap) w := fun _ _ _ _ => rfl
  have B0 : Hid (Below w.heap.size w (w.alloc (.cells #[.pointer (some ⟨hb, 0, none⟩)] 30))) := (Below.refl _ _).alloc (Nat.le_refl _) _
  have HH := hid_of (hh.below B0.out hB)
  have LT := hid_of hh.lt
  obtain ⟨nb, cb, gh, ga, oa, oc, la, lc, k1, k2, k3, k4, e0, e1, e2, e3, e4, hN, f0, g0, g1, hI, F1, F2, cc1, cc2⟩ := hh.ex
  have HBis := hid_of (fun hpb => bisect_any w.heap.size hb B av hp ho lo hi lk os pos _ (w.alloc (.cells #[.pointer (some ⟨hb, 0, none⟩)] 30)) HH.out hpb rfl hm hb32 hasc hp1 hp2)
  have n1 : w.heap.size ≠ hb := by have := LT.out; omega
  obtain ⟨n, en⟩ : ∃ n, n = hp.length := ⟨_, rfl⟩
  rw [← en] at e1 HBis hm
  have r1 : (w.alloc (.cells #[.pointer (some ⟨hb, 0, none⟩)] 30)).cell? ⟨hb, 1, none⟩ = some (.slice (some ⟨gh, 0, none⟩) n n) := by
    rw [B0.out.cell (p := ⟨hb, 1, none⟩) (by have := LT.out; show hb < _; omega)]; exact e1
  clear e1
  clear hh k1 k2 k3 k4 e0 e2 e3 e4 hN f0 g0 g1 hI F1 F2 hb32 hasc cc1 cc2 en
  go_enter Try.func52, Try.ntmps52
  go_wp2_with fail
  refine (HBis.out (by simp [go_sem])).mono ?_
  rintro e w' ⟨hbis, hw⟩
  subst w'
  rcases hbis with ⟨i, rfl, hi1, hi2⟩ | ⟨rfl, hno⟩
  · have P1 := hid_of hi1
    have P2 := hid_of hi2
    clear hi1 hi2
    go_wp2_with fail
    go_ret2
    exact ⟨.inl ⟨i, rfl, P1.out, P2.out⟩, B0.out⟩
  · have P1 := hid_of hno
    clear hno
    go_wp2_with fail
    go_ret2
    exact ⟨.inr ⟨rfl, P1.out⟩, B0.out⟩

/-- what 'at' answers: nil for a start, false where gone or not held, else the chain -/
def AtB (hp ho lo hi lk : List Int) (pos : Int) (B : Nat) (w : World) (e : Ending) (w' : World) : Prop :=
  (e = .returned (.tuple #[.slice none 0 0, .bool false]) ∧ Below w.heap.size w w' ∧ ∀ i, i < hp.length → hp.getD i 0 = pos → ho.getD i 0 = -2) ∨
  (e = .returned (.tuple #[.slice none 0 0, .bool true]) ∧ Below w.heap.size w w' ∧ ∃ i, i < hp.length ∧ hp.getD i 0 = pos ∧ ho.getD i 0 = -1) ∨
  (∃ a n c, e = .returned (.tuple #[.slice a n c, .bool true]) ∧ Below w.heap.size w w' ∧ ∃ i j : Nat, i < hp.length ∧ hp.getD i 0 = pos ∧ ho.getD i 0 = j ∧ j < lo.length ∧ n = (chainL lo hi lk j).length ∧ n ≤ c ∧ c ≤ 8192 ∧ HasI .i64 w' B a (chainL lo hi lk j))

set_option maxRecDepth 20000 in
set_option maxHeartbeats 2000000 in
theorem at_any (hb B : Nat) (av : Value) (hp ho lo hi lk : List Int) (os : List ByteArray) (pos : Int) (w : World) (hh : HoldC w B hb av hp ho lo hi lk os) (hB : B ≤ w.heap.size) (hm : hp.length ≤ 4096) (hb32 : I32 hp) (hasc : Asc hp) (hp1 : 0 ≤ pos) (hp2 : pos ≤ 4096)
    (hol : ho.length = hp.length) (ho1 : ∀ i, i < ho.length → -2 ≤ ho.getD i 0 ∧ ho.getD i 0 < lo.length) (hch : ∀ j, j < lo.length → ChainOk lk lo hi j) (hlk : lk.length ≤ 4096) (hlo : lo.length ≤ 4096) :
    Calls Try.prog 48 #[.pointer (some ⟨hb, 0, none⟩), .int .i64 pos] w fun e w' => AtB hp ho lo hi lk pos B w e w' := by
  have HP := hid_of (place_any hb B av hp ho lo hi lk os pos w hh hB hm hb32 hasc hp1 hp2)
  have HH := hid_of hh
  have HA := hid_of hasc
  have HO := hid_of ho1
  have HCh := hid_of hch
  have HOL := hid_of hol
  clear hh hb32 hasc ho1 hch hol
  go_enter Try.func48, Try.ntmps48
  go_wp2_with fail
  refine HP.out.mono ?_
  rintro e w1 ⟨hbis, hbel⟩
  have HH1 := hid_of (HH.out.below hbel hB)
  have B1 := hid_of hbel
  have S1 := hid_of hbel.size
  clear hbel HP HH
  obtain ⟨nb, cb, gh, ga, oa, oc, la, lc, k1, k2, k3, k4, e0, e1, e2, e3, e4, hN, f0, g0, g1, hI, F1, F2, cc1, cc2⟩ := HH1.out.ex
  have F := hid_of F1
  clear e0 e3 e4 hN f0 g0 g1 hI F1 F2 cc1 cc2 k1 k2 k3 k4
  rcases hbis with ⟨i, rfl, hi1, hi2⟩ | ⟨rfl, hno⟩
  · have P1 := hid_of hi1
    have P2 := hid_of hi2
    have p1 := (heldF_at F.out hi1).2
    obtain ⟨b1, b2⟩ := HO.out i (by rw [HOL.out]; exact hi1)
    obtain ⟨x, ex⟩ : ∃ x, x = ho.getD i 0 := ⟨_, rfl⟩
    rw [← ex] at p1 b1 b2
    have X := hid_of ex
    obtain ⟨n, en⟩ : ∃ n, n = hp.length := ⟨_, rfl⟩
    rw [← en] at e1 hi1 hm
    have d1 : (i : Int) < (n : Int) := by omega
    have NB := hid_of b2
    have d2 : x ≤ 4096 := by omega
    clear hi2 ex en b2
    by_cases t1 : x = -1
    · subst t1
      go_wp2_with fail
      go_ret2
      exact .inr (.inl ⟨rfl, B1.out, i, P1.out, P2.out, X.out.symm⟩)
    · by_cases t2 : x = -2
      · subst t2
        go_wp2_with fail
        go_ret2
        refine .inl ⟨rfl, B1.out, fun u hu hup => ?_⟩
        have : u = i := by
          rcases Nat.lt_trichotomy u i with h | h | h
          · have := HA.out u i h P1.out; rw [P2.out, hup] at this; omega
          · exact h
          · have := HA.out i u h hu; rw [P2.out, hup] at this; omega
        rw [this]; exact X.out.symm
      · have q1 : (x == -1) = false := by simpa using t1
        have q2 : (x == -2) = false := by simpa using t2
        obtain ⟨j, rfl⟩ : ∃ j : Nat, x = j := ⟨x.toNat, by omega⟩
        have hj : j < lo.length := by have := NB.out; omega
        have HCall := hid_of (chainOf_any hb B av hp ho lo hi lk os j w1 HH1.out (by have := S1.out; omega) hj (HCh.out j hj) hlk hlo)
        clear t1 t2
        go_wp2_with fail
        refine HCall.out.mono ?_
        rintro e w2 ⟨a, m, c, rfl, hm1, hm2, hm3, hm4, hm5⟩
        have M1 := hid_of hm1
        have M2 := hid_of hm2
        have M3 := hid_of hm3
        have M4 := hid_of hm4
        have M5 := hid_of hm5
        clear hm1 hm2 hm3 hm4 hm5
        go_wp2_with fail
        go_ret2
        exact .inr (.inr ⟨a, m, c, rfl, B1.out.trans (M5.out.mono S1.out), i, j, P1.out, P2.out, X.out.symm, hj, M1.out, M2.out, M3.out, M4.out⟩)
  · have P1 := hid_of hno
    clear hno
    go_wp2_with fail
    go_ret2
    exact .inl ⟨rfl, B1.out, fun u hu hup => absurd hup (P1.out u hu)⟩

end Go.Proofs.Qxb6608735a
