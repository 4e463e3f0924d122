import Derived.Test.Qxb6608735aS5Plain
import Derived.Deep.RegionLaw
namespace Go.Proofs.Qxb6608735a
open Go.RowKit Go.Maps Go.WideMaps Go.Joins
set_option linter.unusedVariables false

def intF (ms : List Int) (i : Nat) : Value := .int .i64 (ms.getD i 0)
theorem Filled.made0 {w : World} {base : Nat} {e : TypeId} {g n : Nat} {xs : List Value} (f : Nat → Value) (h : w.ownsRow base e 1 (.slice (some ⟨g, 0, none⟩) 0 n) 0 xs) : Filled w g n 0 f e := by
  obtain ⟨hl, ⟨h, h0⟩ | ⟨g', cap, cur, hv, hg, hh, h1, h2, h3, h4⟩⟩ := h
  · simp at h
  · simp only [Value.slice.injEq, Option.some.injEq, Addr.mk.injEq, and_true] at hv
    obtain ⟨rfl, -, rfl⟩ := hv
    exact ⟨cur.toList, by simpa using hh, by simpa using h3, fun i hi => by omega⟩

theorem Filled.congr {w : World} {g n k : Nat} {f f' : Nat → Value} {e : TypeId} (h : Filled w g n k f e) (hf : ∀ i, i < k → f i = f' i) : Filled w g n k f' e := by
  obtain ⟨L, h1, h2, h3⟩ := h
  exact ⟨L, h1, h2, fun i hi => by rw [h3 i hi, hf i hi]⟩
theorem intF_snoc (ms : List Int) (x : Int) (i : Nat) (h : i < ms.length) : intF ms i = intF (ms ++ [x]) i := by
  simp [intF, List.getD, List.getElem?_append_left h]
theorem Filled.alloc {w : World} {g n k : Nat} {f : Nat → Value} {e : TypeId} (h : Filled w g n k f e) (o : Obj) : Filled (w.alloc o) g n k f e := by
  have hlt := h.lt
  obtain ⟨L, h1, h2, h3⟩ := h
  exact ⟨L, by rw [Below.heap_alloc _ _ _ hlt]; exact h1, h2, h3⟩
theorem Filled.push {W : World} {g N : Nat} {ms : List Int} (x : Int) (o : Obj) (h : Filled W g N ms.length (intF ms) 2) (hk : ms.length < N) : Filled ((W.setCell ⟨g, ms.length, none⟩ (.int .i64 x)).alloc o).drew g N (ms ++ [x]).length (intF (ms ++ [x])) 2 := by
  have h2 := ((h.congr (fun i hi => intF_snoc ms x i hi)).step hk (v := .int .i64 x) (by simp [intF, List.getD])).alloc o
  simpa using h2.drew
theorem Filled.own {w : World} {g cap B : Nat} {ms : List Int} (h : Filled w g cap ms.length (intF ms) 2) (hB : B ≤ g) (hc : ms.length ≤ cap) (hm : cap ≤ maxLen) : w.ownsRow B 2 1 (.slice (some ⟨g, 0, none⟩) ms.length cap) ms.length (ms.map (Value.int .i64)) := by
  obtain ⟨L, h1, h2, h3⟩ := h
  refine ⟨by simp, .inr ⟨g, cap, L.toArray, rfl, hB, h1, hc, hm, by simp [h2], ?_⟩⟩
  apply List.ext_getElem?
  intro i
  by_cases hi : i < ms.length
  · rw [List.getElem?_take_of_lt (by omega)]
    simp [h3 i hi, intF, List.getD, List.getElem?_eq_getElem hi]
  · rw [List.getElem?_eq_none (by simp; omega), List.getElem?_eq_none (by simp; omega)]
theorem cells_any {k : IntKind} {w : World} {B b off : Nat} {zs : List Int} (h : HasI k w B (some ⟨b, off, none⟩) zs) : ∀ (j : Nat) (v : Value), (zs.map (Value.int k))[j]? = some v → w.cell? ((⟨b, off, none⟩ : Addr).add j) = some v := by
  intro j v hj
  by_cases h0 : 0 < zs.length
  · obtain ⟨b', off', he, _, hc⟩ := h h0
    simp only [Option.some.injEq, Addr.mk.injEq, and_true] at he
    obtain ⟨rfl, rfl⟩ := he
    exact cells_of hc j v hj
  · rw [List.getElem?_eq_none (by simp; omega)] at hj
    cases hj
theorem own_cap {w : World} {B : Nat} {e : TypeId} {k : IntKind} {v : Value} {zs : List Int} (h : w.ownsRow B e 1 v zs.length (zs.map (Value.int k))) : ∃ a c, v = .slice a zs.length c ∧ zs.length ≤ c ∧ HasI k w w.heap.size a zs := by
  have h' := h
  obtain ⟨a, c, rfl, hI⟩ := hasI_own h'
  refine ⟨a, c, rfl, ?_, hI⟩
  obtain ⟨hl, ⟨h, h0⟩ | ⟨g', cap, cur, hv, hg, hh, h1, h2, h3, h4⟩⟩ := h
  · omega
  · simp only [Value.slice.injEq] at hv
    obtain ⟨-, -, rfl⟩ := hv
    exact h1
theorem rest_step {w : World} {B ba oa p n c : Nat} {xs : List Int} (h : HasI .i64 w B (some ⟨ba, oa, none⟩) (xs.drop p)) (hn : xs.length = n) (hnc : n ≤ c) (hp : p < n) :
    ∃ ba' oa', (if c - p = 1 then some (⟨ba, oa, none⟩ : Addr) else some ⟨ba, oa + 1, none⟩) = some ⟨ba', oa', none⟩ ∧ HasI .i64 w B (some ⟨ba', oa', none⟩) (xs.drop (p + 1)) := by
  have e : xs.drop (p + 1) = (xs.drop p).drop 1 := by rw [List.drop_drop]
  by_cases h1 : c - p = 1
  · refine ⟨ba, oa, if_pos h1, ?_⟩
    exact HasI.drop_end _ (by omega)
  · refine ⟨ba, oa + 1, if_neg h1, ?_⟩
    rw [e]
    exact h.drop (fun _ => rfl)

def MerR (xs ys : List Int) (n m c d : Nat) (B g : Nat) (w : World) (v0 v1 v5 : Value) (wr : World) : Prop :=
  ∃ (p q : Nat) (ms : List Int) (ba oa bb ob : Nat), v0 = .slice (some ⟨ba, oa, none⟩) (n - p) (c - p) ∧ v1 = .slice (some ⟨bb, ob, none⟩) (m - q) (d - q) ∧ v5 = .slice (some ⟨g, 0, none⟩) ms.length (n + m) ∧
    HasI .i64 w B (some ⟨ba, oa, none⟩) (xs.drop p) ∧ HasI .i64 w B (some ⟨bb, ob, none⟩) (ys.drop q) ∧ p ≤ n ∧ q ≤ m ∧ Mer xs ys p q ms ∧ Filled wr g (n + m) ms.length (intF ms) 2 ∧ Below w.heap.size w wr
def MergeB (xs ys : List Int) (w : World) (e : Ending) (w' : World) : Prop :=
  ∃ a n c zs, e = .returned (.slice a n c) ∧ n = zs.length ∧ n ≤ c ∧ HasI .i64 w' w'.heap.size a zs ∧ Below w.heap.size w w' ∧ Union xs ys zs

def lenOf : Value → Nat
  | .slice _ n _ => n
  | _ => 0

set_option maxRecDepth 20000 in
set_option maxHeartbeats 2000000 in
theorem merge_any (a b : Option Addr) (n c m d B : Nat) (xs ys : List Int) (w : World) (h1 : HasI .i64 w B a xs) (h2 : HasI .i64 w B b ys) (hB : B ≤ w.heap.size) (hn : xs.length = n) (hm : ys.length = m) (hn4 : n ≤ 4096) (hm4 : m ≤ 4096) (hnc : n ≤ c) (hmd : m ≤ d) (hx : Up xs) (hy : Up ys) :
    Calls Try.prog 49 #[.slice a n c, .slice b m d] w fun e w' => MergeB xs ys w e w' := by
  obtain ⟨i0, i1, iz0, iz1, iz2⟩ := info_parts info2
  have H1 := hid_of h1
  have H2 := hid_of h2
  have N := hid_of hn
  have M := hid_of hm
  have HX := hid_of hx
  have HY := hid_of hy
  clear h1 h2 hn hm hx hy
  by_cases n0 : n = 0
  · subst n0
    have hxs : xs = [] := List.eq_nil_of_length_eq_zero N.out
    go_enter Try.func49, Try.ntmps49
    go_wp2_with fail
    go_ret
    exact ⟨b, m, d, ys, rfl, M.out.symm, hmd, H2.out.mono hB, Below.refl _ _, by rw [hxs]; exact Union.nil_left HY.out⟩
  · have n0' : ((n : Int) == 0) = false := by simp; omega
    by_cases m0 : m = 0
    · subst m0
      have hys : ys = [] := List.eq_nil_of_length_eq_zero M.out
      go_enter Try.func49, Try.ntmps49
      go_wp2_with fail
      go_ret
      exact ⟨a, n, c, xs, rfl, N.out.symm, hnc, H1.out.mono hB, Below.refl _ _, by rw [hys]; exact Union.nil_right HX.out⟩
    · have m0' : ((m : Int) == 0) = false := by simp; omega
      obtain ⟨ba, oa, rfl, hba, _⟩ := H1.out (by rw [N.out]; omega)
      obtain ⟨bb, ob, rfl, hbb, _⟩ := H2.out (by rw [M.out]; omega)
      go_enter Try.func49, Try.ntmps49
      go_wp2_with (at_make; refine wpList_make_own _ rfl _ _ 23 rfl w.heap.size 2 i0 (.int .i64 0) 1 Try.underlying23 i1 iz0 iz1 _ _ _ (n + m) rfl rfl (by simp) (by rw [iz2]; omega) (by unfold maxLen; omega) (Nat.le_refl _) ?_)
      intro w1 hown hgrow
      have HF := hid_of (Filled.made0 (intF []) hown)
      have HB1 := hid_of ((Below.refl _ _).grown hgrow (Nat.le_refl _) (fun k h => by cases h) : Below w.heap.size w w1)
      clear hown hgrow
      go_wp2_with fail
      go_loopw [0, 1, 5] (fun v0 v1 v5 wr => MerR xs ys n m c d B w.heap.size w v0 v1 v5 wr) (fun v0 v1 _ _ => (lenOf v0) + (lenOf v1))
      case atStart => exact ⟨0, 0, [], ba, oa, bb, ob, rfl, rfl, rfl, H1.out, H2.out, by omega, by omega, Mer.start _ _, HF.out, HB1.out⟩
      case round =>
        obtain ⟨p, q, ms, ba, oa, bb, ob, rfl, rfl, rfl, ha, hb, hp, hq, hM, hf, hbel⟩ := hrel
        have HA := hid_of ha
        have HBB := hid_of hb
        have HM := hid_of hM
        have HF2 := hid_of hf
        have HB2 := hid_of hbel
        clear ha hb hM hf hbel HF HB1
        by_cases hpn : p < n
        · by_cases hqm : q < m
          · obtain ⟨ba', oa', hab, hbA, hcx⟩ := HA.out (by rw [List.length_drop, N.out]; omega)
            simp only [Option.some.injEq, Addr.mk.injEq, and_true] at hab
            obtain ⟨rfl, rfl⟩ := hab
            obtain ⟨bb', ob', hab, hbBb, hcy⟩ := HBB.out (by rw [List.length_drop, M.out]; omega)
            simp only [Option.some.injEq, Addr.mk.injEq, and_true] at hab
            obtain ⟨rfl, rfl⟩ := hab
            have hx0 : wr.cell? ⟨ba, oa, none⟩ = some (.int .i64 (xs.getD p 0)) := by
              rw [HB2.out.cell (p := ⟨ba, oa, none⟩) (by show ba < _; omega)]
              have := hcx 0 (by rw [List.length_drop, N.out]; omega)
              simpa [List.getD] using this
            have hy0 : wr.cell? ⟨bb, ob, none⟩ = some (.int .i64 (ys.getD q 0)) := by
              rw [HB2.out.cell (p := ⟨bb, ob, none⟩) (by show bb < _; omega)]
              have := hcy 0 (by rw [List.length_drop, M.out]; omega)
              simpa [List.getD] using this
            clear hcx hcy
            obtain ⟨x, ex⟩ : ∃ x, x = xs.getD p 0 := ⟨_, rfl⟩
            obtain ⟨y, ey⟩ : ∃ y, y = ys.getD q 0 := ⟨_, rfl⟩
            rw [← ex] at hx0
            rw [← ey] at hy0
            have X := hid_of ex
            have Y := hid_of ey
            clear ex ey
            obtain ⟨k1, ek1⟩ : ∃ k, k = n - p := ⟨_, rfl⟩
            obtain ⟨k2, ek2⟩ : ∃ k, k = m - q := ⟨_, rfl⟩
            obtain ⟨c1, ec1⟩ : ∃ k, k = c - p := ⟨_, rfl⟩
            obtain ⟨c2, ec2⟩ : ∃ k, k = d - q := ⟨_, rfl⟩
            rw [← ek1, ← ek2, ← ec1, ← ec2]
            have z1 : (0 : Int) < (k1 : Int) := by omega
            have z2 : (0 : Int) < (k2 : Int) := by omega
            have z3 : (1 : Int) ≤ (k1 : Int) := by omega
            have z4 : (1 : Int) ≤ (k2 : Int) := by omega
            have z5 : (1 : Int) ≤ (c1 : Int) := by omega
            have z6 : (1 : Int) ≤ (c2 : Int) := by omega
            go_wp2_with fail
            by_cases t1 : x < y
            · go_quiet (fail)
              go_wp2_with fail
              have hx1 : (wr.drewN nq).cell? ⟨ba, oa, none⟩ = some (.int .i64 x) := hx0
              have HF3 := hid_of (HF2.out.drewN nq)
              have HB3 := hid_of (below_drewN HB2.out nq)
              clear hx0 hy0 HF2 HB2
              generalize wr.drewN nq = W at hx1 HF3 HB3 ⊢
              have hml : ms.length + 1 ≤ n + m := by have := HM.out.len; omega
              obtain ⟨v, hv⟩ := HF3.out.cell (j := ms.length) (by omega)
              have hlt := HF3.out.lt
              have hal : ∀ o, Below w.heap.size.succ W (W.alloc o) := fun o => (Below.refl _ _).alloc hlt o
              have hv1 : (W.alloc (.cells #[.int .i64 x] 2)).cell? ⟨w.heap.size, ms.length, none⟩ = some v := by
                rw [(hal _).cell (p := ⟨w.heap.size, ms.length, none⟩) (Nat.lt_succ_self _)]; exact hv
              have hv2 : (W.alloc (.cells #[.int .i64 x] 2)).frozen? ⟨w.heap.size, ms.length, none⟩ = false := by
                rw [World.frozen?, (hal _).block _ (Nat.lt_succ_self _)]
                exact HF3.out.frozen ms.length
              clear hv hal
              go_region
              go_wp2_with fail
              go_roundw
              case rel =>
                obtain ⟨ba', oa', e1, hA'⟩ := rest_step HA.out N.out hnc hpn
                rw [e1]
                exact ⟨p + 1, q, ms ++ [x], ba', oa', bb, ob, by rw [Nat.sub_sub, Nat.sub_sub], rfl, by simp, hA', HBB.out, by omega, hq, by rw [X.out]; exact HM.out.left HX.out HY.out (by rw [N.out]; exact hpn) (by rw [M.out]; exact hqm) (by rw [← X.out, ← Y.out]; exact t1), HF3.out.push x _ (by omega), ((HB3.out.setCell (p := ⟨w.heap.size, ms.length, none⟩) (Nat.le_refl _) _).alloc (by simp [World.setCell]; omega) _).drew⟩
              case measure => simp [lenOf]; omega
            · have t1' := dec_no t1
              go_quiet (fail)
              go_wp2_with fail
              have hx1 : (wr.drewN nq).cell? ⟨ba, oa, none⟩ = some (.int .i64 x) := hx0
              have hy1 : (wr.drewN nq).cell? ⟨bb, ob, none⟩ = some (.int .i64 y) := hy0
              have HF2' := hid_of (HF2.out.drewN nq)
              have HB2' := hid_of (below_drewN HB2.out nq)
              clear hx0 hy0 HF2 HB2
              generalize wr.drewN nq = W0 at hx1 hy1 HF2' HB2' ⊢
              by_cases t2 : y < x
              · go_quiet (fail)
                go_wp2_with fail
                rename Nat => nq2
                have hy2 : (W0.drewN nq2).cell? ⟨bb, ob, none⟩ = some (.int .i64 y) := hy1
                have HF3 := hid_of (HF2'.out.drewN nq2)
                have HB3 := hid_of (below_drewN HB2'.out nq2)
                clear hx1 hy1 HF2' HB2'
                generalize W0.drewN nq2 = W at hy2 HF3 HB3 ⊢
                have hml : ms.length + 1 ≤ n + m := by have := HM.out.len; omega
                obtain ⟨v, hv⟩ := HF3.out.cell (j := ms.length) (by omega)
                have hlt := HF3.out.lt
                have hal : ∀ o, Below w.heap.size.succ W (W.alloc o) := fun o => (Below.refl _ _).alloc hlt o
                have hv1 : (W.alloc (.cells #[.int .i64 y] 2)).cell? ⟨w.heap.size, ms.length, none⟩ = some v := by
                  rw [(hal _).cell (p := ⟨w.heap.size, ms.length, none⟩) (Nat.lt_succ_self _)]; exact hv
                have hv2 : (W.alloc (.cells #[.int .i64 y] 2)).frozen? ⟨w.heap.size, ms.length, none⟩ = false := by
                  rw [World.frozen?, (hal _).block _ (Nat.lt_succ_self _)]
                  exact HF3.out.frozen ms.length
                clear hv hal
                go_region
                go_wp2_with fail
                go_roundw
                case rel =>
                  obtain ⟨bb', ob', e1, hA'⟩ := rest_step HBB.out M.out hmd hqm
                  rw [e1]
                  exact ⟨p, q + 1, ms ++ [y], ba, oa, bb', ob', rfl, by rw [Nat.sub_sub, Nat.sub_sub], by simp, HA.out, hA', hp, by omega, by rw [Y.out]; exact (HM.out.symm.left HY.out HX.out (by rw [M.out]; exact hqm) (by rw [N.out]; exact hpn) (by rw [← X.out, ← Y.out]; exact t2)).symm, HF3.out.push y _ (by omega), ((HB3.out.setCell (p := ⟨w.heap.size, ms.length, none⟩) (Nat.le_refl _) _).alloc (by simp [World.setCell]; omega) _).drew⟩
                case measure => simp [lenOf]; omega
              · have t2' := dec_no t2
                obtain rfl : x = y := by omega
                go_quiet (fail)
                go_wp2_with fail
                rename Nat => nq2
                have hx2 : (W0.drewN nq2).cell? ⟨ba, oa, none⟩ = some (.int .i64 x) := hx1
                have HF3 := hid_of (HF2'.out.drewN nq2)
                have HB3 := hid_of (below_drewN HB2'.out nq2)
                clear hx1 hy1 HF2' HB2'
                generalize W0.drewN nq2 = W at hx2 HF3 HB3 ⊢
                have hml : ms.length + 1 ≤ n + m := by have := HM.out.len; omega
                obtain ⟨v, hv⟩ := HF3.out.cell (j := ms.length) (by omega)
                have hlt := HF3.out.lt
                have hal : ∀ o, Below w.heap.size.succ W (W.alloc o) := fun o => (Below.refl _ _).alloc hlt o
                have hv1 : (W.alloc (.cells #[.int .i64 x] 2)).cell? ⟨w.heap.size, ms.length, none⟩ = some v := by
                  rw [(hal _).cell (p := ⟨w.heap.size, ms.length, none⟩) (Nat.lt_succ_self _)]; exact hv
                have hv2 : (W.alloc (.cells #[.int .i64 x] 2)).frozen? ⟨w.heap.size, ms.length, none⟩ = false := by
                  rw [World.frozen?, (hal _).block _ (Nat.lt_succ_self _)]
                  exact HF3.out.frozen ms.length
                clear hv hal
                go_region
                go_wp2_with fail
                go_roundw
                case rel =>
                  obtain ⟨ba', oa', e1, hA'⟩ := rest_step HA.out N.out hnc hpn
                  obtain ⟨bb', ob', e2, hB'⟩ := rest_step HBB.out M.out hmd hqm
                  rw [e1, e2]
                  exact ⟨p + 1, q + 1, ms ++ [x], ba', oa', bb', ob', by rw [Nat.sub_sub, Nat.sub_sub], by rw [Nat.sub_sub, Nat.sub_sub], by simp, hA', hB', by omega, by omega, by rw [X.out]; exact HM.out.both HX.out HY.out (by rw [N.out]; exact hpn) (by rw [M.out]; exact hqm) (by rw [← X.out, ← Y.out]), HF3.out.push x _ (by omega), ((HB3.out.setCell (p := ⟨w.heap.size, ms.length, none⟩) (Nat.le_refl _) _).alloc (by simp [World.setCell]; omega) _).drew⟩
                case measure => simp [lenOf]; omega
          · have hqm' : m ≤ q := by omega
            obtain ⟨k1, ek1⟩ : ∃ k, k = n - p := ⟨_, rfl⟩
            obtain ⟨k2, ek2⟩ : ∃ k, k = m - q := ⟨_, rfl⟩
            rw [← ek1, ← ek2]
            have zz : ((c - p : Nat) : Int) = ((c - p : Nat) : Int) := rfl
            have z0 : (0 : Int) < (k1 : Int) := by omega
            obtain rfl : k2 = 0 := by omega
            have KN := hid_of ek1
            have kb1 : n - p ≤ 4096 := by omega
            have kb2 : m - q ≤ 4096 := by omega
            rw [← ek1] at kb1
            rw [← ek2] at kb2
            have KM := hid_of ek2
            have HO := hid_of (HF2.out.own (Nat.le_refl _) (by have := HM.out.len; omega) (by unfold maxLen; omega))
            have LA : Hid ((xs.drop p).length = k1) := by have h1 := N.out; have h2 := KN.out; rw [Hid, List.length_drop, h1]; omega
            have LB : Hid ((ys.drop q).length = 0) := by have h1 := M.out; have h2 := KM.out; rw [Hid, List.length_drop, h1]; omega
            have LM : Hid (ms.length ≤ p + q) := HM.out.len
            clear ek1 ek2 zz
            go_wp2_with (at_builtin; refine wpList_append_own_at _ rfl _ _ 23 rfl w.heap.size 2 i0 (.int .i64 0) 1 8 Try.underlying23 i1 iz0 iz1 iz2 rfl (by decide) _ _ _ rfl HO.out ⟨ba, oa, none⟩ k1 (c - p) ((xs.drop p).map (Value.int .i64)) rfl (by have := LA.out; simp only [List.length_map]; omega) (cells_any (HA.out.below HB2.out hB)) (ints_oneCell .i64 _) (by have := LM.out; unfold maxLen; omega) (by have := LM.out; omega) (by have := HB2.out.size; omega) ?_)
            intro v1 w2 hown hgrow hnil hloc
            have O2 : Hid (w2.ownsRow w.heap.size 2 1 v1 (ms ++ xs.drop p).length ((ms ++ xs.drop p).map (Value.int .i64))) := by
              have h := LA.out; rw [List.length_drop] at h; rw [Hid]; simpa [List.map_drop, h, Nat.add_assoc] using hown
            have B2 := hid_of (HB2.out.grown hgrow HB2.out.size (fun k hk => (HO.out.lt k hk).1))
            clear hown hgrow hnil hloc
            go_wp2_with (at_builtin; refine wpList_append_own_at _ rfl _ _ 23 rfl w.heap.size 2 i0 (.int .i64 0) 1 8 Try.underlying23 i1 iz0 iz1 iz2 rfl (by decide) _ _ _ rfl O2.out ⟨bb, ob, none⟩ 0 (d - q) ((ys.drop q).map (Value.int .i64)) rfl (by have := LB.out; simp only [List.length_map]; omega) (cells_any (HBB.out.below B2.out hB)) (ints_oneCell .i64 _) (by have := LM.out; have := LA.out; rw [List.length_append]; unfold maxLen; omega) (by have := LM.out; have := LA.out; rw [List.length_append]; omega) (by have := B2.out.size; omega) ?_)
            intro v2 w3 hown hgrow hnil hloc
            have O3 : Hid (w3.ownsRow w.heap.size 2 1 v2 (ms ++ xs.drop p ++ ys.drop q).length ((ms ++ xs.drop p ++ ys.drop q).map (Value.int .i64))) := by
              have h := LB.out; rw [List.length_drop] at h; rw [Hid]; simpa [List.map_drop, h, Nat.add_assoc] using hown
            have B3 := hid_of (B2.out.grown hgrow B2.out.size (fun k hk => (O2.out.lt k hk).1))
            clear hown hgrow hnil hloc
            go_wp2_with fail
            go_ret
            obtain ⟨a3, c3, rfl, hc3, hI3⟩ := own_cap O3.out
            exact ⟨a3, _, c3, _, rfl, rfl, hc3, hI3, B3.out, HM.out.done HX.out HY.out (.inr (by rw [M.out]; exact hqm'))⟩
        · have hpn' : n ≤ p := by omega
          obtain ⟨k1, ek1⟩ : ∃ k, k = n - p := ⟨_, rfl⟩
          obtain ⟨k2, ek2⟩ : ∃ k, k = m - q := ⟨_, rfl⟩
          rw [← ek1, ← ek2]
          have zz : ((c - p : Nat) : Int) = ((c - p : Nat) : Int) := rfl
          obtain rfl : k1 = 0 := by omega
          have KN := hid_of ek1
          have kb1 : n - p ≤ 4096 := by omega
          have kb2 : m - q ≤ 4096 := by omega
          rw [← ek1] at kb1
          rw [← ek2] at kb2
          have KM := hid_of ek2
          have HO := hid_of (HF2.out.own (Nat.le_refl _) (by have := HM.out.len; omega) (by unfold maxLen; omega))
          have LA : Hid ((xs.drop p).length = 0) := by have h1 := N.out; have h2 := KN.out; rw [Hid, List.length_drop, h1]; omega
          have LB : Hid ((ys.drop q).length = k2) := by have h1 := M.out; have h2 := KM.out; rw [Hid, List.length_drop, h1]; omega
          have LM : Hid (ms.length ≤ p + q) := HM.out.len
          clear ek1 ek2 zz
          go_wp2_with (at_builtin; refine wpList_append_own_at _ rfl _ _ 23 rfl w.heap.size 2 i0 (.int .i64 0) 1 8 Try.underlying23 i1 iz0 iz1 iz2 rfl (by decide) _ _ _ rfl HO.out ⟨ba, oa, none⟩ 0 (c - p) ((xs.drop p).map (Value.int .i64)) rfl (by have := LA.out; simp only [List.length_map]; omega) (cells_any (HA.out.below HB2.out hB)) (ints_oneCell .i64 _) (by have := LM.out; unfold maxLen; omega) (by have := LM.out; omega) (by have := HB2.out.size; omega) ?_)
          intro v1 w2 hown hgrow hnil hloc
          have O2 : Hid (w2.ownsRow w.heap.size 2 1 v1 (ms ++ xs.drop p).length ((ms ++ xs.drop p).map (Value.int .i64))) := by
            have h := LA.out; rw [List.length_drop] at h; rw [Hid]; simpa [List.map_drop, h, Nat.add_assoc] using hown
          have B2 := hid_of (HB2.out.grown hgrow HB2.out.size (fun k hk => (HO.out.lt k hk).1))
          clear hown hgrow hnil hloc
          go_wp2_with (at_builtin; refine wpList_append_own_at _ rfl _ _ 23 rfl w.heap.size 2 i0 (.int .i64 0) 1 8 Try.underlying23 i1 iz0 iz1 iz2 rfl (by decide) _ _ _ rfl O2.out ⟨bb, ob, none⟩ k2 (d - q) ((ys.drop q).map (Value.int .i64)) rfl (by have := LB.out; simp only [List.length_map]; omega) (cells_any (HBB.out.below B2.out hB)) (ints_oneCell .i64 _) (by have := LM.out; have := LA.out; rw [List.length_append]; unfold maxLen; omega) (by have := LM.out; have := LA.out; rw [List.length_append]; omega) (by have := B2.out.size; omega) ?_)
          intro v2 w3 hown hgrow hnil hloc
          have O3 : Hid (w3.ownsRow w.heap.size 2 1 v2 (ms ++ xs.drop p ++ ys.drop q).length ((ms ++ xs.drop p ++ ys.drop q).map (Value.int .i64))) := by
            have h := LB.out; rw [List.length_drop] at h; rw [Hid]; simpa [List.map_drop, h, Nat.add_assoc] using hown
          have B3 := hid_of (B2.out.grown hgrow B2.out.size (fun k hk => (O2.out.lt k hk).1))
          clear hown hgrow hnil hloc
          go_wp2_with fail
          go_ret
          obtain ⟨a3, c3, rfl, hc3, hI3⟩ := own_cap O3.out
          exact ⟨a3, _, c3, _, rfl, rfl, hc3, hI3, B3.out, HM.out.done HX.out HY.out (.inl (by rw [N.out]; exact hpn'))⟩

end Go.Proofs.Qxb6608735a
