import Derived.Test.Qxb6608735aS5B
namespace Go.Proofs.Qxb6608735a
open Go.RowKit Go.Maps Go.WideMaps
set_option linter.unusedVariables false

/-- the chain of mapping j lies in the links and ascends -/
def ChainOk (lk lo hi : List Int) (j : Nat) : Prop :=
  0 ≤ lo.getD j 0 ∧ lo.getD j 0 ≤ hi.getD j 0 ∧ hi.getD j 0 ≤ lk.length ∧ ∀ t : Nat, lo.getD j 0 < t → (t : Int) < hi.getD j 0 → lk.getD (t - 1) 0 < lk.getD t 0
/-- what the premise says of a state -/
structure Fine (ls : List ByteArray) (ow lk lo hi : List Int) (os : List ByteArray) : Prop where
  dis : Distinct ls ls.length
  len : ow.length ≤ ls.length
  eq : lo.length = hi.length
  ch : ∀ j, j < lo.length → ChainOk lk lo hi j
  own : ∀ i, i < ow.length → ow.getD i 0 < lo.length
  oth : ∀ i, i < os.length → Maps.has (Dm ls ls.length) (keyS (os.getD i ByteArray.empty)) = false

def I32 (zs : List Int) : Prop := ∀ i, i < zs.length → -2147483648 ≤ zs.getD i 0 ∧ zs.getD i 0 ≤ 2147483647

theorem ownsMap_drewN {P : Program} {k : TypeId} {R : Value → Option (DataW Unit × List MemPlace)} {w : World} {b n : Nat} {D : DataW Unit} (h : w.ownsMap P k R b n D) (q : Nat) : (w.drewN q).ownsMap P k R b n D := h

/-- what zzStatePremise answers -/
def PremB (w w' : World) (ls : List ByteArray) (ow lk lo hi : List Int) (os : List ByteArray) (e : Ending) : Prop :=
  (e = .returned (.tuple #[.map none, .bool false]) ∧ Below w.heap.size w w') ∨
  (e = .returned (.tuple #[.map (some w.heap.size), .bool true]) ∧ Below w.heap.size w w' ∧ w'.ownsMap Try.prog 9 (plainElem Try.prog 3) w.heap.size ls.length (Dm ls ls.length) ∧ Fine ls ow lk lo hi os)

def P1 (lk lo hi : List Int) (n3 : Nat) (w1 : World) (i : Value) (wr : World) : Prop := ∃ j : Nat, i = .int .i64 j ∧ j ≤ n3 ∧ (∀ u, u < j → ChainOk lk lo hi u) ∧ ∃ q, wr = w1.drewN q
def P2 (lk : List Int) (ln hn : Nat) (w1 : World) (i : Value) (wr : World) : Prop := ∃ tn : Nat, i = .int .i32 tn ∧ ln < tn ∧ (tn ≤ hn ∨ tn = ln + 1) ∧ (∀ u : Nat, ln < u → u < tn → lk.getD (u - 1) 0 < lk.getD u 0) ∧ ∃ q, wr = w1.drewN q
def P3 (ow : List Int) (n1 n3 : Nat) (w1 : World) (i : Value) (wr : World) : Prop := ∃ k : Nat, i = .int .i64 k ∧ k ≤ n1 ∧ (∀ u, u < k → ow.getD u 0 < n3) ∧ wr = w1
def P4 (ls os : List ByteArray) (n5 : Nat) (w1 : World) (i : Value) (wr : World) : Prop := ∃ k : Nat, i = .int .i64 k ∧ k ≤ n5 ∧ (∀ u, u < k → Maps.has (Dm ls ls.length) (keyS (os.getD u ByteArray.empty)) = false) ∧ wr = w1

set_option maxRecDepth 20000 in
set_option maxHeartbeats 2000000 in
theorem premise_any (a0 a1 a2 a3 a4 a5 a6 : Option Addr) (n0 c0 n1 c1 n2 c2 n3 c3 n4 c4 n5 c5 n6 c6 B : Nat) (ls os : List ByteArray) (ow lk lo hi : List Int) (w : World)
    (h0 : HasS w B a0 ls) (h1 : HasI .i32 w B a1 ow) (h2 : HasI .i64 w B a2 lk) (h3 : HasI .i32 w B a3 lo) (h4 : HasI .i32 w B a4 hi) (h5 : HasS w B a5 os) (hB : B ≤ w.heap.size)
    (l0 : ls.length = n0) (l1 : ow.length = n1) (l2 : lk.length = n2) (l3 : lo.length = n3) (l4 : hi.length = n4) (l5 : os.length = n5)
    (m0 : n0 ≤ 4096) (m1 : n1 ≤ 4096) (m2 : n2 ≤ 4096) (m3 : n3 ≤ 4096) (m4 : n4 ≤ 4096) (m5 : n5 ≤ 4096) (m6 : n6 ≤ 4096) (z0 : ∀ s ∈ ls, s.size ≤ maxLen) (z5 : ∀ s ∈ os, s.size ≤ maxLen) (i1 : I32 ow) (i3 : I32 lo) (i4 : I32 hi) :
    Calls Try.prog 21 #[.slice a0 n0 c0, .slice a1 n1 c1, .slice a2 n2 c2, .slice a3 n3 c3, .slice a4 n4 c4, .slice a5 n5 c5, .slice a6 n6 c6] w fun e w' => PremB w w' ls ow lk lo hi os e := by
  have HIx := hid_of (index_any a0 n0 c0 B ls w h0 hB l0 m0 z0)
  have H1 := hid_of h1
  have H2 := hid_of h2
  have H3 := hid_of h3
  have H4 := hid_of h4
  have H5 := hid_of h5
  have L0 := hid_of l0
  have L1 := hid_of l1
  have L2 := hid_of l2
  have L3 := hid_of l3
  have L4 := hid_of l4
  have L5 := hid_of l5
  have Z5 := hid_of z5
  have I1 := hid_of i1
  have I3 := hid_of i3
  have I4 := hid_of i4
  clear h0 h1 h2 h3 h4 h5 l0 l1 l2 l3 l4 l5 z0 z5 i1 i3 i4
  go_enter Try.func21, Try.ntmps21
  go_wp2_with fail
  refine HIx.out.mono ?_
  rintro e w1 (⟨rfl, hb⟩ | ⟨rfl, hb, hown, hdis⟩)
  · have HB1 := hid_of hb
    clear hb HIx
    go_wp2_with fail
    go_ret2
    exact .inl ⟨rfl, HB1.out⟩
  · have HB1 := hid_of hb
    have HO := hid_of hown
    have HD := hid_of hdis
    have K1 := hid_of (H1.out.below hb hB)
    have K2 := hid_of (H2.out.below hb hB)
    have K3 := hid_of (H3.out.below hb hB)
    have K4 := hid_of (H4.out.below hb hB)
    have K5 := hid_of (H5.out.below hb hB)
    clear hb hown hdis HIx H1 H2 H3 H4 H5
    by_cases q1 : (n0 : Int) < (n1 : Int)
    · go_wp2_with fail
      go_ret2
      exact .inl ⟨rfl, HB1.out⟩
    · have d01 : decide (n0 < n1) = false := by simp; omega
      have d02 := dec_no q1
      by_cases q2 : n3 = n4
      · subst q2
        go_wp2_with fail
        go_loopw [18] (fun i wr => P1 lk lo hi n3 w1 i wr) (fun i _ => n3 - (intOf i).toNat)
        case atStart => exact ⟨0, rfl, by omega, fun u hu => by omega, 0, rfl⟩
        case round =>
          obtain ⟨j, rfl, hj, hch, q, rfl⟩ := hrel
          have HCh := hid_of hch
          clear hch
          by_cases hlt : j < n3
          · obtain ⟨b3, o3, hab, hbB3, hc3⟩ := K3.out (by rw [L3.out]; omega)
            subst hab
            obtain ⟨b4, o4, hab, hbB4, hc4⟩ := K4.out (by rw [L4.out]; omega)
            subst hab
            have hl := hc3 j (by rw [L3.out]; exact hlt)
            have hh := hc4 j (by rw [L4.out]; exact hlt)
            have bl := I3.out j (by rw [L3.out]; exact hlt)
            have bh := I4.out j (by rw [L4.out]; exact hlt)
            obtain ⟨l, el⟩ : ∃ l, l = lo.getD j 0 := ⟨_, rfl⟩
            obtain ⟨h, eh⟩ : ∃ h, h = hi.getD j 0 := ⟨_, rfl⟩
            rw [← el] at hl bl
            rw [← eh] at hh bh
            obtain ⟨bl1, bl2⟩ := bl
            obtain ⟨bh1, bh2⟩ := bh
            have El := hid_of el
            have Eh := hid_of eh
            clear hc3 hc4 el eh
            have j1 : (j : Int) < (n3 : Int) := by omega
            by_cases t1 : l < 0
            · go_wp2_with fail
              go_quiet (fail)
              go_wp2_with fail
              go_ret2
              exact .inl ⟨rfl, below_drewN (below_drewN HB1.out _) _⟩
            · have d1 := dec_no t1
              by_cases t2 : h < l
              · go_wp2_with fail
                go_quiet (fail)
                go_wp2_with fail
                go_ret2
                exact .inl ⟨rfl, below_drewN (below_drewN HB1.out _) _⟩
              · have d2 := dec_no t2
                by_cases t3 : (n2 : Int) < h
                · go_wp2_with fail
                  go_quiet (fail)
                  go_wp2_with fail
                  go_ret2
                  exact .inl ⟨rfl, below_drewN (below_drewN HB1.out _) _⟩
                · have d3 := dec_no t3
                  go_wp2_with fail
                  go_quiet (fail)
                  go_wp2_with fail
                  obtain ⟨ln, rfl⟩ : ∃ ln : Nat, l = ln := ⟨l.toNat, by omega⟩
                  obtain ⟨hn, rfl⟩ : ∃ hn : Nat, h = hn := ⟨h.toNat, by omega⟩
                  have hlh : ln ≤ hn := by omega
                  have hhn : hn ≤ n2 := by omega
                  clear t1 t2 t3 d1 d2 d3 bl1 bl2 bh1 bh2
                  go_loopw [19] (fun i wr => P2 lk ln hn w1 i wr) (fun i _ => hn - (intOf i).toNat)
                  case atStart => exact ⟨ln + 1, by go_num, by omega, .inr rfl, fun u h1 h2 => by omega, _, rfl⟩
                  case round =>
                    obtain ⟨tn, rfl, ht1, ht2, hasc, q2, rfl⟩ := hrel
                    have HAsc := hid_of hasc
                    have htb : tn ≤ 4097 := by omega
                    clear hasc
                    by_cases hlt2 : tn < hn
                    · obtain ⟨b2, o2, hab, hbB2, hc2⟩ := K2.out (by rw [L2.out]; omega)
                      subst hab
                      have hx := hc2 (tn - 1) (by rw [L2.out]; omega)
                      have hy := hc2 tn (by rw [L2.out]; omega)
                      obtain ⟨x, ex⟩ : ∃ x, x = lk.getD (tn - 1) 0 := ⟨_, rfl⟩
                      obtain ⟨y, ey⟩ : ∃ y, y = lk.getD tn 0 := ⟨_, rfl⟩
                      rw [← ex] at hx
                      rw [← ey] at hy
                      have X := hid_of ex
                      have Y := hid_of ey
                      clear hc2 ex ey
                      have k1 : (tn : Int) < (n2 : Int) := by omega
                      have k2 : (0 : Int) ≤ (tn : Int) - 1 := by omega
                      have k3 : (tn : Int) - 1 < (n2 : Int) := by omega
                      by_cases hxy : y ≤ x
                      · go_wp2_with fail
                        go_quiet (fail)
                        go_wp2_with fail
                        go_ret2
                        exact .inl ⟨rfl, below_drewN (below_drewN HB1.out _) _⟩
                      · have HA2 : Hid (∀ u : Nat, ln < u → u < tn + 1 → lk.getD (u - 1) 0 < lk.getD u 0) := fun u h1 h2 => by
                          by_cases e : u = tn
                          · subst e; rw [← X.out, ← Y.out]; omega
                          · exact HAsc.out u h1 (by omega)
                        go_wp2_with fail
                        go_quiet (fail)
                        go_wp2_with fail
                        go_roundw
                        case rel => exact ⟨tn + 1, by go_num, by omega, .inl (by omega), HA2.out, _, rfl⟩
                        case measure => simp [intOf]; omega
                    · have HC2 : Hid (∀ u, u < j + 1 → ChainOk lk lo hi u) := fun u hu => by
                        by_cases e : u = j
                        · subst e
                          refine ⟨by rw [← El.out]; omega, by rw [← El.out, ← Eh.out]; omega, by rw [← Eh.out, L2.out]; omega, fun t h1 h2 => ?_⟩
                          rw [← El.out] at h1
                          rw [← Eh.out] at h2
                          exact HAsc.out t (by omega) (by omega)
                        · exact HCh.out u (by omega)
                      go_wp2_with fail
                      go_roundw
                      case rel =>
                        exact ⟨j + 1, by go_num, by omega, HC2.out, q2, rfl⟩
                      case measure => simp [intOf]; omega
          · have HCf : Hid (∀ u, u < n3 → ChainOk lk lo hi u) := fun u hu => HCh.out u (by omega)
            clear HCh
            go_wp2_with fail
            go_loopw [20] (fun i wr => P3 ow n1 n3 (w1.drewN q) i wr) (fun i _ => n1 - (intOf i).toNat)
            case atStart => exact ⟨0, rfl, by omega, fun u hu => by omega, rfl⟩
            case round =>
              clear hlt hj
              obtain ⟨k, rfl, hk, hown, rfl⟩ := hrel
              have HOw := hid_of hown
              clear hown
              by_cases hlt : k < n1
              · obtain ⟨b1, o1, hab, hbB1, hc1⟩ := K1.out (by rw [L1.out]; omega)
                subst hab
                have hx := hc1 k (by rw [L1.out]; exact hlt)
                have bx := I1.out k (by rw [L1.out]; exact hlt)
                obtain ⟨x, ex⟩ : ∃ x, x = ow.getD k 0 := ⟨_, rfl⟩
                rw [← ex] at hx bx
                have X := hid_of ex
                obtain ⟨bx1, bx2⟩ := bx
                clear hc1 ex
                by_cases t1 : (n3 : Int) ≤ x
                · go_wp2_with fail
                  go_ret2
                  exact .inl ⟨rfl, below_drewN HB1.out _⟩
                · have HO2 : Hid (∀ u, u < k + 1 → ow.getD u 0 < n3) := fun u hu => by
                    by_cases e : u = k
                    · subst e; rw [← X.out]; omega
                    · exact HOw.out u (by omega)
                  go_wp2_with fail
                  go_roundw
                  case rel => exact ⟨k + 1, by go_num, by omega, HO2.out, rfl⟩
                  case measure => simp [intOf]; omega
              · have HOf : Hid (∀ u, u < n1 → ow.getD u 0 < n3) := fun u hu => HOw.out u (by omega)
                clear HOw
                go_wp2_with fail
                go_loopw [21] (fun i wr => P4 ls os n5 (w1.drewN q) i wr) (fun i _ => n5 - (intOf i).toNat)
                case atStart => exact ⟨0, rfl, by omega, fun u hu => by omega, rfl⟩
                case round =>
                  clear hlt hk
                  obtain ⟨k5, rfl, hk5, hoth, rfl⟩ := hrel
                  have HOt := hid_of hoth
                  clear hoth
                  by_cases hlt : k5 < n5
                  · obtain ⟨b5, o5, hab, hbB5, hc5⟩ := K5.out (by rw [L5.out]; omega)
                    subst hab
                    have hx := hc5 k5 (by rw [L5.out]; exact hlt)
                    obtain ⟨s, es⟩ : ∃ s, s = os.getD k5 ByteArray.empty := ⟨_, rfl⟩
                    have hsm : s.size ≤ maxLen := by
                      rw [es]
                      apply Z5.out
                      have : k5 < os.length := by rw [L5.out]; exact hlt
                      simp [List.getD, List.getElem?_eq_getElem this]
                    rw [← es] at hx
                    have ES := hid_of es
                    have HK : Hid (keyOf Try.prog 9 (.string s) = some (keyS s)) := keyOf_string_mk (P := Try.prog) Try.underlying9 hsm
                    clear hc5 es hsm
                    cases hh : Maps.has (Dm ls ls.length) (keyS s)
                    · have HO2 : Hid (∀ u, u < k5 + 1 → Maps.has (Dm ls ls.length) (keyS (os.getD u ByteArray.empty)) = false) := fun u hu => by
                        by_cases e : u = k5
                        · subst e; rw [← ES.out]; exact hh
                        · exact HOt.out u (by omega)
                      go_wp2_with (at_lookup; refine wpList_lookup_own_ok_int _ rfl _ _ 26 rfl 9 3 .i64 law9 Try.underlying26 Try.underlying3 (zero3 _) w.heap.size ls.length _ rfl (ownsMap_drewN HO.out q) _ _ rfl HK.out ?_; intro cc hat hwc)
                      go_roundw
                      case rel =>
                        exact ⟨k5 + 1, by go_num, by omega, HO2.out, rfl⟩
                      case measure => simp [intOf]; omega
                    · go_wp2_with (at_lookup; refine wpList_lookup_own_ok_int _ rfl _ _ 26 rfl 9 3 .i64 law9 Try.underlying26 Try.underlying3 (zero3 _) w.heap.size ls.length _ rfl (ownsMap_drewN HO.out q) _ _ rfl HK.out ?_; intro cc hat hwc)
                      go_ret2
                      exact .inl ⟨rfl, below_drewN HB1.out _⟩
                  · go_wp2_with fail
                    refine (keysNamed a2 n2 c2 B lk _ (w1.drewN q) (K2.out.drewN q) L2.out (by unfold maxLen; omega)).mono ?_
                    rintro e w' ⟨⟨r, rfl, hr⟩, hw⟩
                    subst w'
                    cases r
                    · go_wp2_with fail
                      go_ret2
                      exact .inl ⟨rfl, below_drewN HB1.out _⟩
                    · go_wp2_with fail
                      go_ret2
                      refine .inr ⟨rfl, below_drewN HB1.out _, ownsMap_drewN HO.out q, ⟨HD.out, ?_, ?_, ?_, ?_, ?_⟩⟩
                      · rw [L0.out, L1.out]; omega
                      · rw [L3.out, L4.out]
                      · rw [L3.out]; exact HCf.out
                      · rw [L1.out, L3.out]; exact HOf.out
                      · rw [L5.out]; exact fun i hi => HOt.out i (by omega)
      · have q2' : ((n3 : Int) == (n4 : Int)) = false := by simp; omega
        have q3 : ((n3 : Int) != (n4 : Int)) = true := by simp; omega
        have q4 : decide (n3 = n4) = false := by simp; omega
        have q5 : decide ((n3 : Int) = (n4 : Int)) = false := by simp; omega
        go_wp2_with fail
        go_ret2
        exact .inl ⟨rfl, HB1.out⟩

end Go.Proofs.Qxb6608735a
