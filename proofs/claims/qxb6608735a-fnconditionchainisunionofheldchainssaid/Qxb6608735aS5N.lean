import Derived.Test.Qxb6608735aS5M
namespace Go.Proofs.Qxb6608735a
open Go.RowKit Go.Maps Go.WideMaps Go.Joins
set_option linter.unusedVariables false

def M1 (os : List ByteArray) (n5 : Nat) (w : World) (i : Value) (wr : World) : Prop :=
  ∃ k : Nat, i = .int .i64 k ∧ k ≤ n5 ∧ wr.ownsMap Try.prog 9 (plainElem Try.prog 4) w.heap.size k (Dt os k) ∧ Below w.heap.size w wr
def M2 (ls cs os : List ByteArray) (ow : List Int) (n3 n6 g : Nat) (w1 : World) (i : Value) (wr : World) : Prop :=
  ∃ k : Nat, i = .int .i64 k ∧ k ≤ n6 ∧ BRow wr g n3 (UsedC ls ow cs k) ∧ (∀ u, u < k → MetC ls ow os (cs.getD u ByteArray.empty)) ∧ Below w1.heap.size w1 wr
def M3 (lo hi : List Int) (U : Nat → Prop) (n2 n3 g : Nat) (w2 : World) (i : Value) (wr : World) : Prop :=
  ∃ k : Nat, i = .int .i64 k ∧ k ≤ n3 ∧ BRow wr g n2 (MarkC lo hi U k) ∧ Below w2.heap.size w2 wr
def M4 (F : Nat → Prop) (l h n2 g : Nat) (w2 : World) (i : Value) (wr : World) : Prop :=
  ∃ t : Nat, i = .int .i32 t ∧ l ≤ t ∧ t ≤ h ∧ BRow wr g n2 (fun x => F x ∨ (l ≤ x ∧ x < t)) ∧ Below w2.heap.size w2 wr
def M5 (lk : List Int) (F : Nat → Prop) (n2 : Nat) (w3 : World) (i v : Value) (wr : World) : Prop :=
  ∃ (k : Nat) (zs : List Int), i = .int .i64 k ∧ k ≤ n2 ∧ wr.ownsRow w3.heap.size 2 1 v zs.length (zs.map (Value.int .i64)) ∧ zs.length ≤ k ∧ Up zs ∧ (∀ x, x ∈ zs ↔ ∃ t, t < k ∧ F t ∧ lk.getD t 0 = x) ∧ Below w3.heap.size w3 wr
def M6 (zs : List Int) (v : Int) (w4 : World) (i : Value) (wr : World) : Prop :=
  ∃ n : Nat, i = .int .i64 n ∧ n ≤ zs.length ∧ (∀ u, u < n → zs.getD u 0 < v) ∧ wr = w4
def M7 (zs : List Int) (n cap g : Nat) (w3 : World) (i : Value) (wr : World) : Prop :=
  ∃ s : Nat, i = .int .i64 s ∧ n ≤ s ∧ s ≤ zs.length ∧ Filled wr g cap (zs.length + 1) (shF zs s) 2 ∧ Below w3.heap.size w3 wr

def ModB (ls cs os : List ByteArray) (ow lk lo hi : List Int) (w : World) (e : Ending) (w' : World) : Prop :=
  (e = .returned (.tuple #[.slice none 0 0, .bool false]) ∧ Below w.heap.size w w' ∧ ¬ ∀ u, u < cs.length → MetC ls ow os (cs.getD u ByteArray.empty)) ∨
  (∃ a n c zs, e = .returned (.tuple #[.slice a n c, .bool true]) ∧ Below w.heap.size w w' ∧ (∀ u, u < cs.length → MetC ls ow os (cs.getD u ByteArray.empty)) ∧ n = zs.length ∧ HasI .i64 w' w'.heap.size a zs ∧ Up zs ∧
    ∀ x, x ∈ zs ↔ ∃ t, t < lk.length ∧ MarkC lo hi (UsedC ls ow cs cs.length) lo.length t ∧ lk.getD t 0 = x)

set_option maxRecDepth 20000 in
set_option maxHeartbeats 4000000 in
theorem model_any (a1 a2 a3 a4 a5 a6 : Option Addr) (n1 c1 n2 c2 n3 c3 c4 n5 c5 n6 c6 B mb : Nat) (ls os cs : List ByteArray) (ow lk lo hi : List Int) (w : World)
    (h1 : HasI .i32 w B a1 ow) (h2 : HasI .i64 w B a2 lk) (h3 : HasI .i32 w B a3 lo) (h4 : HasI .i32 w B a4 hi) (h5 : HasS w B a5 os) (h6 : HasS w B a6 cs) (hB : B ≤ w.heap.size)
    (hmb : mb < w.heap.size) (hmap : w.ownsMap Try.prog 9 (plainElem Try.prog 3) mb ls.length (Dm ls ls.length))
    (l1 : ow.length = n1) (l2 : lk.length = n2) (l3 : lo.length = n3) (l4 : hi.length = n3) (l5 : os.length = n5) (l6 : cs.length = n6) (m0 : ls.length ≤ 4096)
    (m1 : n1 ≤ 4096) (m2 : n2 ≤ 4096) (m3 : n3 ≤ 4096) (m5 : n5 ≤ 4096) (m6 : n6 ≤ 4096) (z5 : ∀ s ∈ os, s.size ≤ maxLen) (z6 : ∀ s ∈ cs, s.size ≤ maxLen) (hf : Fine ls ow lk lo hi os) :
    Calls Try.prog 31 #[.map (some mb), .slice a1 n1 c1, .slice a2 n2 c2, .slice a3 n3 c3, .slice a4 n3 c4, .slice a5 n5 c5, .slice a6 n6 c6] w fun e w' => ModB ls cs os ow lk lo hi w e w' := by
  obtain ⟨i0, j1, jz0, jz1, jz2⟩ := info_parts info4
  obtain ⟨k0, x1, kz0, kz1, kz2⟩ := info_parts info2
  have H1 := hid_of h1
  have H2 := hid_of h2
  have H3 := hid_of h3
  have H4 := hid_of h4
  have H5 := hid_of h5
  have H6 := hid_of h6
  have HMap := hid_of hmap
  have L1 := hid_of l1
  have L2 := hid_of l2
  have L3 := hid_of l3
  have L4 := hid_of l4
  have L5 := hid_of l5
  have L6 := hid_of l6
  have Z5 := hid_of z5
  have Z6 := hid_of z6
  have HFi := hid_of hf
  have hmm := fun w => run_makeMap_hint Try.underlying100 .i64 (n5 : Int) w
  clear h1 h2 h3 h4 h5 h6 hmap l1 l2 l3 l4 l5 l6 z5 z6 hf
  go_enter Try.func31, Try.ntmps31
  go_wp2_with fail
  go_loopw [17] (fun i wr => M1 os n5 w i wr) (fun i _ => n5 - (intOf i).toNat)
  case atStart => exact ⟨0, rfl, by omega, World.ownsMap_made _ _ _ _, (Below.refl _ _).alloc (Nat.le_refl _) _⟩
  case round =>
    obtain ⟨k, rfl, hk, hown, hbel⟩ := hrel
    have HO := hid_of hown
    have HBel := hid_of hbel
    clear hown hbel hmm
    by_cases hlt : k < n5
    · obtain ⟨b, off, rfl, hbB, hc⟩ := H5.out (by rw [L5.out]; omega)
      have hcell : wr.cell? ⟨b, off + k, none⟩ = some (.string (os.getD k ByteArray.empty)) := by
        rw [HBel.out.cell (p := ⟨b, off + k, none⟩) (Nat.lt_of_lt_of_le hbB hB)]
        exact hc k (by rw [L5.out]; omega)
      obtain ⟨s, hs⟩ : ∃ s, s = os.getD k ByteArray.empty := ⟨_, rfl⟩
      rw [← hs] at hcell
      have HK : Hid (keyOf Try.prog 9 (.string s) = some (keyS s)) := keyOf_string_mk Try.underlying9 (by
        rw [hs]
        apply Z5.out
        have : k < os.length := by rw [L5.out]; exact hlt
        simp [List.getD, List.getElem?_eq_getElem this])
      have S := hid_of hs
      clear hc hs
      go_wp2_with (at_mapUpdate; refine wpList_mapUpdate_own _ rfl _ _ _ 100 rfl 9 4 law9 Try.underlying100 _ w.heap.size k _ rfl HO.out (by unfold maxLen; omega) _ _ _ rfl rfl HK.out _ [] (plainElem_bool Try.underlying4 true) ?_)
      intro w1 hown1 hgrow1
      have R1 : Hid (w1.ownsMap Try.prog 9 (plainElem Try.prog 4) w.heap.size (k + 1) (Dt os (k + 1))) := by
        have e : Dt os (k + 1) = (Dt os k).put (keyS s) (.lit (.bool true)) := by rw [Dt, ← S.out]
        rw [e]; exact hown1
      have R2 := hid_of (HBel.out.grown hgrow1 HBel.out.size (fun j hj => by cases hj; exact Nat.le_refl _))
      clear hown1 hgrow1 HO HBel
      go_wp2_with fail
      go_roundw
      case rel => exact ⟨k + 1, by go_num, by omega, R1.out, R2.out⟩
      case measure => simp [intOf]; omega
    · obtain rfl : k = n5 := by omega
      go_wp2_with (at_make; refine wpList_make_full _ rfl _ _ 101 rfl wr.heap.size 4 i0 (.bool false) 1 Try.underlying101 j1 jz0 jz1 _ _ _ _ n3 rfl rfl rfl rfl (by rw [jz2]; omega) (by unfold maxLen; omega) (Nat.le_refl _) ?_)
      rename World => wA
      intro wM hown hgrow
      have R0 := hid_of (BRow.made hown)
      have BM := hid_of ((Below.refl _ _).grown hgrow (Nat.le_refl _) (fun k h => by cases h) : Below wA.heap.size wA wM)
      clear hown hgrow hlt hk
      go_wp2_with fail
      go_loopw [19] (fun i wr => M2 ls cs os ow n3 n6 wA.heap.size wA i wr) (fun i _ => n6 - (intOf i).toNat)
      case atStart => exact ⟨0, rfl, by omega, R0.out.congr (fun i _ => ⟨fun h => absurd h id, fun ⟨u, hu, _⟩ => absurd hu (by omega)⟩), fun u hu => absurd hu (by omega), BM.out⟩
      case round =>
        obtain ⟨j, rfl, hj, hrow, hmet, hbel⟩ := hrel
        have RW := hid_of hrow
        have MT := hid_of hmet
        have B2 := hid_of hbel
        have SA := hid_of HBel.out.size
        clear hrow hmet hbel R0 BM
        by_cases hlt : j < n6
        · obtain ⟨b, off, rfl, hbB, hc⟩ := H6.out (by rw [L6.out]; omega)
          have hcell : wr.cell? ⟨b, off + j, none⟩ = some (.string (cs.getD j ByteArray.empty)) := by
            rw [B2.out.cell (p := ⟨b, off + j, none⟩) (by have := SA.out; show b < _; omega), HBel.out.cell (p := ⟨b, off + j, none⟩) (by show b < _; omega)]
            exact hc j (by rw [L6.out]; omega)
          obtain ⟨s, hs⟩ : ∃ s, s = cs.getD j ByteArray.empty := ⟨_, rfl⟩
          rw [← hs] at hcell
          have hk : keyOf Try.prog 9 (.string s) = some (keyS s) := keyOf_string_mk Try.underlying9 (by
            rw [hs]
            apply Z6.out
            have : j < cs.length := by rw [L6.out]; exact hlt
            simp [List.getD, List.getElem?_eq_getElem this])
          have HK := hid_of hk
          have HOm := hid_of (ownsMap_below (ownsMap_below HMap.out HBel.out hmb) B2.out (by have := SA.out; omega))
          have S := hid_of hs
          cases hh : Maps.has (Dm ls ls.length) (keyS s)
          · have hlook := look_true (ownsMap_below HO.out B2.out (by have := HO.out.lt; omega)) hk
            have HQ := hid_of (Dt_has os s k)
            cases hd : Maps.has (Dt os k) (keyS s)
            · rw [hd] at hlook HQ
              have HD := hid_of hd
              clear hc hs hk hd
              go_wp2_with (at_lookup; refine wpList_lookup_own_ok_int _ rfl _ _ 26 rfl 9 3 .i64 law9 Try.underlying26 Try.underlying3 (zero3 _) mb ls.length _ rfl HOm.out _ _ rfl HK.out ?_; intro cc hat hwc)
              go_ret2
              refine .inl ⟨rfl, HBel.out.trans (B2.out.mono SA.out), fun h => ?_⟩
              have h' := h j (by rw [L6.out]; exact hlt)
              rw [← S.out] at h'
              rcases h' with ⟨h1, _⟩ | ⟨_, x, hx, e⟩
              · rw [hh] at h1; cases h1
              · have := HQ.out.2 ⟨x, by rw [← L5.out]; exact hx, e⟩
                cases this
            · rw [hd] at hlook HQ
              have HD := hid_of hd
              clear hc hs hk hd
              go_wp2_with (at_lookup; refine wpList_lookup_own_ok_int _ rfl _ _ 26 rfl 9 3 .i64 law9 Try.underlying26 Try.underlying3 (zero3 _) mb ls.length _ rfl HOm.out _ _ rfl HK.out ?_; intro cc hat hwc)
              go_roundw
              case rel =>
                refine ⟨j + 1, by go_num, by omega, RW.out.congr (fun i _ => ?_), fun u hu => ?_, B2.out⟩
                · constructor
                  · rintro ⟨u, hu, h⟩; exact ⟨u, by omega, h⟩
                  · rintro ⟨u, hu, h1, h2⟩
                    by_cases e : u = j
                    · subst e; rw [← S.out, hh] at h1; cases h1
                    · exact ⟨u, by omega, h1, h2⟩
                · by_cases e : u = j
                  · subst e
                    obtain ⟨x, hx, e⟩ := HQ.out.1 rfl
                    rw [← S.out]
                    exact .inr ⟨hh, x, by rw [L5.out]; exact hx, e⟩
                  · exact MT.out u (by omega)
              case measure => simp [intOf]; omega
          · obtain ⟨p, hp, hpe, hpc⟩ := cAt_at HFi.out.dis hh
            have PC := hid_of hpc
            have hp4 : p ≤ 4096 := by omega
            clear hc hs hk hpe hpc
            by_cases hp1 : p < n1
            · obtain ⟨b1, o1, hab, hbB1, hc1⟩ := H1.out (by rw [L1.out]; omega)
              subst hab
              have hx : wr.cell? ⟨b1, o1 + p, none⟩ = some (.int .i32 (ow.getD p 0)) := by
                rw [B2.out.cell (p := ⟨b1, o1 + p, none⟩) (by have := SA.out; show b1 < _; omega), HBel.out.cell (p := ⟨b1, o1 + p, none⟩) (by show b1 < _; omega)]
                exact hc1 p (by rw [L1.out]; exact hp1)
              have hxo := HFi.out.own p (by rw [L1.out]; exact hp1)
              rw [L3.out] at hxo
              obtain ⟨x, ex⟩ : ∃ x, x = ow.getD p 0 := ⟨_, rfl⟩
              rw [← ex] at hx hxo
              have X := hid_of ex
              clear hc1 ex
              have d1 : (p : Int) < (n1 : Int) := by omega
              have d2 : decide ((n1 : Int) ≤ (p : Int)) = false := decide_eq_false (by omega)
              by_cases hx1 : x < -1
              · have XO := hid_of hxo
                clear hxo
                go_wp2_with (at_lookup; refine wpList_lookup_own_ok_int _ rfl _ _ 26 rfl 9 3 .i64 law9 Try.underlying26 Try.underlying3 (zero3 _) mb ls.length _ rfl HOm.out _ _ rfl HK.out ?_)
                intro cc hat hwc
                obtain rfl : cc = (p : Int) := (cAt_of hat).symm.trans PC.out
                clear hat hwc
                go_wp2_with fail

                go_ret2
                refine .inl ⟨rfl, HBel.out.trans (B2.out.mono SA.out), fun h => ?_⟩
                have h' := h j (by rw [L6.out]; exact hlt)
                rw [← S.out] at h'
                rcases h' with ⟨_, _, h1⟩ | ⟨h1, _⟩
                · rw [PC.out, Int.toNat_natCast, ← X.out] at h1; omega
                · rw [hh] at h1; cases h1
              · have d3 := dec_no hx1
                have MX : Hid (MetC ls ow os s) := .inl ⟨hh, by rw [PC.out, L1.out]; omega, by rw [PC.out, Int.toNat_natCast, ← X.out]; omega⟩
                by_cases hx2 : 0 ≤ x
                · obtain ⟨q, rfl⟩ : ∃ q : Nat, x = q := ⟨x.toNat, by omega⟩
                  have hq : q < n3 := by omega
                  obtain ⟨bv, hbv, _⟩ := RW.out.get hq
                  have hfz := RW.out.frozen q
                  have d4 : (q : Int) < (n3 : Int) := by omega
                  clear hx1 hxo
                  go_wp2_with (at_lookup; refine wpList_lookup_own_ok_int _ rfl _ _ 26 rfl 9 3 .i64 law9 Try.underlying26 Try.underlying3 (zero3 _) mb ls.length _ rfl HOm.out _ _ rfl HK.out ?_)
                  intro cc hat hwc
                  obtain rfl : cc = (p : Int) := (cAt_of hat).symm.trans PC.out
                  clear hat hwc
                  go_wp2_with fail

                  go_roundw
                  case rel =>
                    refine ⟨j + 1, by go_num, by omega, (RW.out.set hq).congr (fun i _ => ?_), fun u hu => ?_, B2.out.setCell (p := ⟨_, q, none⟩) (Nat.le_refl _) _⟩
                    · constructor
                      · rintro (⟨u, hu, h⟩ | h)
                        · exact ⟨u, by omega, h⟩
                        · exact ⟨j, by omega, by rw [← S.out]; exact hh, by rw [← S.out, PC.out, Int.toNat_natCast, ← X.out, h]⟩
                      · rintro ⟨u, hu, h1, h2⟩
                        by_cases e : u = j
                        · subst e
                          rw [← S.out, PC.out, Int.toNat_natCast, ← X.out] at h2
                          exact .inr (by omega)
                        · exact .inl ⟨u, by omega, h1, h2⟩
                    · by_cases e : u = j
                      · subst e; rw [← S.out]; exact MX.out
                      · exact MT.out u (by omega)
                  case measure => simp [intOf]; omega
                · have d4 : decide (0 ≤ x) = false := decide_eq_false hx2
                  have XO := hid_of hxo
                  clear hxo
                  go_wp2_with (at_lookup; refine wpList_lookup_own_ok_int _ rfl _ _ 26 rfl 9 3 .i64 law9 Try.underlying26 Try.underlying3 (zero3 _) mb ls.length _ rfl HOm.out _ _ rfl HK.out ?_)
                  intro cc hat hwc
                  obtain rfl : cc = (p : Int) := (cAt_of hat).symm.trans PC.out
                  clear hat hwc
                  go_wp2_with fail

                  go_roundw
                  case rel =>
                    refine ⟨j + 1, by go_num, by omega, RW.out.congr (fun i _ => ?_), fun u hu => ?_, B2.out⟩
                    · constructor
                      · rintro ⟨u, hu, h⟩; exact ⟨u, by omega, h⟩
                      · rintro ⟨u, hu, h1, h2⟩
                        by_cases e : u = j
                        · subst e
                          rw [← S.out, PC.out, Int.toNat_natCast, ← X.out] at h2
                          omega
                        · exact ⟨u, by omega, h1, h2⟩
                    · by_cases e : u = j
                      · subst e; rw [← S.out]; exact MX.out
                      · exact MT.out u (by omega)
                  case measure => simp [intOf]; omega
            · have d1 : (n1 : Int) ≤ (p : Int) := by omega
              go_wp2_with (at_lookup; refine wpList_lookup_own_ok_int _ rfl _ _ 26 rfl 9 3 .i64 law9 Try.underlying26 Try.underlying3 (zero3 _) mb ls.length _ rfl HOm.out _ _ rfl HK.out ?_)
              intro cc hat hwc
              obtain rfl : cc = (p : Int) := (cAt_of hat).symm.trans PC.out
              clear hat hwc
              go_wp2_with fail

              go_ret2
              refine .inl ⟨rfl, HBel.out.trans (B2.out.mono SA.out), fun h => ?_⟩
              have h' := h j (by rw [L6.out]; exact hlt)
              rw [← S.out] at h'
              rcases h' with ⟨_, h1, _⟩ | ⟨h1, _⟩
              · rw [PC.out, L1.out] at h1; omega
              · rw [hh] at h1; cases h1
        · obtain rfl : j = n6 := by omega
          go_wp2_with (at_make; refine wpList_make_full _ rfl _ _ 101 rfl wr.heap.size 4 i0 (.bool false) 1 Try.underlying101 j1 jz0 jz1 _ _ _ _ n2 rfl rfl rfl rfl (by rw [jz2]; omega) (by unfold maxLen; omega) (Nat.le_refl _) ?_)
          rename World => wC
          intro wM2 hown hgrow
          have R1 := hid_of (BRow.made hown)
          have BM2 := hid_of ((Below.refl _ _).grown hgrow (Nat.le_refl _) (fun k h => by cases h) : Below wC.heap.size wC wM2)
          have LTA : Hid (wA.heap.size < wC.heap.size) := RW.out.lt
          have BC := hid_of (HBel.out.trans (B2.out.mono SA.out))
          have SC := hid_of BC.out.size
          have H2C := hid_of (H2.out.below BC.out hB)
          have H3C := hid_of (H3.out.below BC.out hB)
          have H4C := hid_of (H4.out.below BC.out hB)
          have CH := hid_of HFi.out.ch
          clear hown hgrow hlt hj HBel B2 SA HMap HO H1 H2 H3 H4 H5 H6 Z5 Z6
          go_wp2_with fail
          go_loopw [23] (fun i wr => M3 lo hi (UsedC ls ow cs j) n2 n3 wC.heap.size wC i wr) (fun i _ => n3 - (intOf i).toNat)
          case atStart => exact ⟨0, rfl, by omega, R1.out.congr (fun i _ => ⟨fun h => absurd h id, fun ⟨u, hu, _⟩ => absurd hu (by omega)⟩), BM2.out⟩
          case round =>
            obtain ⟨r, rfl, hr, hrow, hbel⟩ := hrel
            have RM := hid_of hrow
            have B3 := hid_of hbel
            have RU := hid_of (RW.out.below hbel LTA.out)
            clear hrow hbel R1 BM2
            by_cases hlt : r < n3
            · obtain ⟨ub, hub, hubi⟩ := RU.out.get hlt
              have UB := hid_of hubi
              have d1 : (r : Int) < (n3 : Int) := by omega
              clear hubi
              cases ub
              · go_wp2_with fail
                go_roundw
                case rel =>
                  refine ⟨r + 1, by go_num, by omega, RM.out.congr (fun i _ => ?_), B3.out⟩
                  constructor
                  · rintro ⟨u, hu, h⟩; exact ⟨u, by omega, h⟩
                  · rintro ⟨u, hu, h1, h2⟩
                    by_cases e : u = r
                    · subst e; exact absurd (UB.out.2 h1) (by simp)
                    · exact ⟨u, by omega, h1, h2⟩
                case measure => simp [intOf]; omega
              · obtain ⟨b3, o3, hab, hbB3, hc3⟩ := H3C.out (by rw [L3.out]; omega)
                subst hab
                obtain ⟨b4, o4, hab, hbB4, hc4⟩ := H4C.out (by rw [L4.out]; omega)
                subst hab
                have hl := hc3 r (by rw [L3.out]; exact hlt)
                have hh := hc4 r (by rw [L4.out]; exact hlt)
                obtain ⟨g1, g2, g3, g4⟩ := CH.out r (by rw [L3.out]; exact hlt)
                rw [L2.out] at g3
                obtain ⟨l, el⟩ : ∃ l : Nat, lo.getD r 0 = l := ⟨(lo.getD r 0).toNat, by omega⟩
                obtain ⟨h, eh⟩ : ∃ h : Nat, hi.getD r 0 = h := ⟨(hi.getD r 0).toNat, by omega⟩
                rw [el] at hl g2
                rw [eh] at hh g2 g3
                have HH := hid_of hh
                have EL := hid_of el
                have EH := hid_of eh
                have e1 : l ≤ h := by omega
                have e2 : h ≤ n2 := by omega
                have hl' : wr.cell? ⟨b3, o3 + r, none⟩ = some (.int .i32 l) := by
                  rw [B3.out.cell (p := ⟨b3, o3 + r, none⟩) (by have := SC.out; show b3 < _; omega)]; exact hl
                clear hc3 hc4 hl hh g1 g2 g3 g4 el eh
                go_wp2_with fail
                go_loopw [24] (fun i wr => M4 (MarkC lo hi (UsedC ls ow cs j) r) l h n2 wC.heap.size wC i wr) (fun i _ => h - (intOf i).toNat)
                case atStart => exact ⟨l, rfl, Nat.le_refl _, e1, RM.out.congr (fun i _ => ⟨.inl, fun h => h.elim id (fun h => absurd h.2 (by omega))⟩), B3.out⟩
                case round =>
                  clear hl' hub
                  obtain ⟨t, rfl, ht1, ht2, hrow, hbel⟩ := hrel
                  have RM2 := hid_of hrow
                  have B4 := hid_of hbel
                  clear hrow hbel
                  have hh' : wr.cell? ⟨b4, o4 + r, none⟩ = some (.int .i32 h) := by
                    rw [B4.out.cell (p := ⟨b4, o4 + r, none⟩) (by have := SC.out; show b4 < _; omega)]; exact HH.out
                  by_cases hth : t < h
                  · obtain ⟨bv, hbv, _⟩ := RM2.out.get (i := t) (by omega)
                    have hfz := RM2.out.frozen t
                    have d2 : (t : Int) < (n2 : Int) := by omega
                    have d3 : (t : Int) < (h : Int) := by omega
                    have d4 : t + 1 ≤ 4096 := by omega
                    go_wp2_with fail
                    go_roundw
                    case rel =>
                      refine ⟨t + 1, by go_num, by omega, by omega, (RM2.out.set (j := t) (by omega)).congr (fun i _ => ?_), B4.out.setCell (p := ⟨_, t, none⟩) (Nat.le_refl _) _⟩
                      constructor
                      · rintro ((h | h) | h)
                        · exact .inl h
                        · exact .inr (by omega)
                        · exact .inr (by omega)
                      · rintro (h | h)
                        · exact .inl (.inl h)
                        · by_cases e : i = t
                          · exact .inr e
                          · exact .inl (.inr (by omega))
                    case measure => simp [intOf]; omega
                  · obtain rfl : t = h := by omega
                    have d3 : decide ((t : Int) < (t : Int)) = false := dec_no (by omega)
                    go_wp2_with fail
                    go_roundw
                    case rel =>
                      refine ⟨r + 1, by go_num, by omega, RM2.out.congr (fun i _ => ?_), B4.out⟩
                      constructor
                      · rintro (⟨u, hu, h⟩ | h)
                        · exact ⟨u, by omega, h⟩
                        · exact ⟨r, by omega, UB.out.1 (by trivial), by rw [EL.out]; omega, by rw [EH.out]; omega⟩
                      · rintro ⟨u, hu, h1, h2, h3⟩
                        by_cases e : u = r
                        · subst e
                          rw [EL.out] at h2
                          rw [EH.out] at h3
                          exact .inr (by omega)
                        · exact .inl ⟨u, by omega, h1, h2, h3⟩
                    case measure => simp [intOf]; omega
            · obtain rfl : r = n3 := by omega
              have LTC : Hid (wC.heap.size < wr.heap.size) := RM.out.lt
              have BD := hid_of (BC.out.trans (B3.out.mono SC.out))
              have SD := hid_of BD.out.size
              have H2D := hid_of (H2C.out.below B3.out (by have := SC.out; omega))
              clear hlt hr B3 RU BC SC H2C H3C H4C CH HFi RW LTA
              rename World => wD
              go_wp2_with fail
              go_loopw [26, 25] (fun i v wr => M5 lk (MarkC lo hi (UsedC ls ow cs j) r) n2 wD i v wr) (fun i _ _ => n2 - (intOf i).toNat)
              case atStart => exact ⟨0, [], rfl, by omega, World.ownsRow_nil _ _ _ _, by simp, List.Pairwise.nil, fun x => ⟨fun h => absurd h (by simp), fun ⟨u, hu, _⟩ => absurd hu (by omega)⟩, Below.refl _ _⟩
              case round =>
                obtain ⟨t, zs, rfl, ht, hown, hlen, hup, hmem, hbel⟩ := hrel
                have HO := hid_of hown
                have UP := hid_of hup
                have ME := hid_of hmem
                have B4 := hid_of hbel
                have SD2 := hid_of hbel.size
                have RMr := hid_of (RM.out.below hbel LTC.out)
                obtain ⟨a, c, ev, hcap0, hI⟩ := own_cap hown
                subst ev
                have HI := hid_of hI
                clear hown hup hmem hbel hI
                by_cases hlt : t < n2
                · obtain ⟨bm, hbm, hbmi⟩ := RMr.out.get hlt
                  have MK := hid_of hbmi
                  have d1 : (t : Int) < (n2 : Int) := by omega
                  clear hbmi
                  cases bm
                  · go_wp2_with fail
                    go_roundw
                    case rel =>
                      refine ⟨t + 1, zs, by go_num, by omega, HO.out, by omega, UP.out, fun x => ?_, B4.out⟩
                      rw [ME.out x]
                      constructor
                      · rintro ⟨u, hu, h⟩; exact ⟨u, by omega, h⟩
                      · rintro ⟨u, hu, h1, h2⟩
                        by_cases e : u = t
                        · subst e; exact absurd (MK.out.2 h1) (by simp)
                        · exact ⟨u, by omega, h1, h2⟩
                    case measure => simp [intOf]; omega
                  · obtain ⟨b2, o2, hab, hbB2, hc2⟩ := H2D.out (by rw [L2.out]; omega)
                    subst hab
                    have hv' : wr.cell? ⟨b2, o2 + t, none⟩ = some (.int .i64 (lk.getD t 0)) := by
                      rw [B4.out.cell (p := ⟨b2, o2 + t, none⟩) (by have := SD.out; show b2 < _; omega)]
                      exact hc2 t (by rw [L2.out]; exact hlt)
                    obtain ⟨v, ev⟩ : ∃ v, v = lk.getD t 0 := ⟨_, rfl⟩
                    rw [← ev] at hv'
                    have V := hid_of ev
                    have hmv : zs.length ≤ 4096 := by omega
                    clear hc2 ev
                    go_wp2_with fail
                    go_loopw [28] (fun i wr' => M6 zs v wr i wr') (fun i _ => zs.length - (intOf i).toNat)
                    case atStart => exact ⟨0, rfl, by omega, fun u hu => absurd hu (by omega), rfl⟩
                    case round =>
                      obtain ⟨n, rfl, hn, hbf, hw⟩ := hrel
                      subst hw
                      have HBf := hid_of hbf
                      clear hbf
                      by_cases hlz : n < zs.length
                      · obtain ⟨bz, oz, hab, _, hcz⟩ := HI.out (by omega)
                        subst hab
                        have hz := hcz n hlz
                        obtain ⟨z, ez⟩ : ∃ z, z = zs.getD n 0 := ⟨_, rfl⟩
                        rw [← ez] at hz
                        have Z := hid_of ez
                        clear hcz ez
                        have d2 : (n : Int) < (zs.length : Int) := by omega
                        by_cases hzv : z < v
                        · go_wp2_with fail
                          go_roundw
                          case rel =>
                            refine ⟨n + 1, by go_num, by omega, fun u hu => ?_, rfl⟩
                            by_cases e : u = n
                            · subst e; rw [← Z.out]; exact hzv
                            · exact HBf.out u (by omega)
                          case measure => simp [intOf]; omega
                        · have d3 := dec_no hzv
                          by_cases hze : z = v
                          · subst hze
                            go_wp2_with fail
                            go_roundw
                            case rel =>
                              refine ⟨t + 1, zs, by go_num, by omega, HO.out, by omega, UP.out, fun x => ?_, B4.out⟩
                              rw [ME.out x]
                              constructor
                              · rintro ⟨u, hu, h⟩; exact ⟨u, by omega, h⟩
                              · rintro ⟨u, hu, h1, h2⟩
                                by_cases e : u = t
                                · subst e
                                  rw [← V.out, Z.out] at h2
                                  exact (ME.out x).1 (by rw [← h2]; simp [List.getD, List.getElem?_eq_getElem hlz])
                                · exact ⟨u, by omega, h1, h2⟩
                            case measure => simp [intOf]; omega
                          · have d4 : (z == v) = false := by simpa using hze
                            have LZ := hid_of hlz
                            have VN : Hid (n < zs.length → v < zs.getD n 0) := fun _ => by rw [← Z.out]; omega
                            go_wp2_with (at_builtin; refine wpList_append_own_at _ rfl _ _ 23 rfl wD.heap.size 2 k0 (.int .i64 0) 1 8 Try.underlying23 x1 kz0 kz1 kz2 rfl (by decide) _ _ _ rfl (HO.out.alloc _) ⟨wr.heap.size, 0, none⟩ 1 1 [.int .i64 0] rfl rfl (cell_one_new _ _ _) (ints_oneCell .i64 [0]) (by unfold maxLen; omega) (by omega) (by have := SD2.out; simp; omega) ?_)
                            intro v' w5 hown' hgrow hnil hloc
                            have O2 : Hid (w5.ownsRow wD.heap.size 2 1 v' (zs ++ [0]).length ((zs ++ [0]).map (Value.int .i64))) := by rw [Hid]; simpa using hown'
                            have B5 := hid_of ((B4.out.alloc SD2.out _).grown hgrow (by have := SD2.out; simp; omega) (fun k hk => (HO.out.lt k hk).1))
                            obtain ⟨g, cap, ev, hg, hgl, hcap, hcm, hF⟩ := own_filled O2.out (by simp)
                            rw [List.length_append, List.length_singleton] at ev hcap hF
                            subst ev
                            have F5 := hid_of (hF.congr (fun i hi => sh_start zs i hi))
                            clear hown' hgrow hnil hloc hF O2 hmv hv' hz hzv d3 hze d4 d2 hlz
                            go_wp2_with fail
                            go_loopw [29] (fun i wr' => M7 zs n cap g wD i wr') (fun i _ => (intOf i).toNat)
                            case atStart => exact ⟨zs.length, by go_num, hn, Nat.le_refl _, F5.out, B5.out⟩
                            case round =>
                              obtain ⟨s, rfl, hs1, hs2, hF, hb⟩ := hrel
                              have F6 := hid_of hF
                              have B6 := hid_of hb
                              clear hF hb F5 B5
                              by_cases hns : n < s
                              · obtain ⟨s', rfl⟩ : ∃ s', s = s' + 1 := ⟨s - 1, by omega⟩
                                have hrd := F6.out.at (j := s') (by omega)
                                rw [shF, sh_read zs s' (by omega)] at hrd
                                obtain ⟨y, ey⟩ : ∃ y, y = zs.getD s' 0 := ⟨_, rfl⟩
                                rw [← ey] at hrd
                                have Y := hid_of ey
                                have hwr := F6.out.at (j := s' + 1) (by omega)
                                obtain ⟨y2, ey2⟩ : ∃ y2, y2 = shF zs (s' + 1) (s' + 1) := ⟨_, rfl⟩
                                rw [← ey2] at hwr
                                have hfz := F6.out.frozen (s' + 1)
                                clear ey ey2
                                have d2 : (n : Int) < (s' : Int) + 1 := by omega
                                have d3 : (s' : Int) + 1 < (zs.length : Int) + 1 := by omega
                                have d4 : (s' : Int) < (zs.length : Int) + 1 := by omega
                                go_wp2_with fail
                                go_roundw
                                case rel =>
                                  refine ⟨s', by go_num, by omega, by omega, ?_, B6.out.setCell (p := ⟨g, s' + 1, none⟩) hg _⟩
                                  have f1 := F6.out.put (j := s' + 1) (by omega) hcap (.int .i64 y)
                                  exact f1.congr (fun i hi => by rw [Y.out]; exact sh_step zs s' i (by omega) hi)
                                case measure => simp [intOf]
                              · obtain rfl : n = s := by omega
                                have hwr := F6.out.at (j := n) (by omega)
                                obtain ⟨y2, ey2⟩ : ∃ y2, y2 = shF zs n n := ⟨_, rfl⟩
                                rw [← ey2] at hwr
                                have hfz := F6.out.frozen n
                                clear ey2
                                have d2 : decide ((n : Int) < (n : Int)) = false := dec_no (by omega)
                                have d3 : (n : Int) < (zs.length : Int) + 1 := by omega
                                go_wp2_with fail
                                go_roundw
                                case rel =>
                                  have hle : (insAt zs n v).length = zs.length + 1 := insAt_len zs n v hn
                                  refine ⟨t + 1, insAt zs n v, by go_num, by omega, ?_, by rw [hle]; omega, up_ins UP.out HBf.out VN.out hn, fun x => ?_, B6.out.setCell (p := ⟨g, n, none⟩) hg _⟩
                                  · have f1 := F6.out.put (j := n) (by omega) hcap (.int .i64 v)
                                    have f2 := f1.congr (fun i hi => sh_end zs n i v hn hi)
                                    rw [← hle] at f2
                                    have f3 := f2.own hg (by rw [hle]; exact hcap) hcm
                                    rw [hle] at f3 ⊢
                                    exact f3
                                  · rw [mem_ins, ME.out x]
                                    constructor
                                    · rintro (⟨u, hu, h⟩ | h)
                                      · exact ⟨u, by omega, h⟩
                                      · exact ⟨t, by omega, MK.out.1 (by trivial), by rw [← V.out]; exact h.symm⟩
                                    · rintro ⟨u, hu, h1, h2⟩
                                      by_cases e : u = t
                                      · subst e; rw [← V.out] at h2; exact .inr h2.symm
                                      · exact .inl ⟨u, by omega, h1, h2⟩
                                case measure => simp [intOf]; omega
                      · have d2 : decide ((n : Int) < (zs.length : Int)) = false := dec_no (by omega)
                        have LZ := hid_of hlz
                        have VN : Hid (n < zs.length → v < zs.getD n 0) := fun h => absurd h hlz
                        go_wp2_with (at_builtin; refine wpList_append_own_at _ rfl _ _ 23 rfl wD.heap.size 2 k0 (.int .i64 0) 1 8 Try.underlying23 x1 kz0 kz1 kz2 rfl (by decide) _ _ _ rfl (HO.out.alloc _) ⟨wr.heap.size, 0, none⟩ 1 1 [.int .i64 0] rfl rfl (cell_one_new _ _ _) (ints_oneCell .i64 [0]) (by unfold maxLen; omega) (by omega) (by have := SD2.out; simp; omega) ?_)
                        intro v' w5 hown' hgrow hnil hloc
                        have O2 : Hid (w5.ownsRow wD.heap.size 2 1 v' (zs ++ [0]).length ((zs ++ [0]).map (Value.int .i64))) := by rw [Hid]; simpa using hown'
                        have B5 := hid_of ((B4.out.alloc SD2.out _).grown hgrow (by have := SD2.out; simp; omega) (fun k hk => (HO.out.lt k hk).1))
                        obtain ⟨g, cap, ev, hg, hgl, hcap, hcm, hF⟩ := own_filled O2.out (by simp)
                        rw [List.length_append, List.length_singleton] at ev hcap hF
                        subst ev
                        have F5 := hid_of (hF.congr (fun i hi => sh_start zs i hi))
                        clear hown' hgrow hnil hloc hF O2 hmv hv' d2 hlz
                        go_wp2_with fail
                        go_loopw [29] (fun i wr' => M7 zs n cap g wD i wr') (fun i _ => (intOf i).toNat)
                        case atStart => exact ⟨zs.length, by go_num, hn, Nat.le_refl _, F5.out, B5.out⟩
                        case round =>
                          obtain ⟨s, rfl, hs1, hs2, hF, hb⟩ := hrel
                          have F6 := hid_of hF
                          have B6 := hid_of hb
                          clear hF hb F5 B5
                          by_cases hns : n < s
                          · obtain ⟨s', rfl⟩ : ∃ s', s = s' + 1 := ⟨s - 1, by omega⟩
                            have hrd := F6.out.at (j := s') (by omega)
                            rw [shF, sh_read zs s' (by omega)] at hrd
                            obtain ⟨y, ey⟩ : ∃ y, y = zs.getD s' 0 := ⟨_, rfl⟩
                            rw [← ey] at hrd
                            have Y := hid_of ey
                            have hwr := F6.out.at (j := s' + 1) (by omega)
                            obtain ⟨y2, ey2⟩ : ∃ y2, y2 = shF zs (s' + 1) (s' + 1) := ⟨_, rfl⟩
                            rw [← ey2] at hwr
                            have hfz := F6.out.frozen (s' + 1)
                            clear ey ey2
                            have d2 : (n : Int) < (s' : Int) + 1 := by omega
                            have d3 : (s' : Int) + 1 < (zs.length : Int) + 1 := by omega
                            have d4 : (s' : Int) < (zs.length : Int) + 1 := by omega
                            go_wp2_with fail
                            go_roundw
                            case rel =>
                              refine ⟨s', by go_num, by omega, by omega, ?_, B6.out.setCell (p := ⟨g, s' + 1, none⟩) hg _⟩
                              have f1 := F6.out.put (j := s' + 1) (by omega) hcap (.int .i64 y)
                              exact f1.congr (fun i hi => by rw [Y.out]; exact sh_step zs s' i (by omega) hi)
                            case measure => simp [intOf]
                          · obtain rfl : n = s := by omega
                            have hwr := F6.out.at (j := n) (by omega)
                            obtain ⟨y2, ey2⟩ : ∃ y2, y2 = shF zs n n := ⟨_, rfl⟩
                            rw [← ey2] at hwr
                            have hfz := F6.out.frozen n
                            clear ey2
                            have d2 : decide ((n : Int) < (n : Int)) = false := dec_no (by omega)
                            have d3 : (n : Int) < (zs.length : Int) + 1 := by omega
                            go_wp2_with fail
                            go_roundw
                            case rel =>
                              have hle : (insAt zs n v).length = zs.length + 1 := insAt_len zs n v hn
                              refine ⟨t + 1, insAt zs n v, by go_num, by omega, ?_, by rw [hle]; omega, up_ins UP.out HBf.out VN.out hn, fun x => ?_, B6.out.setCell (p := ⟨g, n, none⟩) hg _⟩
                              · have f1 := F6.out.put (j := n) (by omega) hcap (.int .i64 v)
                                have f2 := f1.congr (fun i hi => sh_end zs n i v hn hi)
                                rw [← hle] at f2
                                have f3 := f2.own hg (by rw [hle]; exact hcap) hcm
                                rw [hle] at f3 ⊢
                                exact f3
                              · rw [mem_ins, ME.out x]
                                constructor
                                · rintro (⟨u, hu, h⟩ | h)
                                  · exact ⟨u, by omega, h⟩
                                  · exact ⟨t, by omega, MK.out.1 (by trivial), by rw [← V.out]; exact h.symm⟩
                                · rintro ⟨u, hu, h1, h2⟩
                                  by_cases e : u = t
                                  · subst e; rw [← V.out] at h2; exact .inr h2.symm
                                  · exact .inl ⟨u, by omega, h1, h2⟩
                            case measure => simp [intOf]; omega
                · obtain rfl : t = n2 := by omega
                  have MTF : Hid (∀ u, u < cs.length → MetC ls ow os (cs.getD u ByteArray.empty)) := by rw [Hid, L6.out]; exact MT.out
                  go_wp2_with fail
                  go_ret2
                  refine .inr ⟨a, _, c, zs, rfl, BD.out.trans (B4.out.mono SD.out), MTF.out, rfl, HI.out, UP.out, ?_⟩
                  rw [L2.out, L6.out, L3.out]
                  exact ME.out

end Go.Proofs.Qxb6608735a
