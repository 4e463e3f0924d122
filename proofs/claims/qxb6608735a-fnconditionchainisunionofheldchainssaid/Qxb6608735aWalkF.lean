import Derived.Test.Qxb6608735aWalkE
import Derived.Deep.DeepCutAuto
import Derived.Deep.RegionHeld3
namespace Go.Proofs.Qxb6608735a
open Go.RowKit Go.Maps Go.WideMaps
set_option linter.unusedVariables false

theorem ownsMap_below {P : Program} {k : TypeId} {R : Value → Option (DataW Unit × List MemPlace)} {w w' : World} {b n B : Nat} {D : DataW Unit} (h : w.ownsMap P k R b n D) (hb : Below B w w') (hB : b < B) : w'.ownsMap P k R b n D := by
  obtain ⟨es, clock, hh, r⟩ := h
  exact ⟨es, clock, by rw [hb.block b hB]; exact hh, r⟩

theorem got_map (ss : List ByteArray) (zs : List Int) (j : Nat) (h : j < zs.length) : (zs.map (idAt ss)).getD j ByteArray.empty = idAt ss (zs.getD j 0) := by
  simp [List.getElem?_eq_getElem h]
theorem at_nat {D : DataW Unit} {kl : Lit} {c : Int} {p : Nat} (h : D.atKey kl (.lit (.int .i64 0)) = .lit (.int .i64 c)) (h2 : ∀ z, D.atKey kl z = .lit (.int .i64 p)) : c = p := by
  rw [h2] at h
  simp only [DataW.lit.injEq, Lit.int.injEq, true_and] at h
  exact h.symm

theorem HasI.take {k : IntKind} {w : World} {B : Nat} {a : Option Addr} {zs : List Int} (h : HasI k w B a zs) (m : Nat) : HasI k w B a (zs.take m) := by
  intro h0
  obtain ⟨b, off, ha, hb, hc⟩ := h (by simp at h0; omega)
  refine ⟨b, off, ha, hb, fun i hi => ?_⟩
  have hi' : i < m ∧ i < zs.length := by simp at hi; omega
  rw [hc i hi'.2]
  simp [List.getElem?_take_of_lt hi'.1]
theorem HasI.drop {k : IntKind} {w : World} {B m : Nat} {b off : Nat} {zs : List Int} {ao : Option Addr} (h : HasI k w B (some ⟨b, off, none⟩) zs) (hao : m < zs.length → ao = some ⟨b, off + m, none⟩) : HasI k w B ao (zs.drop m) := by
  intro h0
  have h0' : m < zs.length := by simp at h0; omega
  obtain ⟨b', off', ha, hb, hc⟩ := h (by omega)
  simp only [Option.some.injEq, Addr.mk.injEq, and_true] at ha
  obtain ⟨rfl, rfl⟩ := ha
  refine ⟨b, off + m, hao h0', hb, fun i hi => ?_⟩
  have hi' : m + i < zs.length := by simp at hi; omega
  rw [Nat.add_assoc, hc (m + i) hi']
  simp
theorem HasI.drop_any {k : IntKind} {w : World} {B m c : Nat} {zs : List Int} {a : Option Addr} (h : HasI k w B a zs) (hc : zs.length ≤ c) : HasI k w B (if c = m then a else Option.map (fun x => x.add m) a) (zs.drop m) := by
  by_cases hm : m < zs.length
  · obtain ⟨b, off, rfl, _⟩ := h (by omega)
    exact HasI.drop h (fun _ => by rw [if_neg (by omega)]; simp [Addr.add_lit])
  · intro h0
    simp at h0
    omega
theorem got_take (ss : List ByteArray) (zs : List Int) (m j : Nat) (h : j < zs.length) (hm : j < m) : ((zs.take m).map (idAt ss)).getD j ByteArray.empty = (zs.map (idAt ss)).getD j ByteArray.empty := by
  simp [List.getElem?_take_of_lt hm]
theorem got_drop (ss : List ByteArray) (zs : List Int) (m j : Nat) : ((zs.drop m).map (idAt ss)).getD j ByteArray.empty = (zs.map (idAt ss)).getD (m + j) ByteArray.empty := by
  simp
theorem HasI.drop_end {k : IntKind} {w : World} {B m : Nat} {zs : List Int} (a : Option Addr) (hm : zs.length ≤ m) : HasI k w B a (zs.drop m) := by
  intro h0
  simp at h0
  omega
theorem HasI.drop_mid {k : IntKind} {w : World} {B m c : Nat} {zs : List Int} {a : Option Addr} (h : HasI k w B a zs) (hc : zs.length ≤ c) (hne : ¬ c = m) : HasI k w B (Option.map (fun x => x.add m) a) (zs.drop m) := by
  have := h.drop_any (m := m) hc
  rwa [if_neg hne] at this
theorem Named.take {zs : List Int} {n : Int} (h : Named zs n) (m : Nat) : Named (zs.take m) n := by
  intro i hi
  have hi' : i < m ∧ i < zs.length := by simp at hi; omega
  have := h i hi'.2
  simpa [List.getElem?_take_of_lt hi'.1] using this
theorem Named.drop {zs : List Int} {n : Int} (h : Named zs n) (m : Nat) : Named (zs.drop m) n := by
  intro i hi
  have hi' : m + i < zs.length := by simp at hi; omega
  have := h (m + i) hi'
  simpa using this

theorem HasI.drew {k : IntKind} {w : World} {B : Nat} {a : Option Addr} {zs : List Int} (h : HasI k w B a zs) : HasI k w.drew B a zs := h
theorem of_drew {B : Nat} {w w' : World} (h : Below B w.drew w') : Below B w w' := (Below.refl B w).drew.trans h

theorem size2 : (Try.prog.info? 2).map (·.size) = some 1 := by kernel_rfl

set_option maxRecDepth 20000 in
set_option maxHeartbeats 1000000 in
theorem law3 (a0 a1 : Option Addr) (n0 c0 n1 c1 : Nat) (ss : List ByteArray) (zs : List Int) (k : Int) (w : World)
    (hS : HasS w w.heap.size a0 ss) (hI : HasI .i64 w w.heap.size a1 zs) (hn0 : ss.length = n0) (hn1 : zs.length = n1) (hm0 : n0 ≤ maxLen) (hm1 : n1 ≤ c1) (hc1 : c1 ≤ maxLen) (hsz : ∀ s ∈ ss, s.size ≤ maxLen) (hk0 : -9223372036854775808 ≤ k) (hk1 : k ≤ 9223372036854775807) :
    Calls Try.prog 3 #[.slice a0 n0 c0, .slice a1 n1 c1, .int .i64 k] w fun e w' => e = .returned (.bool true) ∧ Below w.heap.size w w' := by
  have hneq := fun w => run_neq_slice_nil_any (P := Try.prog) w 23 2 a1 n1 c1 0 0 Try.underlying23
  have HG := hid_of (guard11 a0 a1 n0 c0 n1 c1 _ ss k w hS hn0 hm0 (Nat.le_trans hm1 hc1))
  have HS := hid_of hS
  have HI := hid_of hI
  have HN0 := hid_of hn0
  have HN1 := hid_of hn1
  have HSZ := hid_of hsz
  have HM0 := hid_of hm0
  unfold maxLen at hc1
  clear hS hI hn0 hn1 hsz hm0
  go_enter Try.func3, Try.ntmps3
  go_wp2_with fail
  refine HG.out.mono ?_
  rintro e w' ⟨⟨r, rfl⟩, hw⟩
  subst w'
  cases r
  · go_wp2_with fail
    go_ret
    exact ⟨rfl, Below.refl _ _⟩
  · by_cases hb : (4096 : Int) < (n1 : Int)
    · have hd := dec_yes hb
      clear hb
      go_wp2_with fail
      go_ret
      exact ⟨rfl, Below.refl _ _⟩
    · have hd := dec_no hb
      have hn1 : n1 ≤ 4096 := by omega
      clear hb
      go_wp2_with fail
      refine (strBytes _ a0 n0 c0 _ ss w HS.out HN0.out HM0.out (by omega) (by omega)).mono ?_
      rintro e w' ⟨⟨r, rfl, hr⟩, hw⟩
      subst w'
      have HR := hid_of hr
      clear hr
      by_cases hr1 : (1048576 : Int) < r
      · have hd1 := dec_yes hr1
        clear hr1
        go_wp2_with fail
        go_ret
        exact ⟨rfl, Below.refl _ _⟩
      · have hd1 := dec_no hr1
        have hn0 : n0 ≤ 4096 := HR.out (by omega)
        clear hr1 HR
        by_cases hk : k < 0 ∨ (n1 : Int) < k
        · rcases hk with hk | hk
          · go_wp2_with fail
            go_ret
            exact ⟨rfl, Below.refl _ _⟩
          · have hk' : ¬ k < 0 := by omega
            go_wp2_with fail
            go_ret
            exact ⟨rfl, Below.refl _ _⟩
        · obtain ⟨kn, rfl⟩ : ∃ kn : Nat, k = kn := ⟨k.toNat, by omega⟩
          have hkn : kn ≤ n1 := by omega
          clear hk
          go_upto_if 42 with fail
          go_cut [1] (fun s wc => ∃ a c, s = .slice a n1 c ∧ n1 ≤ c ∧ c ≤ 9223372036854775807 ∧ HasI .i64 wc wc.heap.size a zs ∧ Below w.heap.size w wc)
          case first =>
            cases ha : a1 with
            | none =>
              subst ha
              have hz := HI.out.of_none
              go_wp2_with fail
              go_meet
              case rel =>
                exact ⟨none, c1, rfl, hm1, hc1, fun h => absurd h (by rw [hz]; simp), Below.refl _ _⟩
            | some ad =>
              subst ha
              obtain ⟨i0, hi, hz0, hz1, hz2⟩ := info_parts info2
              go_wp2_with (at_make; refine wpList_make_full _ rfl _ _ 23 rfl w.heap.size 2 i0 (.int .i64 0) 1 Try.underlying23 hi hz0 hz1 _ _ _ _ n1 rfl rfl rfl rfl (by rw [hz2]; omega) (by unfold maxLen; omega) (Nat.le_refl _) ?_)
              intro w1 hown hgrow
              obtain ⟨L, hrow, hlen⟩ := row_some hown
              have HB1 : Hid (Below w.heap.size w w1) := (Below.refl _ _).grown hgrow (Nat.le_refl _) (fun k h => by cases h)
              have HI1 := hid_of (HI.out.below HB1.out (Nat.le_refl _))
              have HRow := hid_of hrow
              have HLen := hid_of hlen
              clear hown hgrow hrow hlen hneq hi hz0 hz1 hz2
              go_wp2_with (with_reducible refine at_copy ?_; refine wpList_copy_splice rfl _ _ 23 23 rfl 2 Try.underlying23 size2 _ _ _ _ _ _ rfl rfl w.heap.size 0 L 2 HRow.out (zs.map (Value.int .i64)) (by simp [HN1.out]) (hpos_of HI1.out) (by simp [HN1.out, HLen.out]) (ints_oneCell _ _) w.heap.size w HB1.out (Nat.le_refl _) ?_)
              intro w2 HG2 hB2
              have hg2 := HG2.out
              rw [splice_all _ _ (by simp [HN1.out, HLen.out])] at hg2
              have HI2 := hid_of (hasI_row hg2 (row_lt hg2))
              have HB2 := hid_of hB2
              clear HG2 hg2 hB2
              go_wp2_with fail
              go_meet
              case rel => exact ⟨_, n1, rfl, Nat.le_refl _, by omega, HI2.out, HB2.out⟩
          case rest =>
            rename World => wb
            obtain ⟨a, c, rfl, hnc, hcm, hI2, hB2⟩ := hcut
            have HI2 := hid_of hI2
            have HB2 := hid_of hB2
            have HS2 := hid_of ((HS.out.below hB2 (Nat.le_refl _)).mono hB2.size)
            clear hI2 hB2 HS HI HG hneq hd hd1 hc1 hm1
            go_wp2_with fail
            refine (index_any a0 n0 c0 _ ss wb HS2.out (Nat.le_refl _) HN0.out hn0 HSZ.out).mono ?_
            rintro e w3 (⟨rfl, hb3⟩ | ⟨rfl, hb3, hown3, hdis⟩)
            · have HB3 := hid_of (HB2.out.trans (hb3.mono HB2.out.size))
              clear hb3
              go_wp2_with fail
              go_ret
              exact ⟨rfl, HB3.out⟩
            · have HB3 := hid_of (HB2.out.trans (hb3.mono HB2.out.size))
              have HS3 := hid_of ((HS2.out.below hb3 (Nat.le_refl _)).mono hb3.size)
              have HI3 := hid_of ((HI2.out.below hb3 (Nat.le_refl _)).mono hb3.size)
              have HO3 := hid_of hown3
              have HD3 := hid_of hdis
              clear hb3 hown3 hdis HS2 HI2
              go_wp2_with fail
              refine (keysNamed a n1 c _ zs _ w3 HI3.out HN1.out (by unfold maxLen; omega)).mono ?_
              rintro e w' ⟨⟨r, rfl, hr⟩, hw⟩
              subst w'
              have HR := hid_of hr
              clear hr
              cases r
              · go_wp2_with fail
                go_ret
                exact ⟨rfl, HB3.out⟩
              · have HS00 : Hid (ss.length ≤ 4096) := by show _ ≤ _; rw [HN0.out]; exact hn0
                have HNM : Hid (Named zs ss.length) := by have := HR.out rfl; rw [← HN0.out] at this; exact this
                clear HR
                go_wp2_with fail
                refine (copyStrings a0 n0 c0 _ ss w3 HS3.out (Nat.le_refl _) HN0.out hn0).mono ?_
                rintro e w4 ⟨a4, c4, rfl, hs4, hb4⟩
                have HS4 := hid_of hs4
                have HI4 := hid_of ((HI3.out.below hb4 (Nat.le_refl _)).mono hb4.size)
                have HB4 := hid_of (HB3.out.trans (hb4.mono HB3.out.size))
                have HO4 := hid_of (ownsMap_below HO3.out hb4 HO3.out.lt)
                clear hs4 hb4 HI3 HB3 HS3 HO3
                go_wp2_with fail
                refine (newHolding a4 n0 c4 _ ss w4 HS4.out (Nat.le_refl _) HN0.out).mono ?_
                rintro e w5 ⟨rfl, hb5, hh5⟩
                obtain ⟨w6, hw6⟩ : ∃ w6, w6 = w5.alloc (.cells #[.pointer (some ⟨w4.heap.size + 1 + 1 + 1, 0, none⟩)] 32) := ⟨_, rfl⟩
                have hb6 : Below w5.heap.size w5 w6 := by rw [hw6]; exact (Below.refl _ _).alloc (Nat.le_refl _) _
                have hb46 : Below w4.heap.size w4 w6 := hb5.trans (hb6.mono hb5.size)
                have hs56 : w5.heap.size < w6.heap.size := by rw [hw6]; simp
                have HH6 := hid_of ((hh5.below hb6 (Nat.le_refl _)).mono hb6.size)
                have HI6 := hid_of ((HI4.out.below hb46 (Nat.le_refl _)).mono hb46.size)
                have HO6 := hid_of (ownsMap_below HO4.out hb46 HO4.out.lt)
                have HB6 := hid_of (HB4.out.trans (hb46.mono HB4.out.size))
                have HC6 : Hid (w6.cell? ⟨w5.heap.size, 0, none⟩ = some (.pointer (some ⟨w4.heap.size + 1 + 1 + 1, 0, none⟩))) := by show _ = _; rw [hw6, World.cell?_alloc_new]; rfl
                have HL6 := hid_of hs56
                clear hb5 hh5 hb6 hb46 HS4 HI4 HO4 HB4 hs56
                go_wp2_with fail
                rw [← hw6]
                clear hw6
                refine (callIds_any _ _ ss a n1 c zs w6 HH6.out (Nat.le_refl _) HI6.out HN1.out hn1 HNM.out (by rw [HN0.out]; exact hn0)).mono ?_
                rintro e w7 ⟨a7, c7, rfl, hnil7, hs7, hb7⟩
                have HS7 := hid_of hs7
                have HH7 := hid_of ((HH6.out.below hb7 (Nat.le_refl _)).mono hb7.size)
                have HI7 := hid_of ((HI6.out.below hb7 (Nat.le_refl _)).mono hb7.size)
                have HO7 := hid_of (ownsMap_below HO6.out hb7 HO6.out.lt)
                have HB7 := hid_of (HB6.out.trans (hb7.mono HB6.out.size))
                have hc7 : w7.cell? ⟨w5.heap.size, 0, none⟩ = some (.pointer (some ⟨w4.heap.size + 1 + 1 + 1, 0, none⟩)) := by
                  rw [hb7.cell (p := ⟨w5.heap.size, 0, none⟩) HL6.out]; exact HC6.out
                have HC7 := hid_of hc7
                have HL7 : Hid (w5.heap.size < w7.heap.size) := Nat.lt_of_lt_of_le HL6.out hb7.size
                have hnil := fun (w : World) => Lib.run_eql_slice_nil (P := Try.prog) w 22 9 a7 n1 c7 0 0 Try.underlying22
                clear hs7 hb7 HH6 HI6 HO6 HB6 HC6 HL6 hc7
                go_wp2_with fail
                go_loop [12] (fun i => ∃ j : Nat, i = .int .i64 j ∧ j ≤ n1) (fun i => n1 - (intOf i).toNat)
                case atStart => exact ⟨0, rfl, by omega⟩
                case round =>
                  obtain ⟨j, rfl, hj⟩ := hrel
                  clear hnil
                  by_cases hlt : j < n1
                  · have hjz : j < zs.length := by rw [HN1.out]; exact hlt
                    obtain ⟨gb, goff, hga, hgB, hgc⟩ := HS7.out (by simp; omega)
                    subst hga
                    obtain ⟨ib, ioff, hia, hiB, hic⟩ := HI7.out (by omega)
                    subst hia
                    obtain ⟨z, hz⟩ : ∃ z, z = zs.getD j 0 := ⟨_, rfl⟩
                    obtain ⟨hm0, hm1⟩ := HNM.out j hjz
                    rw [← hz] at hm0 hm1
                    obtain ⟨p, hp⟩ : ∃ p : Nat, wrap32 z = p := ⟨(wrap32 z).toNat, by omega⟩
                    have hps : p < ss.length := by omega
                    have hsp : idAt ss (zs.getD j 0) = ss.getD p ByteArray.empty := by rw [← hz, idAt, hp]; rfl
                    have hcs := hgc j (by simpa using hjz)
                    rw [got_map ss zs j hjz, hsp] at hcs
                    have hcz := hic j hjz
                    rw [← hz] at hcz
                    have HAt := hid_of (Dm_at ss ss.length HD3.out p hps)
                    have HHas := hid_of ((Dm_has ss (ss.getD p ByteArray.empty) ss.length).2 ⟨p, hps, rfl⟩)
                    have hlen : (ss.getD p ByteArray.empty).size ≤ maxLen := HSZ.out _ (by simp [List.getElem?_eq_getElem hps])
                    obtain ⟨s, hs⟩ : ∃ s, s = ss.getD p ByteArray.empty := ⟨_, rfl⟩
                    rw [← hs] at hcs HAt HHas hlen
                    have HK := hid_of (keyOf_string_mk (P := Try.prog) Try.underlying9 hlen)
                    have hh : Maps.has (Dm ss ss.length) (keyS s) = true := HHas.out
                    have hp4 : p ≤ 4096 := by rw [HN0.out] at hps; omega
                    clear hgc hic hz hm0 hm1 hsp hs hlen hps hjz
                    go_wp2_with (at_lookup; refine wpList_lookup_own_ok_int _ rfl _ _ 26 rfl 9 3 .i64 law9 Try.underlying26 Try.underlying3 (zero3 _) wb.heap.size ss.length _ rfl HO7.out _ _ rfl HK.out ?_)
                    intro cc hat hwc
                    obtain rfl : cc = (p : Int) := at_nat hat HAt.out
                    clear hat hwc
                    go_wp2_with fail
                    go_round
                    case rel => exact ⟨j + 1, by go_num, by omega⟩
                    case measure => simp [intOf]; omega
                  · go_wp2_with fail
                    have hc7 : w7.cell? ⟨w5.heap.size, 0, none⟩ = some (.pointer (some ⟨w4.heap.size + 1 + 1 + 1, 0, none⟩)) := HC7.out
                    clear hj hlt HD3 HSZ HO7 hnil7 HN0
                    have HS0 : Hid (ss.length ≤ 4096) := HS00.out
                    go_cut [15] (fun s wq => ∃ a8 c8, s = .slice a8 kn c8 ∧ HasS wq wq.heap.size a8 ((zs.take kn).map (idAt ss)) ∧ Below w7.heap.size w7 wq)
                    case first =>
                      have HCall := hid_of (fun ao cc h1 h2 => callIds_any _ _ ss ao kn cc (zs.take kn) w7.drew HH7.out.drew (Nat.le_refl _) h1 h2 (by omega) (HNM.out.take kn) HS0.out)
                      have HLen : Hid ((zs.take kn).length = kn) := by show _ = _; simp [HN1.out]; omega
                      have hk1 : (0 : Int) ≤ (kn : Int) := by omega
                      have hk2 : (kn : Int) ≤ (n1 : Int) := by omega
                      have hk3 : (kn : Int) ≤ (c : Int) := by omega
                      go_region_held3 (fun w' => w'.cell? ⟨w5.heap.size, 0, none⟩ = some (.pointer (some ⟨w4.heap.size + 1 + 1 + 1, 0, none⟩))) (go_keep) (first | (go_at_call 17; refine (HCall.out a c (HI7.out.take kn).drew HLen.out).mono ?_; rintro e w8 ⟨a8, c8, rfl, hn8, hs8, hb8⟩; have hc8 : w8.cell? ⟨w5.heap.size, 0, none⟩ = some (.pointer (some ⟨w4.heap.size + 1 + 1 + 1, 0, none⟩)) := (hb8.cell (p := ⟨w5.heap.size, 0, none⟩) HL7.out).trans HC7.out; have HS8 := hid_of hs8; have HB8 := hid_of (of_drew hb8); clear hs8 hb8 hn8))
                      go_wp2_with fail
                      go_meet
                      case rel => exact ⟨_, _, rfl, HS8.out, HB8.out⟩
                    case rest =>
                      rename World => w8
                      obtain ⟨a8, c8, rfl, hs8, hb8⟩ := hcut
                      have HS8 := hid_of hs8
                      have HS78 := hid_of ((HS7.out.below hb8 (Nat.le_refl _)).mono hb8.size)
                      have HH8 := hid_of ((HH7.out.below hb8 (Nat.le_refl _)).mono hb8.size)
                      have HI8 := hid_of ((HI7.out.below hb8 (Nat.le_refl _)).mono hb8.size)
                      have HB8 := hid_of (HB7.out.trans (hb8.mono HB7.out.size))
                      have hc8 : w8.cell? ⟨w5.heap.size, 0, none⟩ = some (.pointer (some ⟨w4.heap.size + 1 + 1 + 1, 0, none⟩)) := (hb8.cell (p := ⟨w5.heap.size, 0, none⟩) HL7.out).trans HC7.out
                      have HC8 := hid_of hc8
                      have HL8 : Hid (w5.heap.size < w8.heap.size) := Nat.lt_of_lt_of_le HL7.out hb8.size
                      clear hs8 hb8 HS7 HH7 HI7 HB7 HC7 HL7
                      go_wp2_with fail
                      go_cut [16] (fun s wq => ∃ a9 c9, s = .slice a9 (n1 - kn) c9 ∧ HasS wq wq.heap.size a9 ((zs.drop kn).map (idAt ss)) ∧ Below w8.heap.size w8 wq)
                      case first =>
                        have hk1 : (0 : Int) ≤ (kn : Int) := by omega
                        have hk2 : (kn : Int) ≤ (n1 : Int) := by omega
                        have hk3 : (kn : Int) ≤ (c : Int) := by omega
                        have HCall := hid_of (fun ao cc h1 h2 => callIds_any _ _ ss ao (n1 - kn) cc (zs.drop kn) w8.drew HH8.out.drew (Nat.le_refl _) h1 h2 (by omega) (HNM.out.drop kn) HS0.out)
                        have HLen : Hid ((zs.drop kn).length = n1 - kn) := by show _ = _; simp [HN1.out]
                        by_cases hck : c = kn
                        · subst hck
                          have HCall0 := hid_of (fun ao cc => callIds_any _ _ ss ao 0 cc [] w8.drew HH8.out.drew (Nat.le_refl _) (fun h => absurd h (by simp)) rfl (by omega) (fun i hi => absurd hi (by simp)) HS0.out)
                          have HZ0 : Hid (n1 - c = 0) := by show _ = _; omega
                          have HD0 : Hid (zs.drop c = []) := by show _ = _; exact List.drop_eq_nil_of_le (by rw [HN1.out]; exact hnc)
                          go_region_held3 (fun w' => w'.cell? ⟨w5.heap.size, 0, none⟩ = some (.pointer (some ⟨w4.heap.size + 1 + 1 + 1, 0, none⟩))) (go_keep) (first | (go_at_call 17; refine (HCall0.out _ _).mono ?_; rintro e w9 ⟨a9, c9, rfl, hn9, hs9, hb9⟩; have hc9 : w9.cell? ⟨w5.heap.size, 0, none⟩ = some (.pointer (some ⟨w4.heap.size + 1 + 1 + 1, 0, none⟩)) := (hb9.cell (p := ⟨w5.heap.size, 0, none⟩) HL8.out).trans HC8.out; have HS9 := hid_of hs9; have HB9 := hid_of (of_drew hb9); clear hs9 hb9 hn9))
                          go_wp2_with fail
                          go_meet
                          case rel => exact ⟨_, _, by rw [HZ0.out], by rw [HD0.out]; exact HS9.out, HB9.out⟩
                        · go_region_held3 (fun w' => w'.cell? ⟨w5.heap.size, 0, none⟩ = some (.pointer (some ⟨w4.heap.size + 1 + 1 + 1, 0, none⟩))) (go_keep) (first | (go_at_call 17; refine (HCall.out _ _ (HI8.out.drop_mid (by rw [HN1.out]; exact hnc) hck).drew HLen.out).mono ?_; rintro e w9 ⟨a9, c9, rfl, hn9, hs9, hb9⟩; have hc9 : w9.cell? ⟨w5.heap.size, 0, none⟩ = some (.pointer (some ⟨w4.heap.size + 1 + 1 + 1, 0, none⟩)) := (hb9.cell (p := ⟨w5.heap.size, 0, none⟩) HL8.out).trans HC8.out; have HS9 := hid_of hs9; have HB9 := hid_of (of_drew hb9); clear hs9 hb9 hn9))
                          go_wp2_with fail
                          go_meet
                          case rel => exact ⟨_, _, rfl, HS9.out, HB9.out⟩
                      case rest =>
                        rename World => w9
                        obtain ⟨a9, c9, rfl, hs9, hb9⟩ := hcut
                        have HS9 := hid_of hs9
                        have HS89 := hid_of ((HS8.out.below hb9 (Nat.le_refl _)).mono hb9.size)
                        have HS79 := hid_of ((HS78.out.below hb9 (Nat.le_refl _)).mono hb9.size)
                        have HB9 := hid_of (HB8.out.trans (hb9.mono HB8.out.size))
                        clear hs9 hb9 HS8 HS78 HH8 HI8 HB8 hc8 HC8 HL8 HNM HS00 HS0
                        have hadd : (kn : Int) + ((n1 - kn : Nat) : Int) = (n1 : Int) := by omega
                        go_wp2_with fail
                        clear hadd
                        go_loopw [17] (fun i wr => ∃ j : Nat, i = .int .i64 j ∧ j ≤ kn ∧ ∃ q, wr = w9.drewN q) (fun i _ => kn - (intOf i).toNat)
                        case atStart => exact ⟨0, rfl, by omega, 0, rfl⟩
                        case round =>
                          obtain ⟨j, rfl, hj, q, rfl⟩ := hrel
                          by_cases hlt : j < kn
                          · have hjz : j < zs.length := by rw [HN1.out]; omega
                            obtain ⟨fb, foff, hfa, hfB, hfc⟩ := HS89.out (by simp; omega)
                            subst hfa
                            obtain ⟨ob, ooff, hoa, hoB, hoc⟩ := HS79.out (by simp; omega)
                            subst hoa
                            have hf := hfc j (by simp; omega)
                            have ho := hoc j (by simpa using hjz)
                            rw [got_take ss zs kn j hjz hlt] at hf
                            obtain ⟨s, hs⟩ : ∃ s, s = (zs.map (idAt ss)).getD j ByteArray.empty := ⟨_, rfl⟩
                            rw [← hs] at hf ho
                            clear hfc hoc hs hjz
                            have hj1 : (j : Int) < (kn : Int) := by omega
                            have hj2 : (j : Int) < (n1 : Int) := by omega
                            go_wp2_with fail
                            go_quiet (fail)
                            go_wp2_with fail
                            go_roundw
                            case rel => exact ⟨j + 1, by go_num, by omega, _, rfl⟩
                            case measure => simp [intOf]; omega
                          · go_wp2_with fail
                            go_loopw [18] (fun i wr => ∃ j : Nat, i = .int .i64 j ∧ j ≤ n1 - kn ∧ ∃ q, wr = w9.drewN q) (fun i _ => (n1 - kn) - (intOf i).toNat)
                            case atStart => exact ⟨0, rfl, by omega, q, rfl⟩
                            case round =>
                              clear hj hlt
                              obtain ⟨j2, rfl, hj, q, rfl⟩ := hrel
                              by_cases hlt : j2 < n1 - kn
                              · obtain ⟨fb, foff, hfa, hfB, hfc⟩ := HS9.out (by simp [HN1.out]; omega)
                                subst hfa
                                obtain ⟨ob, ooff, hoa, hoB, hoc⟩ := HS79.out (by simp [HN1.out]; omega)
                                subst hoa
                                have hf := hfc j2 (by simp [HN1.out]; omega)
                                have ho := hoc (kn + j2) (by simp [HN1.out]; omega)
                                rw [got_drop ss zs kn j2] at hf
                                obtain ⟨s, hs⟩ : ∃ s, s = (zs.map (idAt ss)).getD (kn + j2) ByteArray.empty := ⟨_, rfl⟩
                                rw [← hs] at hf ho
                                clear hfc hoc hs
                                have hj1 : (j2 : Int) < ((n1 - kn : Nat) : Int) := by omega
                                have hj2 : (kn : Int) + (j2 : Int) < (n1 : Int) := by omega
                                go_wp2_with fail
                                go_quiet (fail)
                                go_wp2_with fail
                                go_roundw
                                case rel => exact ⟨j2 + 1, by go_num, by omega, _, rfl⟩
                                case measure => simp [intOf]; omega
                              · go_wp2_with fail
                                go_ret
                                exact ⟨rfl, below_drewN HB9.out _⟩

end Go.Proofs.Qxb6608735a
