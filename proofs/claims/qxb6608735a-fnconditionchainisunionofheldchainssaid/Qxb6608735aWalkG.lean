import Derived.Test.Qxb6608735aWalkF
namespace Go.Proofs.Qxb6608735a
open Go.RowKit Go.Maps Go.WideMaps
set_option linter.unusedVariables false

theorem sameStrings_yes (a b : Option Addr) (n ca cb B : Nat) (ss : List ByteArray) (w : World) (h1 : HasS w B a ss) (h2 : HasS w B b ss) (hn : ss.length = n) (hm : n ≤ 4096) :
    Calls Try.prog 19 #[.slice a n ca, .slice b n cb] w fun e w' => e = .returned (.bool true) ∧ ∃ q, w' = w.drewN q := by
  have H1 := hid_of h1
  have H2 := hid_of h2
  have HN := hid_of hn
  clear h1 h2 hn
  go_enter Try.func19, Try.ntmps19
  go_wp2_with fail
  go_loopw [5] (fun t wr => ∃ k : Nat, t = .int .i64 k ∧ k ≤ n ∧ ∃ q, wr = w.drewN q) (fun t _ => n - (intOf t).toNat)
  case atStart => exact ⟨0, rfl, by omega, 0, rfl⟩
  case round =>
    obtain ⟨k, rfl, hk, q, rfl⟩ := hrel
    by_cases hlt : k < n
    · obtain ⟨fb, foff, rfl, hfB, hfc⟩ := H1.out (by rw [HN.out]; omega)
      obtain ⟨ob, ooff, rfl, hoB, hoc⟩ := H2.out (by rw [HN.out]; omega)
      have hf := hfc k (by rw [HN.out]; omega)
      have ho := hoc k (by rw [HN.out]; omega)
      obtain ⟨s, hs⟩ : ∃ s, s = ss.getD k ByteArray.empty := ⟨_, rfl⟩
      rw [← hs] at hf ho
      clear hfc hoc hs
      have hj1 : (k : Int) < (n : Int) := by omega
      go_wp2_with fail
      go_quiet (fail)
      go_wp2_with fail
      go_roundw
      case rel => exact ⟨k + 1, by go_num, by omega, _, rfl⟩
      case measure => simp [intOf]; omega
    · go_wp2_with fail
      go_ret
      exact ⟨rfl, q, rfl⟩

/-- the key of position y in round r: its low 32 bits are y -/
theorem low_or (r y : Int) (h0 : 0 ≤ y) (h1 : y < 4294967296) : wrap32 (bits BinOp.or IntKind.i64 (r * 4294967296) y) = wrap32 y := by
  have e : (BitVec.ofInt 64 (r * 4294967296) ||| BitVec.ofInt 64 y).toNat = 4294967296 * (r % 4294967296).toNat + y.toNat := by
    rw [BitVec.toNat_or, BitVec.toNat_ofInt, BitVec.toNat_ofInt]
    have e1 : (r * 4294967296 % ((2 ^ 64 : Nat) : Int)).toNat = 2 ^ 32 * (r % 4294967296).toNat := by omega
    have e2 : (y % ((2 ^ 64 : Nat) : Int)).toNat = y.toNat := by omega
    rw [e1, e2, ← Nat.two_pow_add_eq_or_of_lt (by omega)]
  show wrap32 (IntKind.i64.wrap (((BitVec.ofInt 64 (r * 4294967296) ||| BitVec.ofInt 64 y).toNat : Nat) : Int)) = wrap32 y
  rw [e]
  simp only [IntKind.wrap, IntKind.signed, IntKind.bits, wrap32]
  simp only [Bool.true_and]
  split <;> omega

def mv (r z : Int) : Int := bits BinOp.or IntKind.i64 (r * 4294967296) (z % 4294967296)
theorem mv_low (r z : Int) : wrap32 (mv r z) = wrap32 z := by
  unfold mv
  rw [low_or r _ (by omega) (by omega)]
  unfold wrap32
  omega
theorem mv_nat (r : Int) (p : Nat) (h : p < 4294967296) : mv r p = bits BinOp.or IntKind.i64 (r * 4294967296) p := by
  unfold mv
  rw [show (p : Int) % 4294967296 = p from by omega]
theorem ids_mv (ss : List ByteArray) (zs : List Int) (r : Int) : (zs.map (mv r)).map (idAt ss) = zs.map (idAt ss) := by
  rw [List.map_map]
  apply List.map_congr_left
  intro z _
  simp only [Function.comp_apply, idAt, mv_low]
theorem named_mv {zs : List Int} {n : Int} (r : Int) (h : Named zs n) : Named (zs.map (mv r)) n := by
  intro i hi
  have hi' : i < zs.length := by simpa using hi
  have := h i hi'
  simp only [List.getD, List.getElem?_map, List.getElem?_eq_getElem hi', Option.map_some, Option.getD_some] at this ⊢
  rw [mv_low]
  exact this
theorem got_mv {zs : List Int} {r : Int} {i : Nat} (h : i < zs.length) : (zs.map (mv r)).getD i 0 = mv r (zs.getD i 0) := by
  simp [List.getElem?_eq_getElem h]
/-- the keys of every position -/
def everyKey (r : Int) (n : Nat) : List Int := (List.range n).map (fun p : Nat => mv r (p : Int))
theorem len_every (r : Int) (n : Nat) : (everyKey r n).length = n := by simp [everyKey]
theorem got_every (r : Int) (n i : Nat) (h : i < n) : (everyKey r n).getD i 0 = mv r i := by
  simp [everyKey, List.getElem?_range h]
theorem wrap32_nat (p : Nat) (h : p ≤ 4096) : wrap32 (p : Int) = p := by unfold wrap32; omega
theorem named_every (r : Int) (n : Nat) (h : n ≤ 4096) : Named (everyKey r n) n := by
  intro i hi
  have hi' : i < n := by rw [len_every] at hi; exact hi
  rw [got_every r n i hi', mv_low, wrap32_nat i (by omega)]
  omega
theorem ids_every (ss : List ByteArray) (r : Int) (h : ss.length ≤ 4096) : (everyKey r ss.length).map (idAt ss) = ss := by
  apply List.ext_getElem
  · simp [len_every]
  · intro i h1 h2
    have hi : i < ss.length := h2
    simp only [everyKey, List.getElem_map, List.getElem_range, idAt, mv_low]
    rw [wrap32_nat i (by omega)]
    simp [List.getElem?_eq_getElem hi]
theorem Filled.hasI_of {w : World} {g n B : Nat} {k : IntKind} {zs : List Int} {f : Nat → Int} {e : TypeId} (h : Filled w g n n (fun i => .int k (f i)) e) (hn : zs.length = n) (hf : ∀ i, i < n → zs.getD i 0 = f i) (hB : g < B) : HasI k w B (some ⟨g, 0, none⟩) zs := by
  refine Filled.hasI (n := n) (e := e) ?_ hn hB
  obtain ⟨L, h1, h2, h3⟩ := h
  exact ⟨L, h1, h2, fun i hi => by rw [h3 i hi]; show some (Value.int k (f i)) = some (Value.int k (zs.getD i 0)); rw [hf i hi]⟩

set_option maxRecDepth 20000 in
set_option maxHeartbeats 1000000 in
theorem law4 (a0 a1 : Option Addr) (n0 c0 n1 c1 : Nat) (ss : List ByteArray) (zs : List Int) (r : Int) (w : World)
    (hS : HasS w w.heap.size a0 ss) (hI : HasI .i64 w w.heap.size a1 zs) (hn0 : ss.length = n0) (hn1 : zs.length = n1) (hm0 : n0 ≤ maxLen) (hm1 : n1 ≤ c1) (hc1 : c1 ≤ maxLen) (hr0 : -2147483648 ≤ r) (hr1 : r ≤ 2147483647) :
    Calls Try.prog 4 #[.slice a0 n0 c0, .slice a1 n1 c1, .int .i32 r] w fun e w' => e = .returned (.bool true) ∧ Below w.heap.size w w' := by
  have hneq := fun w => run_neq_slice_nil_any (P := Try.prog) w 23 2 a1 n1 c1 0 0 Try.underlying23
  have HG := hid_of (guard18 a0 a1 n0 c0 n1 c1 _ ss r w hS hn0 hm0 (Nat.le_trans hm1 hc1))
  have HS := hid_of hS
  have HI := hid_of hI
  have HN0 := hid_of hn0
  have HN1 := hid_of hn1
  have HM0 := hid_of hm0
  unfold maxLen at hc1
  clear hS hI hn0 hn1 hm0
  go_enter Try.func4, Try.ntmps4
  go_wp2_with fail
  refine HG.out.mono ?_
  rintro e w' ⟨⟨rr, rfl⟩, hw⟩
  subst w'
  cases rr
  · go_wp2_with fail
    go_ret
    exact ⟨rfl, Below.refl _ _⟩
  · by_cases hb : (4096 : Int) < (n1 : Int)
    · have hd := dec_yes hb
      clear hb
      go_wp2_with fail
      go_ret
      exact ⟨rfl, Below.refl _ _⟩
    · have hd := dec_no hb
      have hn1 : n1 ≤ 4096 := by omega
      clear hb
      go_wp2_with fail
      refine (strBytes _ a0 n0 c0 _ ss w HS.out HN0.out HM0.out (by omega) (by omega)).mono ?_
      rintro e w' ⟨⟨rs, rfl, hrs⟩, hw⟩
      subst w'
      have HR := hid_of hrs
      clear hrs
      by_cases hr1' : (1048576 : Int) < rs
      · have hd1 := dec_yes hr1'
        clear hr1'
        go_wp2_with fail
        go_ret
        exact ⟨rfl, Below.refl _ _⟩
      · have hd1 := dec_no hr1'
        have hn0 : n0 ≤ 4096 := HR.out (by omega)
        clear hr1' HR
        go_wp2_with fail
        refine (keysNamed a1 n1 c1 _ zs _ w HI.out HN1.out (by unfold maxLen; omega)).mono ?_
        rintro e w' ⟨⟨rk, rfl, hrk⟩, hw⟩
        subst w'
        have HRK := hid_of hrk
        clear hrk
        cases rk
        · go_wp2_with fail
          go_ret
          exact ⟨rfl, Below.refl _ _⟩
        · have HS00 : Hid (ss.length ≤ 4096) := by show _ ≤ _; rw [HN0.out]; exact hn0
          have HNM : Hid (Named zs ss.length) := by have := HRK.out rfl; rw [← HN0.out] at this; exact this
          clear HRK
          go_upto_if 34 with fail
          go_cut [1] (fun s wc => ∃ a c, s = .slice a n1 c ∧ n1 ≤ c ∧ c ≤ 9223372036854775807 ∧ HasI .i64 wc wc.heap.size a zs ∧ Below w.heap.size w wc)
          case first =>
            cases ha : a1 with
            | none =>
              subst ha
              have hz := HI.out.of_none
              go_wp2_with fail
              go_meet
              case rel =>
                exact ⟨none, c1, rfl, hm1, hc1, fun h => absurd h (by rw [hz]; simp), Below.refl _ _⟩
            | some ad =>
              subst ha
              obtain ⟨i0, hi, hz0, hz1, hz2⟩ := info_parts info2
              go_wp2_with (at_make; refine wpList_make_full _ rfl _ _ 23 rfl w.heap.size 2 i0 (.int .i64 0) 1 Try.underlying23 hi hz0 hz1 _ _ _ _ n1 rfl rfl rfl rfl (by rw [hz2]; omega) (by unfold maxLen; omega) (Nat.le_refl _) ?_)
              intro w1 hown hgrow
              obtain ⟨L, hrow, hlen⟩ := row_some hown
              have HB1 : Hid (Below w.heap.size w w1) := (Below.refl _ _).grown hgrow (Nat.le_refl _) (fun k h => by cases h)
              have HI1 := hid_of (HI.out.below HB1.out (Nat.le_refl _))
              have HRow := hid_of hrow
              have HLen := hid_of hlen
              clear hown hgrow hrow hlen hneq hi hz0 hz1 hz2
              go_wp2_with (with_reducible refine at_copy ?_; refine wpList_copy_splice rfl _ _ 23 23 rfl 2 Try.underlying23 size2 _ _ _ _ _ _ rfl rfl w.heap.size 0 L 2 HRow.out (zs.map (Value.int .i64)) (by simp [HN1.out]) (hpos_of HI1.out) (by simp [HN1.out, HLen.out]) (ints_oneCell _ _) w.heap.size w HB1.out (Nat.le_refl _) ?_)
              intro w2 HG2 hB2
              have hg2 := HG2.out
              rw [splice_all _ _ (by simp [HN1.out, HLen.out])] at hg2
              have HI2 := hid_of (hasI_row hg2 (row_lt hg2))
              have HB2 := hid_of hB2
              clear HG2 hg2 hB2
              go_wp2_with fail
              go_meet
              case rel => exact ⟨_, n1, rfl, Nat.le_refl _, by omega, HI2.out, HB2.out⟩
          case rest =>
            rename World => wb
            obtain ⟨a, c, rfl, hnc, hcm, hI2, hB2⟩ := hcut
            have HI2 := hid_of hI2
            have HB2 := hid_of hB2
            have HS2 := hid_of ((HS.out.below hB2 (Nat.le_refl _)).mono hB2.size)
            clear hI2 hB2 HS HI HG hneq hd hd1 hc1 hm1
            go_wp2_with fail
            refine (copyStrings a0 n0 c0 _ ss wb HS2.out (Nat.le_refl _) HN0.out hn0).mono ?_
            rintro e w4 ⟨a4, c4, rfl, hs4, hb4⟩
            have HS4 := hid_of hs4
            have HI4 := hid_of ((HI2.out.below hb4 (Nat.le_refl _)).mono hb4.size)
            have HB4 := hid_of (HB2.out.trans (hb4.mono HB2.out.size))
            have HA4 := hid_of ((HS2.out.below hb4 (Nat.le_refl _)).mono hb4.size)
            clear hs4 hb4 HI2 HB2 HS2
            go_wp2_with fail
            refine (newHolding a4 n0 c4 _ ss w4 HS4.out (Nat.le_refl _) HN0.out).mono ?_
            rintro e w5 ⟨rfl, hb5, hh5⟩
            obtain ⟨w6, hw6⟩ : ∃ w6, w6 = w5.alloc (.cells #[.pointer (some ⟨w4.heap.size + 1 + 1 + 1, 0, none⟩)] 32) := ⟨_, rfl⟩
            have hb6 : Below w5.heap.size w5 w6 := by rw [hw6]; exact (Below.refl _ _).alloc (Nat.le_refl _) _
            have hb46 : Below w4.heap.size w4 w6 := hb5.trans (hb6.mono hb5.size)
            have hs56 : w5.heap.size < w6.heap.size := by rw [hw6]; simp
            have HH6 := hid_of ((hh5.below hb6 (Nat.le_refl _)).mono hb6.size)
            have HI6 := hid_of ((HI4.out.below hb46 (Nat.le_refl _)).mono hb46.size)
            have HA6 := hid_of ((HA4.out.below hb46 (Nat.le_refl _)).mono hb46.size)
            have HB6 := hid_of (HB4.out.trans (hb46.mono HB4.out.size))
            have HC6 : Hid (w6.cell? ⟨w5.heap.size, 0, none⟩ = some (.pointer (some ⟨w4.heap.size + 1 + 1 + 1, 0, none⟩))) := by show _ = _; rw [hw6, World.cell?_alloc_new]; rfl
            have HL6 := hid_of hs56
            have HW6 := hid_of hw6
            clear hb5 hh5 hb6 hb46 HS4 HI4 HA4 HB4 hs56 hw6
            obtain ⟨i0, hi, hz0, hz1, hz2⟩ := info_parts info2
            go_wp2_with (at_make; rw [← HW6.out]; refine wpList_make_full _ rfl _ _ 23 rfl w6.heap.size 2 i0 (.int .i64 0) 1 Try.underlying23 hi hz0 hz1 _ _ _ _ n1 rfl rfl rfl rfl (by rw [hz2]; omega) (by unfold maxLen; omega) (Nat.le_refl _) ?_)
            intro w7 hown hgrow
            have HF7 := hid_of (Filled.made (fun i => .int .i64 (mv r (zs.getD i 0))) hown)
            have HB7 : Hid (Below w6.heap.size w6 w7) := (Below.refl _ _).grown hgrow (Nat.le_refl _) (fun k h => by cases h)
            clear hown hgrow HW6
            go_wp2_with fail
            go_loopw [10] (fun i wr => ∃ j : Nat, i = .int .i64 j ∧ j ≤ n1 ∧ Filled wr w6.heap.size n1 j (fun i => .int .i64 (mv r (zs.getD i 0))) 2 ∧ Below w6.heap.size w6 wr) (fun i _ => n1 - (intOf i).toNat)
            case atStart => exact ⟨0, rfl, by omega, HF7.out, HB7.out⟩
            case round =>
              obtain ⟨j, rfl, hj, hf, hbel⟩ := hrel
              have HF8 := hid_of hf
              have HB8 := hid_of hbel
              clear hf hbel HF7 HB7
              by_cases hlt : j < n1
              · obtain ⟨b, off, hab, hbB, hcz⟩ := HI6.out (by rw [HN1.out]; omega)
                subst hab
                have hcell : wr.cell? ⟨b, off + j, none⟩ = some (.int .i64 (zs.getD j 0)) := by
                  rw [HB8.out.cell (p := ⟨b, off + j, none⟩) hbB]; exact hcz j (by rw [HN1.out]; exact hlt)
                obtain ⟨z, hz⟩ : ∃ z, z = zs.getD j 0 := ⟨_, rfl⟩
                rw [← hz] at hcell
                have HZ := hid_of hz
                clear hz hcz
                obtain ⟨v, hv⟩ := HF8.out.cell hlt
                have hfz := HF8.out.frozen j
                go_wp2_with fail
                go_roundw
                case rel => exact ⟨j + 1, by go_num, by omega, HF8.out.step hlt (by rw [← HZ.out]; rfl), HB8.out.setCell (p := ⟨w6.heap.size, j, none⟩) (Nat.le_refl _) _⟩
                case measure => simp [intOf]; omega
              · rename World => w8
                have hjn : j = n1 := by omega
                have hf9 := HF8.out
                rw [hjn] at hf9
                have HM8 := hid_of (Filled.hasI_of (zs := zs.map (mv r)) hf9 (by simpa using HN1.out) (fun i hi => got_mv (by rw [HN1.out]; exact hi)) hf9.lt)
                have HH8 := hid_of ((HH6.out.below HB8.out (Nat.le_refl _)).mono HB8.out.size)
                have HI8 := hid_of ((HI6.out.below HB8.out (Nat.le_refl _)).mono HB8.out.size)
                have HA8 := hid_of ((HA6.out.below HB8.out (Nat.le_refl _)).mono HB8.out.size)
                have HB8' := hid_of (HB6.out.trans (HB8.out.mono HB6.out.size))
                have HC8 := hid_of ((HB8.out.cell (p := ⟨w5.heap.size, 0, none⟩) HL6.out).trans HC6.out)
                have HL8 : Hid (w5.heap.size < w8.heap.size) := Nat.lt_of_lt_of_le HL6.out HB8.out.size
                clear hjn hf9 HF8 HB8 HH6 HI6 HA6 HB6 HC6 HL6
                go_wp2_with (at_make; refine wpList_make_full _ rfl _ _ 23 rfl w8.heap.size 2 i0 (.int .i64 0) 1 Try.underlying23 hi hz0 hz1 _ _ _ _ n0 rfl rfl rfl rfl (by rw [hz2]; omega) (by unfold maxLen; omega) (Nat.le_refl _) ?_)
                intro w9 hown hgrow
                have HF9 := hid_of (Filled.made (fun i => .int .i64 (mv r (i : Int))) hown)
                have HB9 : Hid (Below w8.heap.size w8 w9) := (Below.refl _ _).grown hgrow (Nat.le_refl _) (fun k h => by cases h)
                clear hown hgrow hi hz0 hz1 hz2
                go_wp2_with fail
                go_loopw [12] (fun i wq => ∃ p : Nat, i = .int .i64 p ∧ p ≤ n0 ∧ Filled wq w8.heap.size n0 p (fun i => .int .i64 (mv r (i : Int))) 2 ∧ Below w8.heap.size w8 wq) (fun i _ => n0 - (intOf i).toNat)
                case atStart => exact ⟨0, rfl, by omega, HF9.out, HB9.out⟩
                case round =>
                  obtain ⟨p, rfl, hp, hf, hbel⟩ := hrel
                  have HF10 := hid_of hf
                  have HB10 := hid_of hbel
                  clear hf hbel HF9 HB9 hlt hj
                  by_cases hlt : p < n0
                  · obtain ⟨v, hv⟩ := HF10.out.cell hlt
                    have hfz := HF10.out.frozen p
                    have HMV := hid_of (mv_nat r p (by omega))
                    go_wp2_with fail
                    go_roundw
                    case rel => exact ⟨p + 1, by go_num, by omega, HF10.out.step hlt (by show _ = Value.int .i64 (mv r (p : Int)); rw [HMV.out]), HB10.out.setCell (p := ⟨w8.heap.size, p, none⟩) (Nat.le_refl _) _⟩
                    case measure => simp [intOf]; omega
                  · rename World => w10
                    have hpn : p = n0 := by omega
                    have hf9 := HF10.out
                    rw [hpn] at hf9
                    have hE := Filled.hasI_of (zs := everyKey r n0) hf9 (len_every r n0) (fun i hi => got_every r n0 i hi) hf9.lt
                    have HE10 := hid_of hE
                    have HM10 := hid_of ((HM8.out.below HB10.out (Nat.le_refl _)).mono HB10.out.size)
                    have HH10 := hid_of ((HH8.out.below HB10.out (Nat.le_refl _)).mono HB10.out.size)
                    have HI10 := hid_of ((HI8.out.below HB10.out (Nat.le_refl _)).mono HB10.out.size)
                    have HA10 := hid_of ((HA8.out.below HB10.out (Nat.le_refl _)).mono HB10.out.size)
                    have HB10' := hid_of (HB8'.out.trans (HB10.out.mono HB8'.out.size))
                    have hc10 := (HB10.out.cell (p := ⟨w5.heap.size, 0, none⟩) HL8.out).trans HC8.out
                    have HL10 : Hid (w5.heap.size < w10.heap.size) := Nat.lt_of_lt_of_le HL8.out HB10.out.size
                    clear hpn hf9 hE HF10 HB10 HM8 HH8 HI8 HA8 HB8' HC8 HL8
                    go_wp2_with fail
                    refine (callIds_any _ _ ss a n1 c zs w10 HH10.out (Nat.le_refl _) HI10.out HN1.out hn1 HNM.out HS00.out).mono ?_
                    rintro e w11 ⟨a11, c11, rfl, hn11, hs11, hb11⟩
                    have hc11 := (hb11.cell (p := ⟨w5.heap.size, 0, none⟩) HL10.out).trans hc10
                    have HO11 := hid_of hs11
                    have HE11 := hid_of ((HE10.out.below hb11 (Nat.le_refl _)).mono hb11.size)
                    have HM11 := hid_of ((HM10.out.below hb11 (Nat.le_refl _)).mono hb11.size)
                    have HH11 := hid_of ((HH10.out.below hb11 (Nat.le_refl _)).mono hb11.size)
                    have HA11 := hid_of ((HA10.out.below hb11 (Nat.le_refl _)).mono hb11.size)
                    have HB11 := hid_of (HB10'.out.trans (hb11.mono HB10'.out.size))
                    have HL11 : Hid (w5.heap.size < w11.heap.size) := Nat.lt_of_lt_of_le HL10.out hb11.size
                    clear hc10 hn11 hs11 hb11 HE10 HM10 HH10 HI10 HA10 HB10' HL10
                    go_wp2_with fail
                    refine (callIds_any _ _ ss _ n1 _ (zs.map (mv r)) w11 HH11.out (Nat.le_refl _) HM11.out (by simpa using HN1.out) hn1 (named_mv r HNM.out) HS00.out).mono ?_
                    rintro e w12 ⟨a12, c12, rfl, hn12, hs12, hb12⟩
                    rw [ids_mv] at hs12
                    have hc12 := (hb12.cell (p := ⟨w5.heap.size, 0, none⟩) HL11.out).trans hc11
                    have HO12 := hid_of ((HO11.out.below hb12 (Nat.le_refl _)).mono hb12.size)
                    have HP12 := hid_of hs12
                    have HE12 := hid_of ((HE11.out.below hb12 (Nat.le_refl _)).mono hb12.size)
                    have HH12 := hid_of ((HH11.out.below hb12 (Nat.le_refl _)).mono hb12.size)
                    have HA12 := hid_of ((HA11.out.below hb12 (Nat.le_refl _)).mono hb12.size)
                    have HB12 := hid_of (HB11.out.trans (hb12.mono HB11.out.size))
                    have HL12 : Hid (w5.heap.size < w12.heap.size) := Nat.lt_of_lt_of_le HL11.out hb12.size
                    clear hc11 hn12 hs12 hb12 HO11 HE11 HM11 HH11 HA11 HB11 HL11
                    go_wp2_with fail
                    refine (sameStrings_yes a11 a12 n1 _ _ _ _ w12 HO12.out HP12.out (by simpa using HN1.out) hn1).mono ?_
                    rintro e w13 ⟨rfl, q, rfl⟩
                    go_wp2_with fail
                    have HNE : Hid (Named (everyKey r n0) ss.length) := by have := named_every r n0 hn0; rw [← HN0.out] at this ⊢; exact this
                    refine (callIds_any _ _ ss _ n0 _ (everyKey r n0) (w12.drewN q) (HH12.out.drewN q) (Nat.le_refl _) (HE12.out.drewN q) (len_every r n0) hn0 HNE.out HS00.out).mono ?_
                    rintro e w14 ⟨a14, c14, rfl, hn14, hs14, hb14⟩
                    have HP14 : Hid (HasS w14 w14.heap.size a14 ss) := by have h := hs14; rw [← HN0.out, ids_every ss r HS00.out] at h; exact h
                    have HA14 := hid_of (((HA12.out.drewN q).below hb14 (Nat.le_refl _)).mono hb14.size)
                    have HB14 := hid_of ((below_drewN HB12.out q).trans (hb14.mono HB12.out.size))
                    clear hn14 hs14 hb14 hc12
                    go_wp2_with fail
                    refine (sameStrings_yes a14 a0 n0 _ _ _ ss w14 HP14.out HA14.out HN0.out hn0).mono ?_
                    rintro e w15 ⟨rfl, q2, rfl⟩
                    go_wp2_with fail
                    go_ret
                    exact ⟨rfl, below_drewN HB14.out _⟩

end Go.Proofs.Qxb6608735a
