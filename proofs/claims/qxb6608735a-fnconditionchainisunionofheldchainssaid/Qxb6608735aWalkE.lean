import Derived.Test.Qxb6608735aWalkD
import Derived.Deep.RegionWith
namespace Go.Proofs.Qxb6608735a
open Go.RowKit
set_option linter.unusedVariables false

/-- the holding at block hb names the ids ss, below B -/
structure HoldIds (w : World) (B hb : Nat) (ss : List ByteArray) : Prop where
  lt : hb < B
  ex : ∃ nb ia mc, nb < B ∧ w.cell? ⟨hb, 0, none⟩ = some (.pointer (some ⟨nb, 0, none⟩)) ∧ w.cell? ⟨nb, 1, none⟩ = some (.slice ia ss.length mc) ∧ HasS w B ia ss

theorem HoldIds.below {w w' : World} {B B' hb : Nat} {ss : List ByteArray} (h : HoldIds w B hb ss) (hb' : Below B' w w') (hB : B ≤ B') : HoldIds w' B hb ss := by
  obtain ⟨nb, ia, mc, hnb, hc0, hc1, hI⟩ := h.ex
  refine ⟨h.lt, nb, ia, mc, hnb, ?_, ?_, hI.below hb' hB⟩
  · rw [hb'.cell (p := ⟨hb, 0, none⟩) (Nat.lt_of_lt_of_le h.lt hB)]; exact hc0
  · rw [hb'.cell (p := ⟨nb, 1, none⟩) (Nat.lt_of_lt_of_le hnb hB)]; exact hc1
theorem HoldIds.mono {w : World} {B B' hb : Nat} {ss : List ByteArray} (h : HoldIds w B hb ss) (hB : B ≤ B') : HoldIds w B' hb ss := by
  obtain ⟨nb, ia, mc, hnb, hc0, hc1, hI⟩ := h.ex
  exact ⟨Nat.lt_of_lt_of_le h.lt hB, nb, ia, mc, Nat.lt_of_lt_of_le hnb hB, hc0, hc1, hI.mono hB⟩

theorem HoldIds.drewN {w : World} {B hb : Nat} {ss : List ByteArray} (h : HoldIds w B hb ss) (q : Nat) : HoldIds (w.drewN q) B hb ss := ⟨h.lt, h.ex⟩
theorem HoldIds.drew {w : World} {B hb : Nat} {ss : List ByteArray} (h : HoldIds w B hb ss) : HoldIds w.drew B hb ss := ⟨h.lt, h.ex⟩

theorem newHolding (a : Option Addr) (n c B : Nat) (ss : List ByteArray) (w : World) (h : HasS w B a ss) (hB : B ≤ w.heap.size) (hn : ss.length = n) :
    Calls Try.prog 15 #[.slice a n c] w fun e w' => e = .returned (.agg #[.pointer (some ⟨w.heap.size + 1 + 1 + 1, 0, none⟩)]) ∧ Below w.heap.size w w' ∧ HoldIds w' w'.heap.size (w.heap.size + 1 + 1 + 1) ss := by
  have HS := hid_of h
  have HN := hid_of hn
  clear h hn
  go_enter Try.func15, Try.ntmps15
  go_wp2_with fail
  have hbel : ∀ o1 o2 o3 o4, Below w.heap.size w ((((w.alloc o1).alloc o2).alloc o3).alloc o4) := fun o1 o2 o3 o4 => ((((Below.refl _ _).alloc (Nat.le_refl _) _).alloc (by simp) _).alloc (by simp; omega) _).alloc (by simp; omega) _
  refine bodyPost_ret (v := .agg #[.pointer (some ⟨w.heap.size + 1 + 1 + 1, 0, none⟩)]) (by simp [results, Try.results15, go_sem]) rfl ⟨rfl, hbel _ _ _ _, ?_⟩
  refine ⟨by simp, w.heap.size + 1 + 1, a, c, by simp, ?_, ?_, ((HS.out).below (hbel _ _ _ _) hB).mono (by simp; omega)⟩
  · simp [go_sem]
  · simp [go_sem, HN.out]

/-- the string at a key -/
def idAt (ss : List ByteArray) (z : Int) : ByteArray := ss.getD (wrap32 z).toNat ByteArray.empty

theorem mappingOf_nat (z : Int) (p : Nat) (h : wrap32 z = p) (w : World) : Calls Try.prog 46 #[.int .i64 z] w fun e w' => e = .returned (.int .i64 p) ∧ w' = w := by
  rw [← h]; exact mappingOf z w

theorem hasS_ids {w : World} {g n : Nat} {ss : List ByteArray} {zs : List Int} (h : Filled w g n n (fun i => .string (idAt ss (zs.getD i 0))) 9) (hn : zs.length = n) : HasS w w.heap.size (some ⟨g, 0, none⟩) (zs.map (idAt ss)) := by
  refine Filled.hasS (n := n) (e := 9) ?_ (by simpa using hn) h.lt
  obtain ⟨L, h1, h2, h3⟩ := h
  refine ⟨L, h1, h2, fun i hi => ?_⟩
  rw [h3 i hi]
  have : i < zs.length := by omega
  simp [List.getElem?_eq_getElem this]

set_option maxHeartbeats 1000000 in
theorem ids_some (hb B : Nat) (ss : List ByteArray) (a : Option Addr) (n c : Nat) (zs : List Int) (w : World) (hh : HoldIds w B hb ss) (hB : B ≤ w.heap.size) (h : HasI .i64 w B a zs) (hn : zs.length = n) (hn0 : 0 < n) (hm : n ≤ 4096) (hnm : Named zs ss.length) (hss : ss.length ≤ 4096) :
    Calls Try.prog 43 #[.agg #[.pointer (some ⟨hb, 0, none⟩)], .slice a n c] w fun e w' => ∃ g, e = .returned (.slice (some ⟨g, 0, none⟩) n n) ∧ HasS w' w'.heap.size (some ⟨g, 0, none⟩) (zs.map (idAt ss)) ∧ Below w.heap.size w w' := by
  obtain ⟨nb, ia, mc, hnb, hc0, hc1, hI⟩ := hh.ex
  obtain ⟨b, off, rfl, hbB, hcz⟩ := h (by omega)
  obtain ⟨i0, hi, hz0, hz1, hz2⟩ := info_parts info9
  have HLT := hid_of hh.lt
  have HI := hid_of hI
  have HC0 := hid_of hc0
  have HC1 := hid_of hc1
  have HZ := hid_of hcz
  have HN := hid_of hn
  have HM := hid_of hnm
  clear hh hI hc0 hc1 hcz hn hnm h
  have h0 : ((n : Int) == 0) = false := by simp; omega
  go_enter Try.func43, Try.ntmps43
  go_wp2_with (at_make; refine wpList_make_full _ rfl _ _ 22 rfl w.heap.size 9 i0 (.string ByteArray.empty) 1 Try.underlying22 hi hz0 hz1 _ _ _ _ n rfl rfl rfl rfl (by rw [hz2]; omega) (by unfold maxLen; omega) (by simp) ?_)
  intro w1 hown hgrow
  have HF := hid_of (Filled.made (fun i => .string (idAt ss (zs.getD i 0))) hown)
  obtain ⟨W, hW⟩ : ∃ W, W = w.alloc (.cells #[.pointer (some ⟨hb, 0, none⟩)] 32) := ⟨_, rfl⟩
  have hsz : W.heap.size = w.heap.size + 1 := by rw [hW]; simp
  rw [← hW] at hgrow
  have HB1 : Hid (Below (w.heap.size + 1) W w1) := (Below.refl _ _).grown hgrow (by omega) (fun k h => by cases h)
  have HWb : Hid (Below w.heap.size w W) := by rw [hW]; exact (Below.refl _ _).alloc (Nat.le_refl _) _
  have HWc : Hid (W.cell? ⟨w.heap.size, 0, none⟩ = some (.pointer (some ⟨hb, 0, none⟩))) := by rw [hW]; show _ = _; rw [World.cell?_alloc_new]; rfl
  clear hown hgrow hW hsz
  go_wp2_with fail
  go_loopw [16] (fun i wr => ∃ k : Nat, i = .int .i64 k ∧ k ≤ n ∧ Filled wr (w.heap.size + 1) n k (fun i => .string (idAt ss (zs.getD i 0))) 9 ∧ Below (w.heap.size + 1) W wr) (fun i _ => n - (intOf i).toNat)
  case atStart => exact ⟨0, rfl, by omega, HF.out, HB1.out⟩
  case round =>
    obtain ⟨k, rfl, hk, hf, hbel⟩ := hrel
    have HF2 := hid_of hf
    have HB2 := hid_of hbel
    have HB3 : Hid (Below w.heap.size w wr) := HWb.out.trans (HB2.out.mono (by omega))
    clear hf hbel HF HB1
    by_cases hlt : k < n
    · obtain ⟨z, hz⟩ : ∃ z, z = zs.getD k 0 := ⟨_, rfl⟩
      have hkz : k < zs.length := by rw [HN.out]; exact hlt
      obtain ⟨hm0, hm1⟩ := HM.out k hkz
      rw [← hz] at hm0 hm1
      obtain ⟨p, hp⟩ : ∃ p : Nat, wrap32 z = p := ⟨(wrap32 z).toNat, by omega⟩
      have hps : p < ss.length := by omega
      obtain ⟨ib, ioff, hia, hibB, hci⟩ := HI.out (by omega)
      subst hia
      have hcz : wr.cell? ⟨b, off + k, none⟩ = some (.int .i64 z) := by
        rw [HB3.out.cell (p := ⟨b, off + k, none⟩) (Nat.lt_of_lt_of_le hbB hB), hz]; exact HZ.out k hkz
      have hch : wr.cell? ⟨w.heap.size, 0, none⟩ = some (.pointer (some ⟨hb, 0, none⟩)) := by
        rw [HB2.out.cell (p := ⟨w.heap.size, 0, none⟩) (by exact Nat.lt_succ_self _)]; exact HWc.out
      have hc0 : wr.cell? ⟨hb, 0, none⟩ = some (.pointer (some ⟨nb, 0, none⟩)) := by
        rw [HB3.out.cell (p := ⟨hb, 0, none⟩) (Nat.lt_of_lt_of_le HLT.out hB)]; exact HC0.out
      have hc1 : wr.cell? ⟨nb, 1, none⟩ = some (.slice (some ⟨ib, ioff, none⟩) ss.length mc) := by
        rw [HB3.out.cell (p := ⟨nb, 1, none⟩) (Nat.lt_of_lt_of_le hnb hB)]; exact HC1.out
      have hcs : wr.cell? ⟨ib, ioff + p, none⟩ = some (.string (ss.getD p ByteArray.empty)) := by
        rw [HB3.out.cell (p := ⟨ib, ioff + p, none⟩) (Nat.lt_of_lt_of_le hibB hB)]; exact hci p hps
      obtain ⟨s, hs⟩ : ∃ s, s = ss.getD p ByteArray.empty := ⟨_, rfl⟩
      rw [← hs] at hcs
      have HSt : Hid (Value.string s = .string (idAt ss (zs.getD k 0))) := by
        show _ = _
        rw [hs, ← hz, idAt, hp]; rfl
      have HMap := hid_of (fun w => mappingOf_nat z p hp w)
      obtain ⟨v, hv⟩ := HF2.out.cell hlt
      have hfz := HF2.out.frozen k
      have hpi : (p : Int) < (ss.length : Int) := by omega
      have HSL := hid_of hss
      clear hz hm0 hm1 hp hci hs hps hkz
      go_wp2_with fail
      go_region_with (go_at_call 46; refine (HMap.out _).mono ?_; rintro e w' ⟨rfl, hw⟩; subst w')
      all_goals
        go_wp2_with fail
        go_roundw
        case rel => exact ⟨k + 1, by go_num, by omega, HF2.out.step hlt HSt.out, (HB2.out.setCell (p := ⟨w.heap.size + 1, k, none⟩) (Nat.le_refl _) _).drew⟩
        case measure => simp [intOf]; omega
    · go_wp2_with fail
      go_ret
      obtain rfl : k = n := by omega
      have hf := HF2.out
      exact ⟨_, rfl, hasS_ids hf HN.out, HB3.out⟩

theorem ids_none (v : Value) (a : Option Addr) (c : Nat) (w : World) :
    Calls Try.prog 43 #[.agg #[v], .slice a 0 c] w fun e w' => e = .returned (.slice none 0 0) ∧ Below w.heap.size w w' := by
  go_enter Try.func43, Try.ntmps43
  go_wp2_with fail
  go_ret
  exact ⟨rfl, (Below.refl _ _).alloc (Nat.le_refl _) _⟩

theorem callIds_none (v : Value) (a : Option Addr) (c : Nat) (w : World) :
    Calls Try.prog 17 #[.agg #[v], .slice a 0 c] w fun e w' => e = .returned (.slice none 0 0) ∧ Below w.heap.size w w' := by
  go_enter Try.func17, Try.ntmps17
  go_wp2_with fail
  refine (ids_none v a c _).mono ?_
  rintro e w' ⟨rfl, hb⟩
  have HB := hid_of hb
  clear hb
  go_wp2_with fail
  go_ret
  exact ⟨rfl, ((Below.refl w.heap.size w).alloc (Nat.le_refl _) _).trans (HB.out.mono (by simp))⟩

theorem callIds_some (hb B : Nat) (ss : List ByteArray) (a : Option Addr) (n c : Nat) (zs : List Int) (w : World) (hh : HoldIds w B hb ss) (hB : B ≤ w.heap.size) (h : HasI .i64 w B a zs) (hn : zs.length = n) (hn0 : 0 < n) (hm : n ≤ 4096) (hnm : Named zs ss.length) (hss : ss.length ≤ 4096) :
    Calls Try.prog 17 #[.agg #[.pointer (some ⟨hb, 0, none⟩)], .slice a n c] w fun e w' => ∃ g, e = .returned (.slice (some ⟨g, 0, none⟩) n n) ∧ HasS w' w'.heap.size (some ⟨g, 0, none⟩) (zs.map (idAt ss)) ∧ Below w.heap.size w w' := by
  have hbel : ∀ o, Below w.heap.size w (w.alloc o) := fun o => (Below.refl _ _).alloc (Nat.le_refl _) _
  have HI := hid_of (fun o => ids_some hb B ss a n c zs (w.alloc o) (hh.below (hbel o) hB) (by simp; omega) (h.below (hbel o) hB) hn hn0 hm hnm hss)
  have HBel := hid_of hbel
  clear hh h hn hnm hbel
  go_enter Try.func17, Try.ntmps17
  go_wp2_with fail
  refine (HI.out _).mono ?_
  rintro e w' ⟨g, rfl, hs, hb⟩
  have HB := hid_of hb
  have HS := hid_of hs
  clear hb hs
  go_wp2_with fail
  go_ret
  exact ⟨g, rfl, HS.out, (HBel.out _).trans (HB.out.mono (by simp))⟩

/-- what ids answers -/
def IdsB (w w' : World) (n : Nat) (out : List ByteArray) (e : Ending) : Prop := ∃ a c, e = .returned (.slice a n c) ∧ a.isNone = ((n : Int) == 0) ∧ HasS w' w'.heap.size a out ∧ Below w.heap.size w w'

theorem callIds_any (hb B : Nat) (ss : List ByteArray) (a : Option Addr) (n c : Nat) (zs : List Int) (w : World) (hh : HoldIds w B hb ss) (hB : B ≤ w.heap.size) (h : HasI .i64 w B a zs) (hn : zs.length = n) (hm : n ≤ 4096) (hnm : Named zs ss.length) (hss : ss.length ≤ 4096) :
    Calls Try.prog 17 #[.agg #[.pointer (some ⟨hb, 0, none⟩)], .slice a n c] w fun e w' => IdsB w w' n (zs.map (idAt ss)) e := by
  by_cases h0 : n = 0
  · subst h0
    obtain rfl : zs = [] := List.eq_nil_of_length_eq_zero hn
    refine (callIds_none _ a c w).mono ?_
    rintro e w' ⟨rfl, hbel⟩
    exact ⟨none, 0, rfl, rfl, fun h => absurd h (by simp), hbel⟩
  · refine (callIds_some hb B ss a n c zs w hh hB h hn (by omega) hm hnm hss).mono ?_
    rintro e w' ⟨g, rfl, hs, hbel⟩
    exact ⟨_, n, rfl, by simp [h0], hs, hbel⟩

end Go.Proofs.Qxb6608735a
