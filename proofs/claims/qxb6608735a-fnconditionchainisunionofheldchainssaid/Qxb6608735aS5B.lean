import Derived.Test.Qxb6608735aS5A
namespace Go.Proofs.Qxb6608735a
open Go.RowKit Go.Maps Go.WideMaps Go.Joins
set_option linter.unusedVariables false

theorem info91 : (Try.prog.info? 91).map (fun i => (i.zero, i.size, i.bytes)) = some (some (.agg #[.string ByteArray.empty, .string ByteArray.empty]), 2, 32) := by kernel_rfl

/-- a slice of names that reads ss as their local parts, below block B -/
def HasN (w : World) (B : Nat) (a : Option Addr) (ss : List ByteArray) : Prop :=
  0 < ss.length → ∃ b off, a = some ⟨b, off, none⟩ ∧ b < B ∧ ∀ i, i < ss.length → w.cell? ⟨b, off + i * 2, none⟩ = some (.string ByteArray.empty) ∧ w.cell? ⟨b, off + i * 2 + 1, none⟩ = some (.string (ss.getD i ByteArray.empty))
theorem HasN.below {w w' : World} {B B' : Nat} {a : Option Addr} {ss : List ByteArray} (h : HasN w B a ss) (hb : Below B' w w') (hB : B ≤ B') : HasN w' B a ss := by
  intro h0
  obtain ⟨b, off, rfl, hlt, hc⟩ := h h0
  refine ⟨b, off, rfl, hlt, fun i hi => ⟨?_, ?_⟩⟩
  · rw [hb.cell (p := ⟨b, off + i * 2, none⟩) (by exact Nat.lt_of_lt_of_le hlt hB)]; exact (hc i hi).1
  · rw [hb.cell (p := ⟨b, off + i * 2 + 1, none⟩) (by exact Nat.lt_of_lt_of_le hlt hB)]; exact (hc i hi).2
theorem HasN.mono {w : World} {B B' : Nat} {a : Option Addr} {ss : List ByteArray} (h : HasN w B a ss) (hB : B ≤ B') : HasN w B' a ss := by
  intro h0
  obtain ⟨b, off, rfl, hlt, hc⟩ := h h0
  exact ⟨b, off, rfl, Nat.lt_of_lt_of_le hlt hB, hc⟩
theorem HasN.drewN {w : World} {B : Nat} {a : Option Addr} {ss : List ByteArray} (h : HasN w B a ss) (n : Nat) : HasN (w.drewN n) B a ss := h

/-- a made row of elements of sz cells each -/
theorem Filled.madeN {w : World} {base sz : Nat} {e : TypeId} {g n : Nat} {xs : List Value} (f : Nat → Value) (h : w.ownsRow base e sz (.slice (some ⟨g, 0, none⟩) n n) n xs) : Filled w g (n * sz) 0 f e := by
  obtain ⟨hl, h | ⟨g', cap, cur, hv, hg, hh, h1, h2, h3, h4⟩⟩ := h
  · simp at h
  · simp only [Value.slice.injEq, Option.some.injEq, Addr.mk.injEq, and_true] at hv
    obtain ⟨rfl, -, rfl⟩ := hv
    exact ⟨cur.toList, by simpa using hh, by simpa using h3, fun i hi => by omega⟩

def nameF (ss : List ByteArray) (i : Nat) : Value := if i % 2 = 0 then .string ByteArray.empty else .string (ss.getD (i / 2) ByteArray.empty)
theorem nameF_even (ss : List ByteArray) (k : Nat) : Value.string ByteArray.empty = nameF ss (k * 2) := by rw [nameF, if_pos (by omega)]
theorem nameF_odd (ss : List ByteArray) (k : Nat) {s : ByteArray} (h : s = ss.getD k ByteArray.empty) : Value.string s = nameF ss (k * 2 + 1) := by
  rw [nameF, if_neg (by omega), show (k * 2 + 1) / 2 = k from by omega, h]
theorem Filled.hasN {w : World} {g n B : Nat} {ss : List ByteArray} {e : TypeId} (h : Filled w g (n * 2) (n * 2) (nameF ss) e) (hn : ss.length = n) (hB : g < B) : HasN w B (some ⟨g, 0, none⟩) ss := by
  obtain ⟨L, h1, h2, h3⟩ := h
  intro _
  refine ⟨g, 0, rfl, hB, fun i hi => ⟨?_, ?_⟩⟩
  · rw [Nat.zero_add, cell_row h1, h3 _ (by omega), ← nameF_even]
  · rw [Nat.zero_add, cell_row h1, h3 _ (by omega), ← nameF_odd ss i rfl]

set_option maxHeartbeats 400000 in
theorem names_any (a : Option Addr) (n c B : Nat) (ss : List ByteArray) (w : World) (h : HasS w B a ss) (hB : B ≤ w.heap.size) (hn : ss.length = n) (hm : n ≤ 4096) :
    Calls Try.prog 24 #[.slice a n c] w fun e w' => e = .returned (.slice (some ⟨w.heap.size, 0, none⟩) n n) ∧ HasN w' w'.heap.size (some ⟨w.heap.size, 0, none⟩) ss ∧ Below w.heap.size w w' := by
  obtain ⟨i0, hi, hz0, hz1, hz2⟩ := info_parts info91
  have HS := hid_of h
  have HN := hid_of hn
  clear h hn
  go_enter Try.func24, Try.ntmps24
  go_wp2_with (at_make; refine wpList_make_full _ rfl _ _ 48 rfl w.heap.size 91 i0 (.agg #[.string ByteArray.empty, .string ByteArray.empty]) 2 Try.underlying48 hi hz0 hz1 _ _ _ _ n rfl rfl rfl rfl (by rw [hz2]; omega) (by unfold maxLen; omega) (Nat.le_refl _) ?_)
  intro w1 hown hgrow
  have HF := hid_of (Filled.madeN (nameF ss) hown)
  have HB1 := hid_of ((Below.refl _ _).grown hgrow (Nat.le_refl _) (fun k h => by cases h) : Below w.heap.size w w1)
  clear hown hgrow
  go_wp2_with fail
  go_loopw [4] (fun i wr => ∃ k : Nat, i = .int .i64 k ∧ k ≤ n ∧ Filled wr w.heap.size (n * 2) (k * 2) (nameF ss) 91 ∧ Below w.heap.size w wr) (fun i _ => n - (intOf i).toNat)
  case atStart => exact ⟨0, rfl, by omega, HF.out, HB1.out⟩
  case round =>
    obtain ⟨k, rfl, hk, hf, hb⟩ := hrel
    have HF2 := hid_of hf
    have HB2 := hid_of hb
    clear hf hb HF HB1
    by_cases hlt : k < n
    · obtain ⟨b, off, rfl, hbB, hc⟩ := HS.out (by rw [HN.out]; omega)
      have hcell : wr.cell? ⟨b, off + k, none⟩ = some (.string (ss.getD k ByteArray.empty)) := by
        rw [HB2.out.cell (p := ⟨b, off + k, none⟩) (Nat.lt_of_lt_of_le hbB hB)]
        exact hc k (by rw [HN.out]; omega)
      obtain ⟨s, hs⟩ : ∃ s, s = ss.getD k ByteArray.empty := ⟨_, rfl⟩
      rw [← hs] at hcell
      have HSS := hid_of hs
      clear hs hc
      obtain ⟨v, hv⟩ := HF2.out.cell (j := k * 2) (by omega)
      obtain ⟨v1, hv1⟩ := HF2.out.cell (j := k * 2 + 1) (by omega)
      have hfz := HF2.out.frozen (k * 2)
      have hfz1 := HF2.out.frozen (k * 2 + 1)
      go_wp2_with fail
      go_roundw
      case rel =>
        have s1 := HF2.out.step (by omega) (nameF_even ss k)
        have s2 := s1.step (by omega) (nameF_odd ss k HSS.out)
        refine ⟨k + 1, by go_num, by omega, ?_, (HB2.out.setCell (p := ⟨w.heap.size, k * 2, none⟩) (Nat.le_refl _) _).setCell (p := ⟨w.heap.size, k * 2 + 1, none⟩) (Nat.le_refl _) _⟩
        rw [show (k + 1) * 2 = k * 2 + 1 + 1 from by omega]
        exact s2
      case measure => simp [intOf]; omega
    · go_wp2_with fail
      go_ret
      obtain rfl : k = n := by omega
      exact ⟨rfl, HF2.out.hasN HN.out HF2.out.lt, HB2.out⟩

/-! ### the map of names: its contents are idle on this road -/
theorem laid91 : laidOutB Try.prog = true := by kernel_rfl
theorem row91 : (91 : TypeId) < Try.prog.types.size := of_decide_eq_true (by kernel_rfl)
theorem wide91 : (match Try.prog.underlying 91 with | some (.array _ _) | some (.struct _) => true | _ => false) = true := by rw [Try.underlying91]
set_option maxRecDepth 100000 in
theorem law91 : Keyed Try.prog 91 := Keyed.of_law (deep_law_laid laid91 (m := 2) (by omega) row91 (by kernel_rfl) wide91)
theorem cells91 : Try.prog.cellsOf 91 = 2 := by kernel_rfl
theorem formed91 {c0 c1 : Value} : (Value.agg #[c0, c1]).formed Try.prog 91 = true := by simp [Value.formed, Try.underlying91, cells91]
set_option maxRecDepth 100000 in
theorem key91 (a b : ByteArray) (w : World) (wa : a.size ≤ maxLen) (wb : b.size ≤ maxLen) : ∃ kl, keyOf Try.prog 91 (.agg #[.string a, .string b]) = some kl := by
  have hd := shut_agg2 (H := Unit) (enc := fun _ => ()) (w := w) (base := 0) (spare := fun _ => true) (held := true) (P := Try.prog) (v0 := .string a) (v1 := .string b) (y0 := (.lit (.string a.data.toList), [])) (y1 := (.lit (.string b.data.toList), [])) Try.underlying91 (by kernel_rfl) cells91
    ⟨1, by simp [DataW.trod, Try.underlying9, wa]⟩ ⟨1, by simp [DataW.trod, Try.underlying9, wb]⟩
  exact ⟨_, (keyOf_asKey (by kernel_rfl) wide91 formed91 hd).1⟩

set_option maxRecDepth 100000 in
set_option maxHeartbeats 400000 in
theorem nameIndex_any (a : Option Addr) (n c B : Nat) (ss : List ByteArray) (w : World) (h : HasS w B a ss) (hB : B ≤ w.heap.size) (hn : ss.length = n) (hm : n ≤ 4096) (hsz : ∀ s ∈ ss, s.size ≤ maxLen) :
    Calls Try.prog 25 #[.slice a n c] w fun e w' => (∃ b, e = .returned (.map (some b))) ∧ Below w.heap.size w w' := by
  have hmm := fun w => run_makeMap_hint Try.underlying50 .i64 (n : Int) w
  have HS := hid_of h
  have HN := hid_of hn
  have HZ := hid_of hsz
  clear h hn hsz
  go_enter Try.func25, Try.ntmps25
  go_wp2_with fail
  go_loopw [4] (fun i wr => ∃ k : Nat, i = .int .i64 k ∧ k ≤ n ∧ (∃ D : DataW Unit, wr.ownsMap Try.prog 91 (plainElem Try.prog 3) w.heap.size k D) ∧ Below w.heap.size w wr) (fun i _ => n - (intOf i).toNat)
  case atStart => exact ⟨0, rfl, by omega, ⟨_, World.ownsMap_made _ _ _ _⟩, (Below.refl _ _).alloc (Nat.le_refl _) _⟩
  case round =>
    obtain ⟨k, rfl, hk, ⟨D, hown⟩, hbel⟩ := hrel
    have HO := hid_of hown
    have HBel := hid_of hbel
    clear hown hbel hmm
    by_cases hlt : k < n
    · obtain ⟨b, off, rfl, hbB, hc⟩ := HS.out (by rw [HN.out]; omega)
      have hcell : wr.cell? ⟨b, off + k, none⟩ = some (.string (ss.getD k ByteArray.empty)) := by
        rw [HBel.out.cell (p := ⟨b, off + k, none⟩) (Nat.lt_of_lt_of_le hbB hB)]
        exact hc k (by rw [HN.out]; omega)
      obtain ⟨s, hs⟩ : ∃ s, s = ss.getD k ByteArray.empty := ⟨_, rfl⟩
      rw [← hs] at hcell
      have hsm : s.size ≤ maxLen := by
        rw [hs]
        apply HZ.out
        have : k < ss.length := by rw [HN.out]; exact hlt
        simp [List.getD, List.getElem?_eq_getElem this]
      obtain ⟨kl, hkl⟩ := key91 ByteArray.empty s w (by simp [maxLen]) hsm
      have KL := hid_of hkl
      clear hc hs hkl hsm
      go_wp2_with (at_mapUpdate; refine wpList_mapUpdate_own _ rfl _ _ _ 50 rfl 91 3 law91 Try.underlying50 _ w.heap.size k _ rfl HO.out (by unfold maxLen; omega) _ _ _ rfl rfl KL.out _ [] (plainElem_int Try.underlying3 (WalkArith.wf_i64 (by omega))) ?_)
      intro w1 hown1 hgrow1
      have R1 := hid_of hown1
      have R2 := hid_of (HBel.out.grown hgrow1 HBel.out.size (fun j hj => by cases hj; exact Nat.le_refl _))
      clear hown1 hgrow1 HO HBel
      go_wp2_with fail
      go_roundw
      case rel => exact ⟨k + 1, by go_num, by omega, ⟨_, R1.out⟩, R2.out⟩
      case measure => simp [intOf]; omega
    · go_wp2_with fail
      go_ret
      exact ⟨⟨_, rfl⟩, HBel.out⟩

theorem newAtoms_any (a : Option Addr) (n c : Nat) (m : Option Nat) (w : World) :
    Calls Try.prog 23 #[.slice a n c, .map m] w fun e w' => e = .returned (.pointer (some ⟨w.heap.size, 0, none⟩)) ∧ Below w.heap.size w w' ∧ w.heap.size < w'.heap.size := by
  go_enter Try.func23, Try.ntmps23
  go_wp2_with fail
  go_ret
  exact ⟨rfl, (Below.refl _ _).alloc (Nat.le_refl _) _, by simp⟩

theorem sameInt64_yes (a b : Option Addr) (n ca cb B : Nat) (zs : List Int) (w : World) (h1 : HasI .i64 w B a zs) (h2 : HasI .i64 w B b zs) (hn : zs.length = n) (hm : n ≤ 100000) :
    Calls Try.prog 32 #[.slice a n ca, .slice b n cb] w fun e w' => e = .returned (.bool true) ∧ ∃ q, w' = w.drewN q := by
  have H1 := hid_of h1
  have H2 := hid_of h2
  have HN := hid_of hn
  clear h1 h2 hn
  go_enter Try.func32, Try.ntmps32
  go_wp2_with fail
  go_loopw [5] (fun t wr => ∃ k : Nat, t = .int .i64 k ∧ k ≤ n ∧ ∃ q, wr = w.drewN q) (fun t _ => n - (intOf t).toNat)
  case atStart => exact ⟨0, rfl, by omega, 0, rfl⟩
  case round =>
    obtain ⟨k, rfl, hk, q, rfl⟩ := hrel
    by_cases hlt : k < n
    · obtain ⟨fb, foff, rfl, hfB, hfc⟩ := H1.out (by rw [HN.out]; omega)
      obtain ⟨ob, ooff, rfl, hoB, hoc⟩ := H2.out (by rw [HN.out]; omega)
      have hf := hfc k (by rw [HN.out]; omega)
      have ho := hoc k (by rw [HN.out]; omega)
      obtain ⟨s, hs⟩ : ∃ s, s = zs.getD k 0 := ⟨_, rfl⟩
      rw [← hs] at hf ho
      clear hfc hoc hs
      have hj1 : (k : Int) < (n : Int) := by omega
      go_wp2_with fail
      go_quiet (fail)
      go_wp2_with fail
      go_roundw
      case rel => exact ⟨k + 1, by go_num, by omega, _, rfl⟩
      case measure => simp [intOf]; omega
    · go_wp2_with fail
      go_ret
      exact ⟨rfl, q, rfl⟩

end Go.Proofs.Qxb6608735a
