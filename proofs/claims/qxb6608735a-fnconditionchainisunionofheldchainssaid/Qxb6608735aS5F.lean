import Derived.Test.Qxb6608735aS5E
namespace Go.Proofs.Qxb6608735a
open Go.RowKit Go.Maps Go.WideMaps Go.Joins
set_option linter.unusedVariables false

theorem info3 : (Try.prog.info? 3).map (fun i => (i.zero, i.size, i.bytes)) = some (some (.int .i64 0), 1, 8) := by kernel_rfl

/-- the place of a string in the index -/
def cAt (ls : List ByteArray) (s : ByteArray) : Int := match (Dm ls ls.length).atKey (keyS s) (.lit (.int .i64 0)) with | .lit (.int _ c) => c | _ => 0
theorem cAt_of {ls : List ByteArray} {s : ByteArray} {c : Int} (h : (Dm ls ls.length).atKey (keyS s) (.lit (.int .i64 0)) = .lit (.int .i64 c)) : cAt ls s = c := by rw [cAt, h]
theorem cAt_at {ls : List ByteArray} {s : ByteArray} (hd : Distinct ls ls.length) (h : Maps.has (Dm ls ls.length) (keyS s) = true) : ∃ i : Nat, i < ls.length ∧ ls.getD i ByteArray.empty = s ∧ cAt ls s = i := by
  obtain ⟨i, hi, e⟩ := (Dm_has ls s ls.length).1 h
  refine ⟨i, hi, e, ?_⟩
  have := Dm_at ls ls.length hd i hi (.lit (.int .i64 0))
  rw [e] at this
  exact cAt_of this

/-- two rows of the call's own, in two blocks -/
def Pair (w : World) (B : Nat) (e1 s1 : Nat) (v : Value) (n : Nat) (xs : List Value) (e2 s2 : Nat) (u : Value) (m : Nat) (ys : List Value) : Prop :=
  w.ownsRow B e1 s1 v n xs ∧ w.ownsRow B e2 s2 u m ys ∧ (v.ownBlock = none ∨ v.ownBlock ≠ u.ownBlock)
theorem Pair.symm {w : World} {B e1 s1 e2 s2 n m : Nat} {v u : Value} {xs ys : List Value} (h : Pair w B e1 s1 v n xs e2 s2 u m ys) : Pair w B e2 s2 u m ys e1 s1 v n xs := by
  obtain ⟨h1, h2, h3⟩ := h
  refine ⟨h2, h1, ?_⟩
  rcases h3 with h3 | h3
  · cases hu : u.ownBlock
    · exact .inl rfl
    · exact .inr (by rw [h3]; simp)
  · exact .inr (fun e => h3 e.symm)
theorem Pair.left {w w1 : World} {B e1 s1 e2 s2 n n' m : Nat} {v v' u : Value} {xs xs' ys : List Value} {o : Obj} (h : Pair w B e1 s1 v n xs e2 s2 u m ys)
    (hown : w1.ownsRow B e1 s1 v' n' xs') (hg : (w.alloc o).grownBy w1 v.ownBlock) (hl : v'.ownBlock = v.ownBlock ∨ v'.ownBlock = some (w.heap.size + 1)) :
    Pair w1 B e1 s1 v' n' xs' e2 s2 u m ys := by
  have hs := h.symm
  obtain ⟨h1, h2, h3⟩ := h
  refine ⟨hown, (h2.alloc o).kept hg hs.2.2, ?_⟩
  rcases hl with hl | hl
  · rw [hl]; exact h3
  · right
    intro he
    have := (h2.lt _ (he.symm.trans hl)).2
    omega
theorem Pair.below {w wr w1 : World} {B e1 s1 e2 s2 n m : Nat} {v u : Value} {xs ys : List Value} {o : Obj} (h : Pair wr B e1 s1 v n xs e2 s2 u m ys) (hb : Below B w wr) (hB : B ≤ w.heap.size) (hg : (wr.alloc o).grownBy w1 v.ownBlock) : Below B w w1 :=
  (hb.alloc (Nat.le_trans hB hb.size) o).grown hg (by have := hb.size; simp; omega) (fun j hj => (h.1.lt j hj).1)

/-- names, cell by cell -/
def nameCells : List ByteArray → List Value
  | [] => []
  | s :: t => .string ByteArray.empty :: .string s :: nameCells t
theorem nameCells_append (xs ys : List ByteArray) : nameCells (xs ++ ys) = nameCells xs ++ nameCells ys := by
  induction xs with
  | nil => rfl
  | cons x t ih => simp [nameCells, ih]
theorem nameCells_at : ∀ (ss : List ByteArray) (i : Nat), i < ss.length → (nameCells ss)[i * 2]? = some (.string ByteArray.empty) ∧ (nameCells ss)[i * 2 + 1]? = some (.string (ss.getD i ByteArray.empty))
  | s :: t, 0, _ => by simp [nameCells]
  | s :: t, i + 1, h => by
    have := nameCells_at t i (by simpa using h)
    rw [show (i + 1) * 2 = i * 2 + 1 + 1 from by omega, nameCells]
    simpa using this
theorem hasN_own {w : World} {B : Nat} {e : TypeId} {v : Value} {ss : List ByteArray} (h : w.ownsRow B e 2 v ss.length (nameCells ss)) : ∃ a c, v = .slice a ss.length c ∧ HasN w w.heap.size a ss := by
  obtain ⟨hl, ⟨h, h0⟩ | ⟨g', cap, cur, hv, hg, hh, h1, h2, h3, h4⟩⟩ := h
  · exact ⟨none, 0, by rw [h, h0], fun hp => by omega⟩
  · refine ⟨_, _, hv, fun _ => ⟨g', 0, rfl, row_lt hh, fun i hi => ?_⟩⟩
    have e1 : ∀ j, j < ss.length * 2 → w.cell? ⟨g', j, none⟩ = (nameCells ss)[j]? := fun j hj => by
      rw [← h4, List.getElem?_take_of_lt hj]
      simp [World.cell?, hh]
    have := nameCells_at ss i hi
    rw [Nat.zero_add, e1 _ (by omega), e1 _ (by omega)]
    exact this
theorem cell_two_new (w : World) (x y : Value) (t : TypeId) : ∀ j u, [x, y][j]? = some u → (w.alloc (.cells #[x, y] t)).cell? ((⟨w.heap.size, 0, none⟩ : Addr).add j) = some u := by
  intro j u hj
  match j, hj with
  | 0, hj => simp at hj; subst hj; simp [Addr.add]
  | 1, hj => simp at hj; subst hj; simp [Addr.add]

/-- the named attributes' places, and the others, among the first -/
def splitP (ls cs : List ByteArray) : Nat → List Int
  | 0 => []
  | k + 1 => if Maps.has (Dm ls ls.length) (keyS (cs.getD k ByteArray.empty)) = true then splitP ls cs k ++ [cAt ls (cs.getD k ByteArray.empty)] else splitP ls cs k
def splitO (ls cs : List ByteArray) : Nat → List ByteArray
  | 0 => []
  | k + 1 => if Maps.has (Dm ls ls.length) (keyS (cs.getD k ByteArray.empty)) = true then splitO ls cs k else splitO ls cs k ++ [cs.getD k ByteArray.empty]
theorem splitP_le (ls cs : List ByteArray) : ∀ k, (splitP ls cs k).length ≤ k
  | 0 => Nat.le_refl _
  | k + 1 => by have := splitP_le ls cs k; rw [splitP]; split <;> simp <;> omega
theorem splitO_le (ls cs : List ByteArray) : ∀ k, (splitO ls cs k).length ≤ k
  | 0 => Nat.le_refl _
  | k + 1 => by have := splitO_le ls cs k; rw [splitO]; split <;> simp <;> omega

def SplitR (ls cs : List ByteArray) (n : Nat) (w : World) (v u i : Value) (wr : World) : Prop :=
  ∃ k : Nat, i = .int .i64 k ∧ k ≤ n ∧ Pair wr w.heap.size 3 1 v (splitP ls cs k).length ((splitP ls cs k).map (Value.int .i64)) 91 2 u (splitO ls cs k).length (nameCells (splitO ls cs k)) ∧ Below w.heap.size w wr
def SplitB (ls cs : List ByteArray) (n : Nat) (w : World) (e : Ending) (w' : World) : Prop :=
  ∃ a c b d m1 m2, e = .returned (.tuple #[.slice a m1 c, .slice b m2 d]) ∧ m1 = (splitP ls cs n).length ∧ m2 = (splitO ls cs n).length ∧ HasI .i64 w' w'.heap.size a (splitP ls cs n) ∧ HasN w' w'.heap.size b (splitO ls cs n) ∧ Below w.heap.size w w'

set_option maxRecDepth 20000 in
set_option maxHeartbeats 1000000 in
theorem split_any (a : Option Addr) (n c B mb : Nat) (ls cs : List ByteArray) (w : World) (h : HasS w B a cs) (hB : B ≤ w.heap.size) (hmb : mb < w.heap.size) (hmap : w.ownsMap Try.prog 9 (plainElem Try.prog 3) mb ls.length (Dm ls ls.length))
    (hn : cs.length = n) (hm : n ≤ 4096) (hsz : ∀ s ∈ cs, s.size ≤ maxLen) :
    Calls Try.prog 28 #[.map (some mb), .slice a n c] w fun e w' => SplitB ls cs n w e w' := by
  obtain ⟨i0, i1, iz0, iz1, iz2⟩ := info_parts info3
  obtain ⟨j0, j1, jz0, jz1, jz2⟩ := info_parts info91
  have HS := hid_of h
  have HN := hid_of hn
  have HM := hid_of hmap
  have HZ := hid_of hsz
  clear h hn hmap hsz
  go_enter Try.func28, Try.ntmps28
  go_wp2_with fail
  go_loopw [6, 7, 8] (fun v u i wr => SplitR ls cs n w v u i wr) (fun _ _ i _ => n - (intOf i).toNat)
  case atStart => exact ⟨0, rfl, by omega, ⟨World.ownsRow_nil _ _ _ _, World.ownsRow_nil _ _ _ _, .inl rfl⟩, Below.refl _ _⟩
  case round =>
    obtain ⟨k, rfl, hk, hT, hb⟩ := hrel
    have HT := hid_of hT
    have HB2 := hid_of hb
    clear hT hb
    by_cases hlt : k < n
    · obtain ⟨b, off, rfl, hbB, hc⟩ := HS.out (by rw [HN.out]; omega)
      have hcell : wr.cell? ⟨b, off + k, none⟩ = some (.string (cs.getD k ByteArray.empty)) := by
        rw [HB2.out.cell (p := ⟨b, off + k, none⟩) (Nat.lt_of_lt_of_le hbB hB)]
        exact hc k (by rw [HN.out]; omega)
      obtain ⟨s, hs⟩ : ∃ s, s = cs.getD k ByteArray.empty := ⟨_, rfl⟩
      rw [← hs] at hcell
      have HK : Hid (keyOf Try.prog 9 (.string s) = some (keyS s)) := keyOf_string_mk Try.underlying9 (by
        rw [hs]
        apply HZ.out
        have : k < cs.length := by rw [HN.out]; exact hlt
        simp [List.getD, List.getElem?_eq_getElem this])
      have HO := hid_of (ownsMap_below HM.out HB2.out hmb)
      have S := hid_of hs
      have LP := hid_of (splitP_le ls cs k)
      have LO := hid_of (splitO_le ls cs k)
      clear hs hc
      cases hh : Maps.has (Dm ls ls.length) (keyS s)
      · go_wp2_with (first
          | (at_lookup; refine wpList_lookup_own_ok_int _ rfl _ _ 26 rfl 9 3 .i64 law9 Try.underlying26 Try.underlying3 (zero3 _) mb ls.length _ rfl HO.out _ _ rfl HK.out ?_; intro cc hat hwc)
          | (at_builtin; refine wpList_append_own_at _ rfl _ _ 48 rfl w.heap.size 91 j0 (.agg #[.string ByteArray.empty, .string ByteArray.empty]) 2 32 Try.underlying48 j1 jz0 jz1 jz2 rfl (by decide) u7 _ _ rfl (HT.out.2.1.alloc _) ⟨wr.heap.size, 0, none⟩ 1 1 [.string ByteArray.empty, .string s] rfl rfl (cell_two_new _ _ _ _) (by intro u hu; simp at hu; rcases hu with rfl | rfl <;> rfl) (by have := LO.out; unfold maxLen; omega) (by have := LO.out; omega) (by have := HB2.out.size; simp; omega) ?_))
        intro u' w2 hown' hgrow hnil hloc
        have T2 := hid_of (HT.out.symm.left hown' hgrow hloc).symm
        have B2 := hid_of (HT.out.symm.below HB2.out (Nat.le_refl _) hgrow)
        clear hown' hgrow hnil hloc HT HB2
        have EP : Hid (splitP ls cs (k + 1) = splitP ls cs k) := by rw [Hid, splitP, if_neg (by rw [← S.out, hh]; simp)]
        have EO : Hid (splitO ls cs (k + 1) = splitO ls cs k ++ [s]) := by rw [Hid, splitO, if_neg (by rw [← S.out, hh]; simp), ← S.out]
        go_wp2_with fail
        go_roundw
        case rel => exact ⟨k + 1, by go_num, by omega, by rw [EP.out, EO.out, nameCells_append]; simpa [nameCells] using T2.out, B2.out⟩
        case measure => simp [intOf]; omega
      · go_wp2_with (first
          | (at_lookup; refine wpList_lookup_own_ok_int _ rfl _ _ 26 rfl 9 3 .i64 law9 Try.underlying26 Try.underlying3 (zero3 _) mb ls.length _ rfl HO.out _ _ rfl HK.out ?_; intro cc hat hwc)
          | (at_builtin; refine wpList_append_own_at _ rfl _ _ 54 rfl w.heap.size 3 i0 (.int .i64 0) 1 8 Try.underlying54 i1 iz0 iz1 iz2 rfl (by decide) u6 _ _ rfl (HT.out.1.alloc _) ⟨wr.heap.size, 0, none⟩ 1 1 [.int .i64 cc] rfl rfl (cell_one_new _ _ _) (ints_oneCell .i64 [cc]) (by have := LP.out; unfold maxLen; omega) (by have := LP.out; omega) (by have := HB2.out.size; simp; omega) ?_))
        intro v' w2 hown' hgrow hnil hloc
        have T2 := hid_of (HT.out.left hown' hgrow hloc)
        have B2 := hid_of (HT.out.below HB2.out (Nat.le_refl _) hgrow)
        have C := hid_of (cAt_of hat)
        clear hown' hgrow hnil hloc HT HB2 hat hwc
        have EP : Hid (splitP ls cs (k + 1) = splitP ls cs k ++ [cc]) := by rw [Hid, splitP, if_pos (by rw [← S.out, hh]), ← S.out, C.out]
        have EO : Hid (splitO ls cs (k + 1) = splitO ls cs k) := by rw [Hid, splitO, if_pos (by rw [← S.out, hh])]
        go_wp2_with fail
        go_roundw
        case rel => exact ⟨k + 1, by go_num, by omega, by rw [EP.out, EO.out]; simpa using T2.out, B2.out⟩
        case measure => simp [intOf]; omega
    · obtain rfl : k = n := by omega
      go_wp2_with fail
      go_ret2
      obtain ⟨a1, c1, rfl, h1⟩ := hasI_own HT.out.1
      obtain ⟨a2, c2, rfl, h2⟩ := hasN_own HT.out.2.1
      exact ⟨a1, c1, a2, c2, _, _, rfl, rfl, rfl, h1, h2, HB2.out⟩

end Go.Proofs.Qxb6608735a
