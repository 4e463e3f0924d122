import Derived.Test.Qxb6608735aS5C
import Derived.Maps.AppendAt
import Derived.OwnWalk
namespace Go.Proofs.Qxb6608735a
open Go.RowKit Go.Maps Go.WideMaps
set_option linter.unusedVariables false

theorem info21 : (Try.prog.info? 21).map (fun i => (i.zero, i.size, i.bytes)) = some (some (.int .i32 0), 1, 4) := by kernel_rfl

/-- two rows of integers of the call's own, in two blocks -/
def Two (w : World) (B : Nat) (e : TypeId) (k : IntKind) (v u : Value) (zs ys : List Int) : Prop :=
  w.ownsRow B e 1 v zs.length (zs.map (Value.int k)) ∧ w.ownsRow B e 1 u ys.length (ys.map (Value.int k)) ∧ (v.ownBlock = none ∨ v.ownBlock ≠ u.ownBlock)
theorem Two.nil (w : World) (B : Nat) (e : TypeId) (k : IntKind) : Two w B e k (.slice none 0 0) (.slice none 0 0) [] [] := ⟨World.ownsRow_nil _ _ _ _, World.ownsRow_nil _ _ _ _, .inl rfl⟩
theorem Two.symm {w : World} {B : Nat} {e : TypeId} {k : IntKind} {v u : Value} {zs ys : List Int} (h : Two w B e k v u zs ys) : Two w B e k u v ys zs := by
  obtain ⟨h1, h2, h3⟩ := h
  refine ⟨h2, h1, ?_⟩
  rcases h3 with h3 | h3
  · cases hu : u.ownBlock
    · exact .inl rfl
    · exact .inr (by rw [h3]; simp)
  · exact .inr (fun e => h3 e.symm)
theorem Two.left {w w1 : World} {B : Nat} {e : TypeId} {k : IntKind} {v v' u : Value} {zs ys : List Int} {x : Int} {o : Obj} (h : Two w B e k v u zs ys)
    (hown : w1.ownsRow B e 1 v' (zs.length + 1) (zs.map (Value.int k) ++ [.int k x])) (hg : (w.alloc o).grownBy w1 v.ownBlock) (hl : v'.ownBlock = v.ownBlock ∨ v'.ownBlock = some (w.heap.size + 1)) :
    Two w1 B e k v' u (zs ++ [x]) ys := by
  have hs := h.symm
  obtain ⟨h1, h2, h3⟩ := h
  refine ⟨by simpa using hown, (h2.alloc o).kept hg hs.2.2, ?_⟩
  rcases hl with hl | hl
  · rw [hl]; exact h3
  · right
    intro he
    have := (h2.lt _ (he.symm.trans hl)).2
    omega
theorem Two.below {w wr w1 : World} {B : Nat} {e : TypeId} {k : IntKind} {v u : Value} {zs ys : List Int} {o : Obj} (h : Two wr B e k v u zs ys) (hb : Below B w wr) (hB : B ≤ w.heap.size) (hg : (wr.alloc o).grownBy w1 v.ownBlock) : Below B w w1 :=
  (hb.alloc (Nat.le_trans hB hb.size) o).grown hg (by have := hb.size; simp; omega) (fun j hj => (h.1.lt j hj).1)
theorem hasI_own {w : World} {B : Nat} {e : TypeId} {k : IntKind} {v : Value} {zs : List Int} (h : w.ownsRow B e 1 v zs.length (zs.map (Value.int k))) : ∃ a c, v = .slice a zs.length c ∧ HasI k w w.heap.size a zs := by
  obtain ⟨hl, ⟨h, h0⟩ | ⟨g', cap, cur, hv, hg, hh, h1, h2, h3, h4⟩⟩ := h
  · exact ⟨none, 0, by rw [h, h0], fun hp => by omega⟩
  · refine ⟨_, _, hv, fun _ => ⟨g', 0, rfl, row_lt hh, fun i hi => ?_⟩⟩
    have e1 : w.cell? ⟨g', 0 + i, none⟩ = cur[i]? := by simp [World.cell?, hh]
    have e2 : cur[i]? = (cur.toList.take (zs.length * 1))[i]? := by
      rw [List.getElem?_take_of_lt (by omega)]; simp
    rw [e1, e2, h4]
    simp [List.getD, List.getElem?_eq_getElem hi]

/-- the positions held, and their owners, among the first -/
def heldP (ow : List Int) : Nat → List Int
  | 0 => []
  | k + 1 => if -2 ≤ ow.getD k 0 then heldP ow k ++ [(k : Int)] else heldP ow k
def heldO (ow : List Int) : Nat → List Int
  | 0 => []
  | k + 1 => if -2 ≤ ow.getD k 0 then heldO ow k ++ [ow.getD k 0] else heldO ow k
theorem heldP_le (ow : List Int) : ∀ k, (heldP ow k).length ≤ k
  | 0 => Nat.le_refl _
  | k + 1 => by have := heldP_le ow k; rw [heldP]; split <;> simp <;> omega
theorem heldO_len (ow : List Int) : ∀ k, (heldO ow k).length = (heldP ow k).length
  | 0 => rfl
  | k + 1 => by have := heldO_len ow k; rw [heldP, heldO]; split <;> simp [this]

def HeldR (ow : List Int) (n : Nat) (w : World) (v u i : Value) (wr : World) : Prop :=
  ∃ k : Nat, i = .int .i64 k ∧ k ≤ n ∧ Two wr w.heap.size 21 .i32 v u (heldP ow k) (heldO ow k) ∧ Below w.heap.size w wr

/-- what zzHeld hands back -/
def HeldB (ow : List Int) (n : Nat) (w : World) (e : Ending) (w' : World) : Prop :=
  ∃ a c b d m, e = .returned (.tuple #[.slice a m c, .slice b m d]) ∧ m = (heldP ow n).length ∧ HasI .i32 w' w'.heap.size a (heldP ow n) ∧ HasI .i32 w' w'.heap.size b (heldO ow n) ∧ Below w.heap.size w w'

set_option maxRecDepth 20000 in
set_option maxHeartbeats 1000000 in
theorem held_any (a : Option Addr) (n c B : Nat) (ow : List Int) (w : World) (h : HasI .i32 w B a ow) (hB : B ≤ w.heap.size) (hn : ow.length = n) (hm : n ≤ 4096) (hi32 : I32 ow) :
    Calls Try.prog 22 #[.slice a n c] w fun e w' => HeldB ow n w e w' := by
  obtain ⟨i0, hi, hz0, hz1, hz2⟩ := info_parts info21
  have HS := hid_of h
  have HN := hid_of hn
  have HI := hid_of hi32
  clear h hn hi32
  go_enter Try.func22, Try.ntmps22
  go_wp2_with fail
  go_loopw [4, 5, 6] (fun v u i wr => HeldR ow n w v u i wr) (fun _ _ i _ => n - (intOf i).toNat)
  case atStart => exact ⟨0, rfl, by omega, Two.nil _ _ _ _, Below.refl _ _⟩
  case round =>
    obtain ⟨k, rfl, hk, hT, hb⟩ := hrel
    have HT := hid_of hT
    have HB2 := hid_of hb
    clear hT hb
    by_cases hlt : k < n
    · obtain ⟨b, off, rfl, hbB, hc⟩ := HS.out (by rw [HN.out]; omega)
      have hcell : wr.cell? ⟨b, off + k, none⟩ = some (.int .i32 (ow.getD k 0)) := by
        rw [HB2.out.cell (p := ⟨b, off + k, none⟩) (Nat.lt_of_lt_of_le hbB hB)]
        exact hc k (by rw [HN.out]; omega)
      have bx := HI.out k (by rw [HN.out]; exact hlt)
      obtain ⟨x, hx⟩ : ∃ x, x = ow.getD k 0 := ⟨_, rfl⟩
      rw [← hx] at hcell bx
      obtain ⟨bx1, bx2⟩ := bx
      have X := hid_of hx
      clear hx hc
      by_cases hge : -2 ≤ x
      · have hlp := heldP_le ow k
        have hlo := heldO_len ow k
        have HL := hid_of hlp
        have HL2 := hid_of hlo
        clear hlp hlo
        go_wp2_with (at_builtin; refine wpList_append_own_at _ rfl _ _ 41 rfl w.heap.size 21 i0 (.int .i32 0) 1 4 Try.underlying41 hi hz0 hz1 hz2 rfl (by decide) u4 _ _ rfl (HT.out.1.alloc _) ⟨wr.heap.size, 0, none⟩ 1 1 [.int .i32 k] rfl rfl (cell_one_new _ _ _) (ints_oneCell .i32 [(k : Int)]) (by have := HL.out; unfold maxLen; omega) (by have := HL.out; omega) (by have := HB2.out.size; simp; omega) ?_)
        intro v' w1 hown' hgrow hnil hloc
        have T1 := hid_of (HT.out.left hown' hgrow hloc)
        have B1 := hid_of (HT.out.below HB2.out (Nat.le_refl _) hgrow)
        have hcell1 : w1.cell? ⟨b, off + k, none⟩ = some (.int .i32 x) := by
          rw [B1.out.cell (p := ⟨b, off + k, none⟩) (Nat.lt_of_lt_of_le hbB hB), ← HB2.out.cell (p := ⟨b, off + k, none⟩) (Nat.lt_of_lt_of_le hbB hB)]
          exact hcell
        clear hown' hgrow hnil hloc hcell HT HB2
        go_wp2_with (at_builtin; refine wpList_append_own_at _ rfl _ _ 41 rfl w.heap.size 21 i0 (.int .i32 0) 1 4 Try.underlying41 hi hz0 hz1 hz2 rfl (by decide) u5 _ _ rfl (T1.out.2.1.alloc _) ⟨w1.heap.size, 0, none⟩ 1 1 [.int .i32 x] rfl rfl (cell_one_new _ _ _) (ints_oneCell .i32 [x]) (by have := HL.out; have := HL2.out; unfold maxLen; omega) (by have := HL.out; have := HL2.out; omega) (by have := B1.out.size; simp; omega) ?_)
        intro u' w2 hown' hgrow hnil hloc
        have T2 := hid_of (T1.out.symm.left hown' hgrow hloc).symm
        have B2 := hid_of (T1.out.symm.below B1.out (Nat.le_refl _) hgrow)
        clear hown' hgrow hnil hloc T1 B1
        have EP : Hid (heldP ow (k + 1) = heldP ow k ++ [(k : Int)]) := by rw [Hid, heldP, if_pos (by rw [← X.out]; exact hge)]
        have EO : Hid (heldO ow (k + 1) = heldO ow k ++ [x]) := by rw [Hid, heldO, if_pos (by rw [← X.out]; exact hge), X.out]
        go_wp2_with fail
        go_roundw
        case rel => exact ⟨k + 1, by go_num, by omega, by rw [EP.out, EO.out]; exact T2.out, B2.out⟩
        case measure => simp [intOf]; omega
      · have EP : Hid (heldP ow (k + 1) = heldP ow k) := by rw [Hid, heldP, if_neg (by rw [← X.out]; exact hge)]
        have EO : Hid (heldO ow (k + 1) = heldO ow k) := by rw [Hid, heldO, if_neg (by rw [← X.out]; exact hge)]
        go_wp2_with fail
        go_roundw
        case rel => exact ⟨k + 1, by go_num, by omega, by rw [EP.out, EO.out]; exact HT.out, HB2.out⟩
        case measure => simp [intOf]; omega
    · obtain rfl : k = n := by omega
      go_wp2_with fail
      go_ret2
      obtain ⟨a1, c1, rfl, h1⟩ := hasI_own HT.out.1
      obtain ⟨a2, c2, rfl, h2⟩ := hasI_own HT.out.2.1
      refine ⟨a1, c1, a2, c2, _, ?_, rfl, h1, h2, HB2.out⟩
      rw [heldO_len]
      rfl

end Go.Proofs.Qxb6608735a
