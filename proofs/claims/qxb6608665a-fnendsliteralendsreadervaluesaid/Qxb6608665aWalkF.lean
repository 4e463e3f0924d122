import Derived.Test.Qxb6608665aWalkE
namespace Go.Proofs.Qxb6608665a
open Go.RowKit
set_option linter.unusedVariables false

theorem info5 : (Try.prog.info? 5).map (fun i => (i.zero, i.size, i.bytes)) = some (some (.int .u8 0), 1, 1) := by kernel_rfl
theorem size5 : (Try.prog.info? 5).map (·.size) = some 1 := by kernel_rfl

/-- a row that is owned to its end is the block -/
theorem row_full {w : World} {base : Nat} {e : TypeId} {g n : Nat} {xs : List Value} (h : w.ownsRow base e 1 (.slice (some ⟨g, 0, none⟩) n n) n xs) : w.heap[g]? = some (.cells xs.toArray e (0, 0)) ∧ xs.length = n := by
  obtain ⟨hl, h | ⟨g', cap, cur, hv, hg, hh, h1, h2, h3, h4⟩⟩ := h
  · simp at h
  · simp only [Value.slice.injEq, Option.some.injEq, Addr.mk.injEq, and_true] at hv
    obtain ⟨rfl, -, rfl⟩ := hv
    have e1 : cur.toList.take (n * 1) = cur.toList := List.take_of_length_le (by simp; omega)
    rw [e1] at h4
    subst h4
    exact ⟨hh, by simpa using hl⟩

theorem row_some {w : World} {base : Nat} {e : TypeId} {g n : Nat} {xs : List Value} (h : w.ownsRow base e 1 (.slice (some ⟨g, 0, none⟩) n n) n xs) : ∃ L : List Value, w.heap[g]? = some (.cells L.toArray e (0, 0)) ∧ L.length = n := ⟨xs, row_full h⟩

theorem cell_row {w : World} {g : Nat} {xs : List Value} {e : TypeId} (h : w.heap[g]? = some (.cells xs.toArray e (0, 0))) (i : Nat) : w.cell? ⟨g, i, none⟩ = xs[i]? := by
  simp [World.cell?, h]

theorem reads_row {w : World} {g : Nat} {zs : List Int} {e : TypeId} (h : w.heap[g]? = some (.cells (zs.map (Value.int .u8)).toArray e (0, 0))) : Reads w g 0 zs := by
  intro i hi
  rw [cell_row h]
  simp [List.getElem?_eq_getElem hi]

theorem reads_below {w w' : World} {B g off : Nat} {zs : List Int} (h : Reads w g off zs) (hb : Below B w w') (hg : g < B) : Reads w' g off zs := by
  intro i hi
  rw [hb.cell (p := ⟨g, off + i, none⟩) hg]
  exact h i hi

theorem cells_of {w : World} {b off : Nat} {zs : List Int} (h : Reads w b off zs) : ∀ (j : Nat) (v : Value), (zs.map (Value.int .u8))[j]? = some v → w.cell? ((⟨b, off, none⟩ : Addr).add j) = some v := by
  intro j v hv
  have hj : j < zs.length := by simpa using (List.getElem?_eq_some_iff.1 hv).1
  rw [Addr.add_lit, h j hj]
  rw [← hv]
  simp [List.getElem?_eq_getElem hj]

theorem splice_all {α : Type} (L cs : List α) (h : L.length = cs.length) : splice L 0 cs = cs := by simp [splice, ← h]

/-- a guard: the next operation is the builtin copy -/
theorem at_copy {P : Program} {ops : Array Oper} {Q : Exit → Act → World → Prop} {rest : List Oper} {a : Act} {w : World} {dst : Option Tmp} {d s : Operand} {t1 t2 ty : TypeId} {pos : String} {after : Array Edge}
    (h : wpList P ops Q (⟨dst, Op.call ⟨Callee.builtin Builtin.copy, #[d, s], #[t1, t2]⟩, ty, pos, after, none⟩ :: rest) a w) : wpList P ops Q (⟨dst, Op.call ⟨Callee.builtin Builtin.copy, #[d, s], #[t1, t2]⟩, ty, pos, after, none⟩ :: rest) a w := h

theorem clone_any (g n cap : Nat) (zs : List Int) (w : World) (hr : Reads w g 0 zs) (hn : zs.length = n) (hm : n ≤ 1048577) (hg : g < w.heap.size) :
    Calls Try.prog 18 #[.slice (some ⟨g, 0, none⟩) n cap] w fun e w' => e = .returned (.slice (some ⟨w.heap.size, 0, none⟩) n n) ∧ Below w.heap.size w w' ∧ Reads w' w.heap.size 0 zs ∧ w.heap.size < w'.heap.size := by
  have hnil := fun w => Lib.run_eql_slice_nil (P := Try.prog) w 22 5 (some ⟨g, 0, none⟩) n cap 0 0 Try.underlying22
  obtain ⟨i0, hi, hz0, hz1, hz2⟩ := info_parts info5
  have HR := hid_of hr
  have HN := hid_of hn
  clear hr hn
  go_enter Try.func18, Try.ntmps18
  go_wp2_with (at_make; refine wpList_make_full _ rfl _ _ 22 rfl w.heap.size 5 i0 (.int .u8 0) 1 Try.underlying22 hi hz0 hz1 _ _ _ _ n rfl rfl rfl rfl (by rw [hz2]; omega) (by unfold maxLen; omega) (Nat.le_refl _) ?_)
  intro w1 hown hgrow
  obtain ⟨L, hrow, hlen⟩ := row_some hown
  have hb1 : Below w.heap.size w w1 := (Below.refl _ _).grown hgrow (Nat.le_refl _) (fun k h => by cases h)
  have hr1 := reads_below HR.out hb1 hg
  have HRow := hid_of hrow
  have HB1 := hid_of hb1
  have HR1 := hid_of hr1
  have HLen := hid_of hlen
  clear hown hgrow hrow hb1 hr1 hlen
  go_wp2_with (with_reducible refine at_copy ?_; refine wpList_copy_splice rfl _ _ 22 22 rfl 5 Try.underlying22 size5 _ _ _ _ _ _ rfl rfl w.heap.size 0 L 5 HRow.out (zs.map (Value.int .u8)) (by simp [HN.out]) (fun _ => ⟨rfl, _, rfl, ?_⟩) (by simp [HN.out, HLen.out]) (ints_oneCell _ _) w.heap.size w HB1.out (Nat.le_refl _) ?_)
  · exact cells_of HR1.out
  · intro w2 HG2 hB2
    have hg2 := HG2.out
    rw [splice_all _ _ (by simp [HN.out, HLen.out])] at hg2
    have HR2 := hid_of (reads_row hg2)
    have hsz : w.heap.size < w2.heap.size := by
      have := (Array.getElem?_eq_some_iff.1 hg2).1
      exact this
    clear HG2 hg2
    go_wp2_with fail
    go_ret
    exact ⟨rfl, hB2, HR2.out, hsz⟩

theorem readerValue_any (b g n cap s : Nat) (zs : List Int) (w : World) (hm : n ≤ maxLen) (ht : w.cell? ⟨b, 0, none⟩ = some (.slice (some ⟨g, 0, none⟩) n cap)) (hp : w.cell? ⟨b, 1, none⟩ = some (.int .i64 0)) (hfz : w.frozen? ⟨b, 1, none⟩ = false)
    (hr : Reads w g 0 zs) (hn : zs.length = n) (hgb : g < b) (hcap : n ≤ cap) (d : Int) (h0 : zs.getD 0 0 = d) (hd : litB d = true) (hs : 1 ≤ s) (hsn : s ≤ n) (hall : ∀ k, k < s → endB (zs.getD k 0) = false) (hend : s < n → endB (zs.getD s 0) = true) :
    Calls Try.prog 20 #[.pointer (some ⟨b, 0, none⟩)] w fun e w' => e = .returned (.slice (some ⟨g, 0, none⟩) s cap) ∧ Below b w w' ∧ w'.cell? ⟨b, 1, none⟩ = some (.int .i64 s) := by
  have H := hid_of (value_any b g n cap s zs w hm ht hp hfz hr hn hgb hcap d h0 hd hs hsn hall hend)
  clear hm ht hp hfz hr hn hgb hcap h0 hd hs hsn hall hend
  go_enter Try.func20, Try.ntmps20
  go_wp2_with fail
  refine H.out.mono ?_
  rintro e w' ⟨rfl, hb, hc⟩
  have HB := hid_of hb
  have HC := hid_of hc
  clear hb hc
  go_wp2_with fail
  go_ret
  exact ⟨rfl, HB.out, HC.out⟩

theorem bytesEqual_yes (g g' m c1 c2 : Nat) (zs : List Int) (w : World) (hr : Reads w g 0 zs) (hr' : Reads w g' 0 zs) (hm : m ≤ zs.length) (hx : m ≤ 1048577) :
    Calls Try.prog 21 #[.slice (some ⟨g, 0, none⟩) m c1, .slice (some ⟨g', 0, none⟩) m c2] w fun e w' => e = .returned (.bool true) ∧ ∃ q, w' = w.drewN q := by
  have HR := hid_of hr
  have HR' := hid_of hr'
  clear hr hr'
  go_enter Try.func21, Try.ntmps21
  go_wp2
  go_loopw [5] (fun t wr => ∃ k : Nat, t = .int .i64 k ∧ k ≤ m ∧ ∃ q, wr = w.drewN q) (fun t _ => m - (intOf t).toNat)
  case atStart => exact ⟨0, rfl, by omega, 0, rfl⟩
  case round =>
    obtain ⟨k, rfl, hk, q, rfl⟩ := hrel
    by_cases hlt : k < m
    · have hc1 := HR.out k (by omega)
      have hc2 := HR'.out k (by omega)
      rw [Nat.zero_add] at hc1 hc2
      obtain ⟨c, hc⟩ : ∃ c, c = zs.getD k 0 := ⟨_, rfl⟩
      rw [← hc] at hc1 hc2
      clear hc
      go_wp2
      go_quiet (fail)
      go_wp2
      go_roundw
      case rel => exact ⟨k + 1, by go_num, by omega, _, rfl⟩
      case measure => simp [intOf]; omega
    · go_wp2
      go_ret
      exact ⟨rfl, q, rfl⟩

end Go.Proofs.Qxb6608665a
