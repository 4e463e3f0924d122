import Derived.Test.Qxb6608665aWalkC
import Derived.WalkSmall
namespace Go.Proofs.Qxb6608665a
open Go.RowKit

def txt (c : Int) (rest : List Int) : List Int := [91, 110, 117, 108, 108, c] ++ rest

theorem len_txt (c : Int) (rest : List Int) : (txt c rest).length = rest.length + 6 := by simp [txt]

theorem null_txt (c : Int) (rest : List Int) : nullAt (txt c rest) 1 := ⟨by rw [len_txt]; omega, rfl, rfl, rfl, rfl⟩

/-- one round, the byte c itself decides: no white space, no comma -/
theorem top_plain (b n cap : Nat) (c : Int) (rest : List Int) (W : World) (hr : Reads W b 0 (txt c rest)) (hn : (txt c rest).length = n) (hm : n ≤ maxLen) (hws : wsB c = false) (h44 : (c == 44) = false) (h93 : ¬ c = 93) :
    Calls Try.prog 12 #[.slice (some ⟨b, 0, none⟩) n cap] W fun e w' => e = .returned (.bool false) ∧ ∃ q, w' = W.drewN q := by
  have hl : 6 ≤ n := by rw [← hn, len_txt]; omega
  refine top_no b 0 n cap (txt c rest) W hr hn hm rfl 5 ?_
  refine value_array b 0 n cap (txt c rest) W hr hn hm rfl (by omega) 5 false 0 (-1) (-1) ?_
  refine (array_one b 0 n cap 5 (txt c rest) W hr hn hm (null_txt c rest) (by omega) (by omega) c (fun _ => rfl) (fun _ => h44) (fun q => ?_)).mono ?_
  · exact skip0 b 0 n cap (txt c rest) 5 5 rfl (W.drewN q) hr hn hm (by omega) (fun _ => hws)
  · rintro e w' ⟨hq, he⟩
    exact ⟨hq, he.trans (resOne_no (fun h => h93 h.2)).symm⟩

/-- the byte c closes the array -/
theorem top_close (b n cap : Nat) (c : Int) (rest : List Int) (W : World) (hr : Reads W b 0 (txt c rest)) (hn : (txt c rest).length = n) (hm : n ≤ maxLen) (h93 : c = 93) (hrest : wsB (rest.getD 0 0) = false) :
    Calls Try.prog 12 #[.slice (some ⟨b, 0, none⟩) n cap] W fun e w' => e = .returned (.bool ((6 : Int) == n)) ∧ ∃ q, w' = W.drewN q := by
  subst h93
  have hl : 6 ≤ n := by rw [← hn, len_txt]; omega
  refine top_yes b 0 n cap (txt 93 rest) W hr hn hm rfl 6 6 rfl hl (fun _ => by simpa [txt] using hrest) ?_
  refine value_array b 0 n cap (txt 93 rest) W hr hn hm rfl (by omega) 6 true 1 (-1) 5 ?_
  refine (array_one b 0 n cap 5 (txt 93 rest) W hr hn hm (null_txt 93 rest) (by omega) (by omega) 93 (fun _ => rfl) (fun _ => rfl) (fun q => ?_)).mono ?_
  · exact skip0 b 0 n cap (txt 93 rest) 5 5 rfl (W.drewN q) hr hn hm (by omega) (fun _ => rfl)
  · rintro e w' ⟨hq, he⟩
    exact ⟨hq, he.trans (resOne_yes (by omega) rfl).symm⟩

/-- white space, then a byte that neither closes nor parts, or nothing -/
theorem top_ws_no (b n cap : Nat) (c d : Int) (rest : List Int) (W : World) (hr : Reads W b 0 (txt c rest)) (hn : (txt c rest).length = n) (hm : n ≤ maxLen) (hws : wsB c = true) (hd : 6 < n → (txt c rest).getD 6 0 = d) (hwd : wsB d = false) (h44 : (d == 44) = false) (h93 : ¬ (6 < n ∧ d = 93)) :
    Calls Try.prog 12 #[.slice (some ⟨b, 0, none⟩) n cap] W fun e w' => e = .returned (.bool false) ∧ ∃ q, w' = W.drewN q := by
  have hl : 6 ≤ n := by rw [← hn, len_txt]; omega
  refine top_no b 0 n cap (txt c rest) W hr hn hm rfl 6 ?_
  refine value_array b 0 n cap (txt c rest) W hr hn hm rfl (by omega) 6 false 0 (-1) (-1) ?_
  refine (array_one b 0 n cap 6 (txt c rest) W hr hn hm (null_txt c rest) (by omega) (by omega) d hd (fun _ => h44) (fun q => ?_)).mono ?_
  · exact skip1 b 0 n cap (txt c rest) 5 5 rfl (W.drewN q) hr hn hm (by omega) hws (fun h => by rw [hd h]; exact hwd)
  · rintro e w' ⟨hq, he⟩
    exact ⟨hq, he.trans (resOne_no h93).symm⟩

/-- white space, then the closing bracket, and the end -/
theorem top_ws_yes (b cap : Nat) (c : Int) (W : World) (hr : Reads W b 0 (txt c [93])) (hws : wsB c = true) :
    Calls Try.prog 12 #[.slice (some ⟨b, 0, none⟩) 7 cap] W fun e w' => e = .returned (.bool true) ∧ ∃ q, w' = W.drewN q := by
  have hm : 7 ≤ maxLen := by unfold maxLen; omega
  refine top_yes b 0 7 cap (txt c [93]) W hr rfl hm rfl 7 7 rfl (by omega) (fun h => by omega) ?_
  refine value_array b 0 7 cap (txt c [93]) W hr rfl hm rfl (by omega) 7 true 1 (-1) 6 ?_
  refine (array_one b 0 7 cap 6 (txt c [93]) W hr rfl hm (null_txt c [93]) (by omega) (by omega) 93 (fun _ => rfl) (fun _ => rfl) (fun q => ?_)).mono ?_
  · exact skip1 b 0 7 cap (txt c [93]) 5 5 rfl (W.drewN q) hr rfl hm (by omega) hws (fun _ => rfl)
  · rintro e w' ⟨hq, he⟩
    exact ⟨hq, he.trans (resOne_yes (by omega) rfl).symm⟩

/-- a comma, and null again -/
theorem top_comma (b cap : Nat) (c : Int) (W : World) (hr : Reads W b 0 (txt c [110, 117, 108, 108, 93])) (h : c = 44) :
    Calls Try.prog 12 #[.slice (some ⟨b, 0, none⟩) 11 cap] W fun e w' => e = .returned (.bool true) ∧ ∃ q, w' = W.drewN q := by
  subst h
  have hm : 11 ≤ maxLen := by unfold maxLen; omega
  refine top_yes b 0 11 cap _ W hr rfl hm rfl 11 11 rfl (by omega) (fun h => by omega) ?_
  refine value_array b 0 11 cap _ W hr rfl hm rfl (by omega) 11 true 2 (-1) 10 ?_
  exact array_two b 0 11 cap _ W hr rfl hm (null_txt _ _) rfl ⟨by rw [len_txt]; decide, rfl, rfl, rfl, rfl⟩ rfl (by omega)

theorem top_obj_yes (b cap : Nat) (c : Int) (W : World) (hr : Reads W b 0 (objText c)) (h : c = 125) :
    Calls Try.prog 12 #[.slice (some ⟨b, 0, none⟩) 10 cap] W fun e w' => e = .returned (.bool true) ∧ ∃ q, w' = W.drewN q := by
  subst h
  have hm : 10 ≤ maxLen := by unfold maxLen; omega
  refine top_yes b 0 10 cap _ W hr rfl hm rfl 10 10 rfl (by omega) (fun h => by omega) ?_
  refine value_object b 0 cap 125 W hr 10 true ?_
  exact object_any b 0 cap 125 W hr rfl rfl

theorem top_obj_no (b cap : Nat) (c : Int) (W : World) (hr : Reads W b 0 (objText c)) (hws : wsB c = false) (h44 : (c == 44) = false) (h : ¬ c = 125) :
    Calls Try.prog 12 #[.slice (some ⟨b, 0, none⟩) 10 cap] W fun e w' => e = .returned (.bool false) ∧ ∃ q, w' = W.drewN q := by
  have hm : 10 ≤ maxLen := by unfold maxLen; omega
  refine top_no b 0 10 cap _ W hr rfl hm rfl 9 ?_
  refine value_object b 0 cap c W hr 9 false ?_
  refine (object_any b 0 cap c W hr hws h44).mono ?_
  rintro e w' ⟨hq, he⟩
  exact ⟨hq, he.trans (resObj_no h).symm⟩

/-- the four texts in memory -/
def W4 (w : World) (c : Int) : World :=
  (((w.alloc (.cells #[.int .u8 91, .int .u8 110, .int .u8 117, .int .u8 108, .int .u8 108, .int .u8 c, .int .u8 110, .int .u8 117, .int .u8 108, .int .u8 108, .int .u8 93] 5)).alloc
    (.cells #[.int .u8 91, .int .u8 110, .int .u8 117, .int .u8 108, .int .u8 108, .int .u8 c] 5)).alloc
    (.cells #[.int .u8 91, .int .u8 110, .int .u8 117, .int .u8 108, .int .u8 108, .int .u8 c, .int .u8 93] 5)).alloc
    (.cells #[.int .u8 123, .int .u8 34, .int .u8 97, .int .u8 34, .int .u8 58, .int .u8 110, .int .u8 117, .int .u8 108, .int .u8 108, .int .u8 c] 5)

theorem W4_below (w : World) (c : Int) : Below w.heap.size w (W4 w c) :=
  ((((Below.refl _ _).alloc (Nat.le_refl _) _).alloc (by simp) _).alloc (by simp; omega) _).alloc (by simp; omega) _

theorem reads_new (w : World) (zs : List Int) (t : TypeId) (b : Nat) (hb : b = w.heap.size) : Reads (w.alloc (.cells (zs.map (Value.int .u8)).toArray t)) b 0 zs := by
  intro i hi
  subst hb
  rw [World.cell?_alloc_new]
  simp [List.getElem?_eq_getElem hi]

theorem reads_alloc {w : World} {b off : Nat} {zs : List Int} (h : Reads w b off zs) (hb : b < w.heap.size) (o : Obj) : Reads (w.alloc o) b off zs := by
  intro i hi
  rw [World.cell?_alloc_past _ _ _ hb]
  exact h i hi

theorem W4_1 (w : World) (c : Int) : Reads (W4 w c) w.heap.size 0 (txt c [110, 117, 108, 108, 93]) :=
  reads_alloc (reads_alloc (reads_alloc (reads_new w (txt c [110, 117, 108, 108, 93]) 5 _ rfl) (by simp) _) (by simp; omega) _) (by simp; omega) _

theorem W4_2 (w : World) (c : Int) : Reads (W4 w c) (w.heap.size + 1) 0 (txt c []) :=
  reads_alloc (reads_alloc (reads_new _ (txt c []) 5 _ (by simp)) (by simp) _) (by simp) _

theorem W4_3 (w : World) (c : Int) : Reads (W4 w c) (w.heap.size + 1 + 1) 0 (txt c [93]) :=
  reads_alloc (reads_new _ (txt c [93]) 5 _ (by simp)) (by simp) _

theorem W4_4 (w : World) (c : Int) : Reads (W4 w c) (w.heap.size + 1 + 1 + 1) 0 (objText c) :=
  reads_new _ (objText c) 5 _ (by simp)

set_option maxHeartbeats 2000000 in
theorem follows_any (c : Int) (w : World) : Calls Try.prog 15 #[.int .u8 c] w fun e w' => e = .returned (.bool (endB c)) ∧ Below w.heap.size w w' := by
  have hm : ∀ n, n ≤ 11 → n ≤ maxLen := fun n h => by unfold maxLen; omega
  by_cases h44 : c = 44
  · have H1 := hid_of (top_comma w.heap.size 11 c (W4 w c) (W4_1 w c) h44)
    have HC := hid_of h44
    clear h44 hm
    go_enter Try.func15, Try.ntmps15
    go_wp2_with fail
    refine H1.out.mono ?_
    rintro e w' ⟨rfl, q, rfl⟩
    go_wp2_with fail
    go_ret
    exact ⟨by simp [endB, HC.out], below_drewN (W4_below w c) q⟩
  · have h44' : (c == 44) = false := by simpa using h44
    by_cases h93 : c = 93
    · have H1 := hid_of (top_close w.heap.size 11 11 c [110, 117, 108, 108, 93] (W4 w c) (W4_1 w c) rfl (hm _ (by omega)) h93 rfl)
      have H2 := hid_of (fun q => top_close (w.heap.size + 1) 6 6 c [] ((W4 w c).drewN q) (W4_2 w c) rfl (hm _ (by omega)) h93 rfl)
      have HC := hid_of h93
      clear h44 h44' h93 hm
      go_enter Try.func15, Try.ntmps15
      go_wp2_with fail
      refine H1.out.mono ?_
      rintro e w' ⟨rfl, q, rfl⟩
      go_wp2_with fail
      refine (H2.out _).mono ?_
      rintro e w' ⟨rfl, q', rfl⟩
      go_wp2_with fail
      go_ret
      exact ⟨by simp [endB, HC.out], below_drewN (W4_below w c) _⟩
    · cases hws : wsB c
      · have H1 := hid_of (top_plain w.heap.size 11 11 c [110, 117, 108, 108, 93] (W4 w c) (W4_1 w c) rfl (hm _ (by omega)) hws h44' h93)
        have H2 := hid_of (fun q => top_plain (w.heap.size + 1) 6 6 c [] ((W4 w c).drewN q) (W4_2 w c) rfl (hm _ (by omega)) hws h44' h93)
        have H3 := hid_of (fun q => top_plain (w.heap.size + 1 + 1) 7 7 c [93] ((W4 w c).drewN q) (W4_3 w c) rfl (hm _ (by omega)) hws h44' h93)
        by_cases h125 : c = 125
        · have H4 := hid_of (fun q => top_obj_yes (w.heap.size + 1 + 1 + 1) 10 c ((W4 w c).drewN q) (W4_4 w c) h125)
          have HC : Hid (endB c = true) := by show endB c = true; simp [endB, h125]
          clear h44 h44' h93 hm h125 hws
          go_enter Try.func15, Try.ntmps15
          go_wp2_with fail
          refine H1.out.mono ?_
          rintro e w' ⟨rfl, q, rfl⟩
          go_wp2_with fail
          refine (H2.out _).mono ?_
          rintro e w' ⟨rfl, q', rfl⟩
          go_wp2_with fail
          refine (H3.out _).mono ?_
          rintro e w' ⟨rfl, q'', rfl⟩
          go_wp2_with fail
          refine (H4.out _).mono ?_
          rintro e w' ⟨rfl, q4, rfl⟩
          go_wp2_with fail
          go_ret
          exact ⟨by rw [HC.out]; rfl, below_drewN (W4_below w c) _⟩
        · have H4 := hid_of (fun q => top_obj_no (w.heap.size + 1 + 1 + 1) 10 c ((W4 w c).drewN q) (W4_4 w c) hws h44' h125)
          have HC : Hid (endB c = false) := by show endB c = false; simp [endB, h125, h44, h93, hws]
          clear h44 h44' h93 hm h125 hws
          go_enter Try.func15, Try.ntmps15
          go_wp2_with fail
          refine H1.out.mono ?_
          rintro e w' ⟨rfl, q, rfl⟩
          go_wp2_with fail
          refine (H2.out _).mono ?_
          rintro e w' ⟨rfl, q', rfl⟩
          go_wp2_with fail
          refine (H3.out _).mono ?_
          rintro e w' ⟨rfl, q'', rfl⟩
          go_wp2_with fail
          refine (H4.out _).mono ?_
          rintro e w' ⟨rfl, q4, rfl⟩
          go_wp2_with fail
          go_ret
          exact ⟨by rw [HC.out]; rfl, below_drewN (W4_below w c) _⟩
      · have H1 := hid_of (top_ws_no w.heap.size 11 11 c 110 [110, 117, 108, 108, 93] (W4 w c) (W4_1 w c) rfl (hm _ (by omega)) hws (fun _ => rfl) rfl rfl (by omega))
        have H2 := hid_of (fun q => top_ws_no (w.heap.size + 1) 6 6 c 0 [] ((W4 w c).drewN q) (W4_2 w c) rfl (hm _ (by omega)) hws (fun h => by omega) rfl rfl (by omega))
        have H3 := hid_of (fun q => top_ws_yes (w.heap.size + 1 + 1) 7 c ((W4 w c).drewN q) (W4_3 w c) hws)
        have HC : Hid (endB c = true) := by show endB c = true; simp [endB, hws]
        clear h44 h44' h93 hm hws
        go_enter Try.func15, Try.ntmps15
        go_wp2_with fail
        refine H1.out.mono ?_
        rintro e w' ⟨rfl, q, rfl⟩
        go_wp2_with fail
        refine (H2.out _).mono ?_
        rintro e w' ⟨rfl, q', rfl⟩
        go_wp2_with fail
        refine (H3.out _).mono ?_
        rintro e w' ⟨rfl, q'', rfl⟩
        go_wp2_with fail
        go_ret
        exact ⟨by rw [HC.out]; rfl, below_drewN (W4_below w c) _⟩

theorem law1 (c : Int) (w : World) : Calls Try.prog 5 #[.int .u8 c] w fun e w' => e = .returned (.bool true) ∧ Below w.heap.size w w' := by
  have H1 := hid_of (zzEnds_any c w)
  have H2 := hid_of (follows_any c w)
  go_enter Try.func5, Try.ntmps5
  go_wp2_with fail
  refine H1.out.mono ?_
  rintro e w' ⟨rfl, hw⟩
  subst w'
  go_wp2_with fail
  refine H2.out.mono ?_
  rintro e w' ⟨rfl, hb⟩
  go_wp2_with fail
  go_ret
  exact ⟨by simp, hb⟩

end Go.Proofs.Qxb6608665a
