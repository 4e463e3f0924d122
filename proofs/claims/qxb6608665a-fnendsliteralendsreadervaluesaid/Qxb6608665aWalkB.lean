import Derived.Test.Qxb6608665aWalkA
namespace Go.Proofs.Qxb6608665a
open Go.RowKit

theorem results_tmp5 {fn : Func} {t u v x y : Tmp} (h : fn.results = #[.tmp t, .tmp u, .tmp v, .tmp x, .tmp y]) (tmps : Array Value) (P : Program) (w : World) :
    (results fn tmps).run P w = .ok (.tuple #[tmps.getD t undef, tmps.getD u undef, tmps.getD v undef, tmps.getD x undef, tmps.getD y undef]) w := by
  simp [results, h]

/-- what the array with one element answers -/
def resOne (p n : Nat) (d : Int) : Value := if p < n ∧ d = 93 then .tuple #[.int .i64 ((p : Int) + 1), .bool true, .int .i64 1, .int .i64 (-1), .int .i64 p] else .tuple #[.int .i64 p, .bool false, .int .i64 0, .int .i64 (-1), .int .i64 (-1)]
theorem resOne_yes {p n : Nat} {d : Int} (h : p < n) (hd : d = 93) : Ending.returned (.tuple #[.int .i64 ((p : Int) + 1), .bool true, .int .i64 1, .int .i64 (-1), .int .i64 p]) = .returned (resOne p n d) := by rw [resOne, if_pos ⟨h, hd⟩]
theorem resOne_no {p n : Nat} {d : Int} (h : ¬ (p < n ∧ d = 93)) : Ending.returned (.tuple #[.int .i64 p, .bool false, .int .i64 0, .int .i64 (-1), .int .i64 (-1)]) = .returned (resOne p n d) := by rw [resOne, if_neg h]

/-- one element null at 1; the skip behind it ends at p -/
theorem array_one (b off n cap p : Nat) (zs : List Int) (w : World) (hr : Reads w b off zs) (hn : zs.length = n) (hm : n ≤ maxLen) (h : nullAt zs 1)
    (hp : p ≤ n) (hp5 : 5 ≤ p) (d : Int) (hd : p < n → zs.getD p 0 = d) (h44 : p < n → (d == 44) = false)
    (hsk : ∀ q, Calls Try.prog 26 #[.slice (some ⟨b, off, none⟩) n cap, .int .i64 5] (w.drewN q) fun e w' => e = .returned (.int .i64 p) ∧ w' = w.drewN q) :
    Calls Try.prog 27 #[.slice (some ⟨b, off, none⟩) n cap, .int .i64 0, .int .i64 (-1)] w fun e w' =>
      (∃ q, w' = w.drewN q) ∧ e = .returned (resOne p n d) := by
  have hs1 := skip0 b off n cap zs 1 1 rfl w hr hn hm (by have := h.1; omega) (fun _ => by rw [h.2.1]; rfl)
  have HS1 := hid_of hs1
  have hv := value_null b off n cap zs 1 1 rfl w hr hn hm h
  have HV := hid_of hv
  have HSK := hid_of hsk
  clear hs1 hv hsk
  unfold maxLen at hm
  have hn5 : 5 ≤ n := by have := h.1; omega
  have hcell1 : w.cell? ⟨b, off + 1, none⟩ = some (.int .u8 110) := by
    have := hr 1 (by omega); rw [h.2.1] at this; exact this
  have hcellp : p < n → w.cell? ⟨b, off + p, none⟩ = some (.int .u8 d) := fun hlt => by
    have := hr p (by omega); rw [hd hlt] at this; exact this
  clear h hr hn hd
  go_enter Try.func27, Try.ntmps27
  go_wp2_with (go_at_call 26; refine HS1.out.mono ?_; rintro e w' ⟨rfl, hw⟩; subst w')
  go_loopw [11, 12, 13] (fun j c s wr => j = .int .i64 1 ∧ c = .int .i64 0 ∧ s = .int .i64 (-1) ∧ wr = w) (fun _ _ _ _ => 0)
  case atStart => exact ⟨rfl, rfl, rfl, rfl⟩
  case round =>
    obtain ⟨rfl, rfl, rfl, rfl⟩ := hrel
    by_cases hlt : p < n
    · have hc := hcellp hlt
      have h44' := h44 hlt
      clear hcellp h44
      by_cases h93 : d = 93
      · go_wp2_with (first | (go_at_call 29; refine HV.out.mono ?_; rintro e w' ⟨rfl, q, rfl⟩) | (go_at_call 26; refine (HSK.out _).mono ?_; rintro e w' ⟨rfl, hw⟩; subst w'))
        (try simp only [Exit.inBlock, Exit.then]); refine bodyPost_ret (results_tmp5 rfl _ _ _) rfl ⟨⟨_, rfl⟩, ?_⟩
        exact resOne_yes hlt h93
      · go_wp2_with (first | (go_at_call 29; refine HV.out.mono ?_; rintro e w' ⟨rfl, q, rfl⟩) | (go_at_call 26; refine (HSK.out _).mono ?_; rintro e w' ⟨rfl, hw⟩; subst w'))
        (try simp only [Exit.inBlock, Exit.then]); refine bodyPost_ret (results_tmp5 rfl _ _ _) rfl ⟨⟨_, rfl⟩, ?_⟩
        exact resOne_no (fun h => h93 h.2)
    · clear hcellp h44
      go_wp2_with (first | (go_at_call 29; refine HV.out.mono ?_; rintro e w' ⟨rfl, q, rfl⟩) | (go_at_call 26; refine (HSK.out _).mono ?_; rintro e w' ⟨rfl, hw⟩; subst w'))
      (try simp only [Exit.inBlock, Exit.then]); refine bodyPost_ret (results_tmp5 rfl _ _ _) rfl ⟨⟨_, rfl⟩, ?_⟩
      exact resOne_no (fun h => hlt h.1)

/-- two elements null, at 1 and at 6, a comma between, the bracket at 10 -/
theorem array_two (b off n cap : Nat) (zs : List Int) (w : World) (hr : Reads w b off zs) (hn : zs.length = n) (hm : n ≤ maxLen) (h : nullAt zs 1) (h5 : zs.getD 5 0 = 44) (h6 : nullAt zs 6) (h10 : zs.getD 10 0 = 93) (hl : 11 ≤ n) :
    Calls Try.prog 27 #[.slice (some ⟨b, off, none⟩) n cap, .int .i64 0, .int .i64 (-1)] w fun e w' =>
      (∃ q, w' = w.drewN q) ∧ e = .returned (.tuple #[.int .i64 11, .bool true, .int .i64 2, .int .i64 (-1), .int .i64 10]) := by
  have HS1 := hid_of (skip0 b off n cap zs 1 1 rfl w hr hn hm (by omega) (fun _ => by rw [h.2.1]; rfl))
  have HV1 := hid_of (value_null b off n cap zs 1 1 rfl w hr hn hm h)
  have HS5 := hid_of (fun q => skip0 b off n cap zs 5 5 rfl (w.drewN q) hr hn hm (by omega) (fun _ => by rw [h5]; rfl))
  have HS6 := hid_of (fun q => skip0 b off n cap zs 6 6 rfl (w.drewN q) hr hn hm (by omega) (fun _ => by rw [h6.2.1]; rfl))
  have HV6 := hid_of (fun q => value_null b off n cap zs 6 6 rfl (w.drewN q) hr hn hm h6)
  have HS10 := hid_of (fun q => skip0 b off n cap zs 10 10 rfl (w.drewN q) hr hn hm (by omega) (fun _ => by rw [h10]; rfl))
  unfold maxLen at hm
  have hcell1 : w.cell? ⟨b, off + 1, none⟩ = some (.int .u8 110) := by have := hr 1 (by omega); rw [h.2.1] at this; exact this
  have hcell5 : w.cell? ⟨b, off + 5, none⟩ = some (.int .u8 44) := by have := hr 5 (by omega); rw [h5] at this; exact this
  have hcell10 : w.cell? ⟨b, off + 10, none⟩ = some (.int .u8 93) := by have := hr 10 (by omega); rw [h10] at this; exact this
  clear h hr hn h5 h6 h10
  go_enter Try.func27, Try.ntmps27
  go_wp2_with (go_at_call 26; refine HS1.out.mono ?_; rintro e w' ⟨rfl, hw⟩; subst w')
  go_loopw [11, 12, 13] (fun j c s wr => s = .int .i64 (-1) ∧ ((j = .int .i64 1 ∧ c = .int .i64 0 ∧ wr = w) ∨ (j = .int .i64 6 ∧ c = .int .i64 1 ∧ ∃ q, wr = w.drewN q))) (fun j _ _ _ => 6 - (intOf j).toNat)
  case atStart => exact ⟨rfl, .inl ⟨rfl, rfl, rfl⟩⟩
  case round =>
    rcases hrel with ⟨rfl, ⟨rfl, rfl, rfl⟩ | ⟨rfl, rfl, q0, rfl⟩⟩
    · go_wp2_with fail
      refine HV1.out.mono ?_
      rintro e w' ⟨rfl, q, rfl⟩
      go_wp2_with fail
      refine (HS5.out _).mono ?_
      rintro e w' ⟨rfl, hw⟩
      subst w'
      go_wp2_with fail
      refine (HS6.out _).mono ?_
      rintro e w' ⟨rfl, hw⟩
      subst w'
      go_wp2_with fail
      go_roundw
      case rel => exact ⟨rfl, .inr ⟨rfl, rfl, _, rfl⟩⟩
      case measure => simp [intOf]
    · go_wp2_with fail
      refine (HV6.out _).mono ?_
      rintro e w' ⟨rfl, q, rfl⟩
      go_wp2_with fail
      refine (HS10.out _).mono ?_
      rintro e w' ⟨rfl, hw⟩
      subst w'
      go_wp2_with fail
      (try simp only [Exit.inBlock, Exit.then]); refine bodyPost_ret (results_tmp5 rfl _ _ _) rfl ⟨⟨_, rfl⟩, ?_⟩
      rfl

/-- the value that opens with a bracket is the array -/
theorem value_array (b off n cap : Nat) (zs : List Int) (w : World) (hr : Reads w b off zs) (hn : zs.length = n) (hm : n ≤ maxLen) (h0 : zs.getD 0 0 = 91) (hl : 1 ≤ n) (x0 : Int) (ok : Bool) (x2 x3 x4 : Int)
    (ha : Calls Try.prog 27 #[.slice (some ⟨b, off, none⟩) n cap, .int .i64 0, .int .i64 (-1)] w fun e w' => (∃ q, w' = w.drewN q) ∧ e = .returned (.tuple #[.int .i64 x0, .bool ok, .int .i64 x2, .int .i64 x3, .int .i64 x4])) :
    Calls Try.prog 29 #[.slice (some ⟨b, off, none⟩) n cap, .int .i64 0] w fun e w' => (∃ q, w' = w.drewN q) ∧ e = .returned (.tuple #[.int .i64 x0, .bool ok]) := by
  have HA := hid_of ha
  clear ha
  unfold maxLen at hm
  have hcell0 : w.cell? ⟨b, off, none⟩ = some (.int .u8 91) := by have := hr 0 (by omega); rw [h0] at this; exact this
  clear hr hn h0
  go_enter Try.func29, Try.ntmps29
  go_wp2_with (go_at_call 27; refine HA.out.mono ?_; rintro e w' ⟨⟨q, rfl⟩, rfl⟩)
  go_ret2
  exact ⟨⟨q, rfl⟩, rfl⟩

end Go.Proofs.Qxb6608665a
