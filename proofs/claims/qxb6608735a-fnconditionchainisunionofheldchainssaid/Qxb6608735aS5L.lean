import Derived.Test.Qxb6608735aS5K
import Derived.Lib.Builder
import Derived.Deep.RegionHeld3
namespace Go.Proofs.Qxb6608735a
open Go.RowKit Go.Maps Go.WideMaps Go.Joins
set_option linter.unusedVariables false

theorem info76 : (Try.prog.info? 76).isSome = true := by kernel_rfl

/-- the owner at a position -/
def Own (hp ho : List Int) (p o : Int) : Prop := ∃ i, i < hp.length ∧ hp.getD i 0 = p ∧ ho.getD i 0 = o
/-- held: the owner is not gone -/
def Got (hp ho : List Int) (p : Int) : Prop := ∃ o, Own hp ho p o ∧ -1 ≤ o
/-- a key on the chain of the mapping that brought the position -/
def OnCh (hp ho lo hi lk : List Int) (p v : Int) : Prop := ∃ j : Nat, Own hp ho p j ∧ v ∈ chainL lo hi lk j

theorem Own.uniq {hp ho : List Int} (ha : Asc hp) {p o o' : Int} (h : Own hp ho p o) (h' : Own hp ho p o') : o = o' := by
  obtain ⟨i, hi, e1, e2⟩ := h
  obtain ⟨j, hj, f1, f2⟩ := h'
  have : i = j := by
    rcases Nat.lt_trichotomy i j with h | h | h
    · have := ha i j h hj; omega
    · exact h
    · have := ha j i h hi; omega
  subst this
  rw [← e2, ← f2]

theorem chainL_mem {lo hi lk : List Int} {j : Nat} {v : Int} (h : v ∈ chainL lo hi lk j) : v ∈ lk := List.mem_of_mem_drop (List.mem_of_mem_take h)
theorem chainL_get {lo hi lk : List Int} {j i : Nat} (hi' : i < (chainL lo hi lk j).length) : (chainL lo hi lk j).getD i 0 = lk.getD ((lo.getD j 0).toNat + i) 0 := by
  have h := hi'
  rw [chainL, List.length_take, List.length_drop] at h
  have e : (chainL lo hi lk j)[i]? = lk[(lo.getD j 0).toNat + i]? := by rw [chainL, List.getElem?_take_of_lt (by omega), List.getElem?_drop]
  show (chainL lo hi lk j)[i]?.getD 0 = lk[(lo.getD j 0).toNat + i]?.getD 0
  rw [e]
theorem chain_up {lo hi lk : List Int} {j : Nat} (h : ChainOk lk lo hi j) : Up (chainL lo hi lk j) := by
  obtain ⟨h1, h2, h3, h4⟩ := h
  apply up_of_asc
  intro i k hik hk
  have hl : (chainL lo hi lk j).length = (hi.getD j 0).toNat - (lo.getD j 0).toNat := by
    rw [chainL, List.length_take, List.length_drop]; omega
  rw [chainL_get (by omega), chainL_get hk]
  have key : ∀ d : Nat, i + d + 1 < (chainL lo hi lk j).length → lk.getD ((lo.getD j 0).toNat + i) 0 < lk.getD ((lo.getD j 0).toNat + (i + d + 1)) 0 := by
    intro d
    induction d with
    | zero =>
      intro hd
      have := h4 ((lo.getD j 0).toNat + (i + 0 + 1)) (by omega) (by omega)
      rw [show (lo.getD j 0).toNat + (i + 0 + 1) - 1 = (lo.getD j 0).toNat + i from by omega] at this
      exact this
    | succ d ih =>
      intro hd
      have h1 := ih (by omega)
      have := h4 ((lo.getD j 0).toNat + (i + (d + 1) + 1)) (by omega) (by omega)
      rw [show (lo.getD j 0).toNat + (i + (d + 1) + 1) - 1 = (lo.getD j 0).toNat + (i + d + 1) from by omega] at this
      omega
  have := key (k - i - 1) (by omega)
  rw [show i + (k - i - 1) + 1 = k from by omega] at this
  exact this
theorem up_len : ∀ {zs lk : List Int}, Up zs → (∀ v ∈ zs, v ∈ lk) → zs.length ≤ lk.length
  | [], _, _, _ => Nat.zero_le _
  | z :: zs, lk, hu, h => by
    obtain ⟨h1, h2⟩ := List.pairwise_cons.1 hu
    have hm : z ∈ lk := h z (by simp)
    have := up_len (zs := zs) (lk := lk.erase z) h2 (fun v hv => by
      have hne : v ≠ z := by have := h1 v hv; omega
      rw [List.mem_erase_of_ne hne]
      exact h v (by simp [hv]))
    rw [List.length_erase_of_mem hm] at this
    have : 0 < lk.length := List.length_pos_of_mem hm
    simp; omega

theorem at_no {hp ho : List Int} {p : Int} (h : ∀ i, i < hp.length → hp.getD i 0 = p → ho.getD i 0 = -2) : ¬ Got hp ho p := by
  rintro ⟨o, ⟨i, hi, e1, e2⟩, h1⟩
  have := h i hi e1
  omega

theorem at_two {hp ho lo hi lk : List Int} {x : Int} {B : Nat} {w w2 : World} {e : Ending} (h : AtB hp ho lo hi lk x B w e w2) (ha : Asc hp) (hc : ∀ j, j < lo.length → ChainOk lk lo hi j) (hB : B ≤ w.heap.size) :
    (e = .returned (.tuple #[.slice none 0 0, .bool false]) ∧ Below w.heap.size w w2 ∧ ¬ Got hp ho x) ∨
    (∃ a n c ys, e = .returned (.tuple #[.slice a n c, .bool true]) ∧ Below w.heap.size w w2 ∧ Got hp ho x ∧ n = ys.length ∧ n ≤ c ∧ HasI .i64 w2 w2.heap.size a ys ∧ Up ys ∧ ∀ v, v ∈ ys ↔ OnCh hp ho lo hi lk x v) := by
  rcases h with ⟨rfl, hb, h⟩ | ⟨rfl, hb, h⟩ | ⟨a, n, c, rfl, hb, i, j, h1, h2, h3, h4, h5, h6, h7, h8⟩
  · exact .inl ⟨rfl, hb, at_no h⟩
  · refine .inr ⟨none, 0, 0, [], rfl, hb, ⟨-1, h, by omega⟩, rfl, Nat.le_refl _, fun h => absurd h (by simp), List.Pairwise.nil, fun v => ⟨fun h => absurd h (by simp), ?_⟩⟩
    rintro ⟨j, ho, _⟩
    have := Own.uniq ha h ho
    omega
  · have hown : Own hp ho x j := ⟨i, h1, h2, h3⟩
    refine .inr ⟨a, n, c, _, rfl, hb, ⟨j, hown, by omega⟩, h5, h6, h8.mono (Nat.le_trans hB hb.size), chain_up (hc j h4), fun v => ⟨fun hv => ⟨j, hown, hv⟩, ?_⟩⟩
    rintro ⟨j', ho, hv⟩
    have := Own.uniq ha hown ho
    have : j = j' := by omega
    rw [this]; exact hv
theorem cond_step {hp ho lo hi lk ps zs ys us : List Int} {k : Nat} (h1 : ∀ v, v ∈ zs ↔ ∃ u, u < k ∧ OnCh hp ho lo hi lk (ps.getD u 0) v) (h2 : ∀ v, v ∈ ys ↔ OnCh hp ho lo hi lk (ps.getD k 0) v) (hU : Union zs ys us) :
    ∀ v, v ∈ us ↔ ∃ u, u < k + 1 ∧ OnCh hp ho lo hi lk (ps.getD u 0) v := by
  intro v
  rw [hU.2 v, h1 v, h2 v]
  constructor
  · rintro (⟨u, hu, h⟩ | h)
    · exact ⟨u, by omega, h⟩
    · exact ⟨k, by omega, h⟩
  · rintro ⟨u, hu, h⟩
    by_cases e : u = k
    · subst e; exact .inr h
    · exact .inl ⟨u, by omega, h⟩
theorem HasN.drew {w : World} {B : Nat} {a : Option Addr} {ss : List ByteArray} (h : HasN w B a ss) : HasN w.drew B a ss := h

/-- how far the positions have been read -/
def CondR (hp ho lo hi lk ps : List Int) (w0 : World) (v38 v6 : Value) (wr : World) : Prop :=
  ∃ (k : Nat) (a : Option Addr) (n c : Nat) (zs : List Int), v38 = .int .i64 k ∧ v6 = .slice a n c ∧ k ≤ ps.length ∧ n = zs.length ∧ n ≤ c ∧ HasI .i64 wr wr.heap.size a zs ∧ Below w0.heap.size w0 wr ∧ Up zs ∧
    (∀ v, v ∈ zs ↔ ∃ u, u < k ∧ OnCh hp ho lo hi lk (ps.getD u 0) v) ∧ ∀ u, u < k → Got hp ho (ps.getD u 0)
/-- how far the others have been read -/
def OthR (os cs : List ByteArray) (w0 : World) (v58 : Value) (wr : World) : Prop :=
  ∃ k : Nat, v58 = .int .i64 k ∧ k ≤ cs.length ∧ Below w0.heap.size w0 wr ∧ ∀ u, u < k → ∃ x, x < os.length ∧ os.getD x ByteArray.empty = cs.getD u ByteArray.empty
/-- every position and every other is held -/
def AllMet (hp ho ps : List Int) (os cs : List ByteArray) : Prop := (∀ u, u < ps.length → Got hp ho (ps.getD u 0)) ∧ ∀ u, u < cs.length → ∃ x, x < os.length ∧ os.getD x ByteArray.empty = cs.getD u ByteArray.empty
def CondB (hp ho lo hi lk ps : List Int) (os cs : List ByteArray) (w : World) (e : Ending) (w' : World) : Prop :=
  (e = .returned (.tuple #[.slice none 0 0, .bool false]) ∧ Below w.heap.size w w' ∧ ¬ AllMet hp ho ps os cs) ∨
  (∃ a n c zs, e = .returned (.tuple #[.slice a n c, .bool true]) ∧ Below w.heap.size w w' ∧ AllMet hp ho ps os cs ∧ n = zs.length ∧ HasI .i64 w' w'.heap.size a zs ∧ Up zs ∧ ∀ v, v ∈ zs ↔ ∃ u, u < ps.length ∧ OnCh hp ho lo hi lk (ps.getD u 0) v)

set_option maxRecDepth 20000 in
set_option maxHeartbeats 2000000 in
theorem condChain_any (hb ab B : Nat) (a0 a2 a3 : Option Addr) (n0 c0 n2 c2 n3 c3 : Nat) (hp ho lo hi lk ps : List Int) (os cs : List ByteArray) (w : World)
    (hh : HoldC w B hb (.pointer (some ⟨ab, 0, none⟩)) hp ho lo hi lk os) (hB : B ≤ w.heap.size) (h2 : HasI .i64 w B a2 ps) (h3 : HasN w B a3 cs) (l2 : ps.length = n2) (l3 : cs.length = n3) (m2 : n2 ≤ 4096) (m3 : n3 ≤ 4096)
    (hm : hp.length ≤ 4096) (hb32 : I32 hp) (hasc : Asc hp) (hps : ∀ u, u < ps.length → 0 ≤ ps.getD u 0 ∧ ps.getD u 0 ≤ 4096) (hol : ho.length = hp.length) (ho1 : ∀ i, i < ho.length → -2 ≤ ho.getD i 0 ∧ ho.getD i 0 < lo.length)
    (hch : ∀ j, j < lo.length → ChainOk lk lo hi j) (hlk : lk.length ≤ 4096) (hlo : lo.length ≤ 4096) (hos : os.length ≤ 4096) :
    Calls Try.prog 44 #[.agg #[.pointer (some ⟨hb, 0, none⟩)], .agg #[.slice a0 n0 c0, .pointer (some ⟨ab, 0, none⟩), .slice a2 n2 c2, .slice a3 n3 c3]] w fun e w' => CondB hp ho lo hi lk ps os cs w e w' := by
  obtain ⟨w0, hw0⟩ : ∃ w0, w0 = (w.alloc (.cells #[.pointer (some ⟨hb, 0, none⟩)] 32)).alloc (.cells #[.slice a0 n0 c0, .pointer (some ⟨ab, 0, none⟩), .slice a2 n2 c2, .slice a3 n3 c3] 60) := ⟨_, rfl⟩
  have B0 : Hid (Below w.heap.size w w0) := by rw [hw0]; exact ((Below.refl _ _).alloc (Nat.le_refl _) _).alloc (by simp) _
  have S0 : Hid (w0.heap.size = w.heap.size + 2) := by rw [Hid, hw0]; simp
  have r0 : w0.cell? ⟨w.heap.size, 0, none⟩ = some (.pointer (some ⟨hb, 0, none⟩)) := by rw [hw0]; simp [go_sem]
  have r1 : w0.cell? ⟨w.heap.size + 1, 1, none⟩ = some (.pointer (some ⟨ab, 0, none⟩)) := by rw [hw0]; simp [go_sem]
  have r2 : w0.cell? ⟨w.heap.size + 1, 2, none⟩ = some (.slice a2 n2 c2) := by rw [hw0]; simp [go_sem]
  have r3 : w0.cell? ⟨w.heap.size + 1, 3, none⟩ = some (.slice a3 n3 c3) := by rw [hw0]; simp [go_sem]
  have HH := hid_of (hh.below B0.out hB)
  have H2 := hid_of (h2.below B0.out hB)
  have H3 := hid_of (h3.below B0.out hB)
  have BB : Hid (B ≤ w0.heap.size) := by have := S0.out; rw [Hid]; omega
  have L2 := hid_of l2
  have L3 := hid_of l3
  have HI := hid_of hb32
  have HA := hid_of hasc
  have HP := hid_of hps
  have HOL := hid_of hol
  have HO := hid_of ho1
  have HC := hid_of hch
  clear hh h2 h3 l2 l3 hb32 hasc hps hol ho1 hch
  go_enter Try.func44, Try.ntmps44
  go_wp2_with fail
  rw [← hw0]
  clear hw0
  obtain ⟨nb, cb, gh, ga, oa, oc, la, lc, k1, k2, k3, k4, e0, e1, e2, e3, e4, hN, f0, g0, g1, hI, F1, F2, cc1, cc2⟩ := HH.out.ex
  have E4 := hid_of e4
  have HN := hid_of hN
  clear e1 e2 e3 e4 hN g0 g1 hI F1 F2 cc1 cc2 k1 k2 k3 k4
  obtain ⟨i76, hi76⟩ := Option.isSome_iff_exists.1 info76
  have hpq := fun w => Lib.run_neq_ptr_same (P := Try.prog) w ⟨ab, 0, none⟩ Try.underlying46 hi76
  go_quiet (fail)
  clear hpq hi76 e0 f0 r1
  have B1 := hid_of (below_drewN B0.out nq)
  have HH1 := hid_of (HH.out.drewN nq)
  have H21 := hid_of (H2.out.drewN nq)
  have H31 := H3.out.drewN nq
  have H31 := hid_of H31
  have S1 : Hid ((w0.drewN nq).heap.size = w.heap.size + 2) := S0.out
  have BB1 : Hid (B ≤ (w0.drewN nq).heap.size) := BB.out
  have q0 : (w0.drewN nq).cell? ⟨w.heap.size, 0, none⟩ = some (.pointer (some ⟨hb, 0, none⟩)) := r0
  have q2 : (w0.drewN nq).cell? ⟨w.heap.size + 1, 2, none⟩ = some (.slice a2 n2 c2) := r2
  have q3 : (w0.drewN nq).cell? ⟨w.heap.size + 1, 3, none⟩ = some (.slice a3 n3 c3) := r3
  have E41 : Hid ((w0.drewN nq).cell? ⟨hb, 4, none⟩ = some (.slice oa os.length oc)) := E4.out
  have HN1 : Hid (HasN (w0.drewN nq) B oa os) := HN.out.drewN nq
  clear B0 HH H2 H3 S0 BB r0 r2 r3 E4 HN
  generalize w0.drewN nq = w1 at B1 HH1 H21 H31 S1 BB1 q0 q2 q3 E41 HN1 ⊢
  have Q0 := hid_of q0
  have Q3 := hid_of q3
  clear q3
  go_wp2_with fail
  go_loopw [38, 6] (fun v38 v6 wr => CondR hp ho lo hi lk ps w1 v38 v6 wr) (fun v38 _ _ => n2 - (intOf v38).toNat)
  case atStart => exact ⟨0, none, 0, 0, [], rfl, rfl, by omega, rfl, by omega, fun h => absurd h (by simp), Below.refl _ _, List.Pairwise.nil, fun v => ⟨fun h => absurd h (by simp), fun ⟨u, hu, _⟩ => absurd hu (by omega)⟩, fun u hu => absurd hu (by omega)⟩
  case round =>
    obtain ⟨k, a, n, c, zs, rfl, rfl, hk, hn, hnc, hz, hbel, hup, hmem, hgot⟩ := hrel
    have HB2 := hid_of hbel
    have HZ := hid_of hz
    have HNn := hid_of hn
    have HU := hid_of hup
    have HME := hid_of hmem
    have HG := hid_of hgot
    rw [L2.out] at hk
    have q1 : wr.cell? ⟨w.heap.size, 0, none⟩ = some (.pointer (some ⟨hb, 0, none⟩)) := by
      rw [hbel.cell (p := ⟨w.heap.size, 0, none⟩) (by have := S1.out; show w.heap.size < _; omega)]; exact Q0.out
    have SZ := hid_of hbel.size
    have HHr := hid_of (HH1.out.below hbel BB1.out)
    clear hz hbel hn hup hmem hgot q0
    by_cases hlt : k < n2
    · obtain ⟨b, off, rfl, hbB, hc⟩ := H21.out (by rw [L2.out]; omega)
      have hcell : wr.cell? ⟨b, off + k, none⟩ = some (.int .i64 (ps.getD k 0)) := by
        rw [HB2.out.cell (p := ⟨b, off + k, none⟩) (by have := BB1.out; show b < _; omega)]
        exact hc k (by rw [L2.out]; omega)
      have bx := HP.out k (by rw [L2.out]; exact hlt)
      obtain ⟨x, hx⟩ : ∃ x, x = ps.getD k 0 := ⟨_, rfl⟩
      rw [← hx] at hcell bx
      obtain ⟨bx1, bx2⟩ := bx
      have X := hid_of hx
      have HAt := hid_of (at_any hb B _ hp ho lo hi lk os x wr HHr.out (by have := SZ.out; have := BB1.out; omega) hm HI.out HA.out bx1 bx2 HOL.out HO.out HC.out hlk hlo)
      clear hx hc
      have ZL : Hid (zs.length ≤ 4096) := Nat.le_trans (up_len HU.out (fun v hv => by
        obtain ⟨u, _, j, _, h⟩ := (HME.out v).1 hv
        exact chainL_mem h)) hlk
      go_wp2_with fail
      refine HAt.out.mono ?_
      rintro e w2 hat
      have hat2 := at_two hat HA.out HC.out (by have := SZ.out; have := BB1.out; omega)
      clear hat HAt
      rcases hat2 with ⟨rfl, hb2, hno⟩ | ⟨a', n', c', ys, rfl, hb2, hgot, hn', hnc', hys, hyu, hym⟩
      · have B3 := hid_of (B1.out.trans ((HB2.out.trans (hb2.mono SZ.out)).mono (by have := S1.out; omega)))
        have NO := hid_of hno
        clear hb2 hno
        go_wp2_with fail
        go_ret2
        exact .inl ⟨rfl, B3.out, fun h => NO.out (by rw [X.out]; exact h.1 k (by rw [L2.out]; exact hlt))⟩
      · have B3 := hid_of (HB2.out.trans (hb2.mono SZ.out))
        have S2 := hid_of hb2.size
        have HG2 := hid_of hgot
        have N2 := hid_of hn'
        have HYM := hid_of hym
        have YL : Hid (ys.length ≤ 4096) := Nat.le_trans (up_len hyu (fun v hv => by
          obtain ⟨j, _, h⟩ := (hym v).1 hv
          exact chainL_mem h)) hlk
        have HMer := hid_of (merge_any a a' n c n' c' w2.heap.size zs ys w2 ((HZ.out.below hb2 (Nat.le_refl _)).mono hb2.size) hys (Nat.le_refl _) HNn.out.symm hn'.symm (by rw [HNn.out]; exact ZL.out) (by rw [hn']; exact YL.out) hnc hnc' HU.out hyu)
        clear hb2 hgot hn' hys hyu hym
        go_wp2_with fail
        refine HMer.out.mono ?_
        rintro e w3 ⟨a4, n4, c4, us, rfl, hn4, hnc4, hus, hb3, hun⟩
        have B4 := hid_of (B3.out.trans (hb3.mono B3.out.size))
        have N4 := hid_of hn4
        have HUs := hid_of hus
        have HUn := hid_of hun
        have NC := hid_of hnc4
        clear hn4 hus hun hb3 hnc4 HMer
        go_wp2_with fail
        go_roundw
        case rel =>
          refine ⟨k + 1, a4, n4, c4, us, by go_num, rfl, by rw [L2.out]; omega, N4.out, NC.out, HUs.out, B4.out, HUn.out.1, cond_step HME.out (by rw [← X.out]; exact HYM.out) HUn.out, fun u hu => ?_⟩
          by_cases e : u = k
          · subst e; rw [← X.out]; exact HG2.out
          · exact HG.out u (by omega)
        case measure => simp [intOf]; omega
    · obtain rfl : k = n2 := by omega
      have q3 : wr.cell? ⟨w.heap.size + 1, 3, none⟩ = some (.slice a3 n3 c3) := by
        rw [HB2.out.cell (p := ⟨w.heap.size + 1, 3, none⟩) (by have := S1.out; show w.heap.size + 1 < _; omega)]; exact Q3.out
      have B3 := hid_of (B1.out.trans (HB2.out.mono (by have := S1.out; omega)))
      have E4 : Hid (wr.cell? ⟨hb, 4, none⟩ = some (.slice oa os.length oc)) := by
        rw [Hid, HB2.out.cell (p := ⟨hb, 4, none⟩) (by have := HH1.out.lt; have := BB1.out; show hb < _; omega)]; exact E41.out
      have LT : Hid (hb < w.heap.size) := by have := HH1.out.lt; rw [Hid]; omega
      have HN3 := hid_of (HN1.out.below HB2.out BB1.out)
      have HC3 := hid_of (H31.out.below HB2.out BB1.out)
      have Q1 := hid_of q1
      have BB3 : Hid (B ≤ wr.heap.size) := by have := SZ.out; have := BB1.out; rw [Hid]; omega
      have SZ3 : Hid (w.heap.size + 2 ≤ wr.heap.size) := by have := SZ.out; have := S1.out; rw [Hid]; omega
      clear hlt hk HHr HH1 H21 H31 BB1 E41 HN1 SZ q1 hm hlk hlo B1 HB2 Q0 Q3 HI HA HP HOL HO HC S1 q2
      rename World => wA
      go_wp2_with fail
      go_loopw [58] (fun v58 wr => OthR os cs wA v58 wr) (fun v58 _ => n3 - (intOf v58).toNat)
      case atStart => exact ⟨0, rfl, by omega, Below.refl _ _, fun u hu => absurd hu (by omega)⟩
      case round =>
        obtain ⟨j, rfl, hj, hbel, hoth⟩ := hrel
        rw [L3.out] at hj
        have HB4 := hid_of hbel
        have HOt := hid_of hoth
        have SZ4 := hid_of hbel.size
        clear hbel hoth q3
        by_cases hlt : j < n3
        · obtain ⟨b, off, rfl, hbB, hc⟩ := HC3.out (by rw [L3.out]; omega)
          have hc0 : wr.cell? ⟨b, off + j * 2, none⟩ = some (.string ByteArray.empty) := by
            rw [HB4.out.cell (p := ⟨b, off + j * 2, none⟩) (by have := BB3.out; show b < _; omega)]
            exact (hc j (by rw [L3.out]; omega)).1
          have hc1 : wr.cell? ⟨b, off + j * 2 + 1, none⟩ = some (.string (cs.getD j ByteArray.empty)) := by
            rw [HB4.out.cell (p := ⟨b, off + j * 2 + 1, none⟩) (by have := BB3.out; show b < _; omega)]
            exact (hc j (by rw [L3.out]; omega)).2
          obtain ⟨t, ht⟩ : ∃ t, t = cs.getD j ByteArray.empty := ⟨_, rfl⟩
          rw [← ht] at hc1
          have T := hid_of ht
          clear ht hc
          go_wp2_with fail
          obtain ⟨wB, hwB⟩ : ∃ wB, wB = wr.alloc (.cells #[.string ByteArray.empty, .string t] 91) := ⟨_, rfl⟩
          rw [← hwB]
          have B5 : Hid (Below wr.heap.size wr wB) := by rw [hwB]; exact (Below.refl _ _).alloc (Nat.le_refl _) _
          have S5 : Hid (wB.heap.size = wr.heap.size + 1) := by rw [Hid, hwB]; simp
          have r4 : wB.cell? ⟨wr.heap.size, 0, none⟩ = some (.string ByteArray.empty) := by rw [hwB]; simp [go_sem]
          have r5 : wB.cell? ⟨wr.heap.size, 1, none⟩ = some (.string t) := by rw [hwB]; simp [go_sem]
          have BA := hid_of (HB4.out.trans (B5.out.mono SZ4.out))
          have r6 : wB.cell? ⟨w.heap.size, 0, none⟩ = some (.pointer (some ⟨hb, 0, none⟩)) := by
            rw [BA.out.cell (p := ⟨w.heap.size, 0, none⟩) (by have := SZ3.out; show w.heap.size < _; omega)]; exact Q1.out
          have r7 : wB.cell? ⟨hb, 4, none⟩ = some (.slice oa os.length oc) := by
            rw [BA.out.cell (p := ⟨hb, 4, none⟩) (by have := LT.out; have := SZ3.out; show hb < _; omega)]; exact E4.out
          have HCon := hid_of (containsName_any oa os.length oc B os t wB.drew (HN3.out.below BA.out BB3.out).drew (by have := SZ4.out; have := S5.out; have := BB3.out; show B ≤ wB.heap.size; omega) rfl hos)
          obtain ⟨no, eno⟩ : ∃ no, no = os.length := ⟨_, rfl⟩
          rw [← eno] at r7 HCon
          have K8 : Hid (∀ w8, Below wB.drew.heap.size wB.drew w8 → w8.cell? ⟨w.heap.size, 0, none⟩ = some (.pointer (some ⟨hb, 0, none⟩)) ∧ w8.cell? ⟨hb, 4, none⟩ = some (.slice oa no oc) ∧ w8.cell? ⟨wr.heap.size, 0, none⟩ = some (.string ByteArray.empty) ∧ w8.cell? ⟨wr.heap.size, 1, none⟩ = some (.string t)) := fun w8 hb8 => by
            have s1 := S5.out
            have s2 := SZ4.out
            have s3 := SZ3.out
            have s4 := LT.out
            have s5 : wB.drew.heap.size = wB.heap.size := rfl
            exact ⟨(hb8.cell (p := ⟨w.heap.size, 0, none⟩) (by show w.heap.size < _; omega)).trans r6, (hb8.cell (p := ⟨hb, 4, none⟩) (by show hb < _; omega)).trans r7, (hb8.cell (p := ⟨wr.heap.size, 0, none⟩) (by show wr.heap.size < _; omega)).trans r4, (hb8.cell (p := ⟨wr.heap.size, 1, none⟩) (by show wr.heap.size < _; omega)).trans r5⟩
          clear hwB hc0 hc1 eno
          go_region_held3 (fun w' => w'.cell? ⟨w.heap.size, 0, none⟩ = some (.pointer (some ⟨hb, 0, none⟩)) ∧ w'.cell? ⟨hb, 4, none⟩ = some (.slice oa no oc) ∧ w'.cell? ⟨wr.heap.size, 0, none⟩ = some (.string ByteArray.empty) ∧ w'.cell? ⟨wr.heap.size, 1, none⟩ = some (.string t)) (go_keep) (first | (go_at_call 50; refine HCon.out.mono ?_; rintro e w8 ⟨⟨r, rfl, hr⟩, hb8⟩; have HR := hid_of hr; obtain ⟨d1, d2, d3, d4⟩ := K8.out w8 hb8; have HB8 := hid_of (of_drew hb8); clear hr hb8))
          have BC := hid_of (BA.out.trans (HB8.out.mono BA.out.size))
          cases r
          · go_wp2_with fail
            go_ret2
            refine .inl ⟨rfl, B3.out.trans (BC.out.mono (by have := SZ3.out; omega)), fun h => ?_⟩
            have h1 := h.2 j (by rw [L3.out]; exact hlt)
            rw [← T.out] at h1
            exact absurd (HR.out.2 h1) (by simp)
          · have h1 := hid_of (HR.out.1 rfl)
            go_wp2_with fail
            go_roundw
            case rel =>
              refine ⟨j + 1, by go_num, by rw [L3.out]; omega, BC.out, fun u hu => ?_⟩
              by_cases e : u = j
              · subst e; rw [← T.out]; exact h1.out
              · exact HOt.out u (by omega)
            case measure => simp [intOf]; omega
        · obtain rfl : j = n3 := by omega
          go_wp2_with fail
          go_ret2
          refine .inr ⟨a, n, c, zs, rfl, B3.out.trans (HB4.out.mono (by have := SZ3.out; omega)), ⟨by rw [L2.out]; exact HG.out, by rw [L3.out]; exact HOt.out⟩, HNn.out, (HZ.out.below HB4.out (Nat.le_refl _)).mono HB4.out.size, HU.out, ?_⟩
          rw [L2.out]
          exact HME.out

set_option maxRecDepth 20000 in
set_option maxHeartbeats 1000000 in
theorem callCond_any (hb ab B : Nat) (a0 a2 a3 : Option Addr) (n0 c0 n2 c2 n3 c3 : Nat) (hp ho lo hi lk ps : List Int) (os cs : List ByteArray) (w : World)
    (hh : HoldC w B hb (.pointer (some ⟨ab, 0, none⟩)) hp ho lo hi lk os) (hB : B ≤ w.heap.size) (h2 : HasI .i64 w B a2 ps) (h3 : HasN w B a3 cs) (l2 : ps.length = n2) (l3 : cs.length = n3) (m2 : n2 ≤ 4096) (m3 : n3 ≤ 4096)
    (hm : hp.length ≤ 4096) (hb32 : I32 hp) (hasc : Asc hp) (hps : ∀ u, u < ps.length → 0 ≤ ps.getD u 0 ∧ ps.getD u 0 ≤ 4096) (hol : ho.length = hp.length) (ho1 : ∀ i, i < ho.length → -2 ≤ ho.getD i 0 ∧ ho.getD i 0 < lo.length)
    (hch : ∀ j, j < lo.length → ChainOk lk lo hi j) (hlk : lk.length ≤ 4096) (hlo : lo.length ≤ 4096) (hos : os.length ≤ 4096) :
    Calls Try.prog 29 #[.agg #[.pointer (some ⟨hb, 0, none⟩)], .agg #[.slice a0 n0 c0, .pointer (some ⟨ab, 0, none⟩), .slice a2 n2 c2, .slice a3 n3 c3]] w fun e w' => CondB hp ho lo hi lk ps os cs w e w' := by
  obtain ⟨w0, hw0⟩ : ∃ w0, w0 = (w.alloc (.cells #[.pointer (some ⟨hb, 0, none⟩)] 32)).alloc (.cells #[.slice a0 n0 c0, .pointer (some ⟨ab, 0, none⟩), .slice a2 n2 c2, .slice a3 n3 c3] 60) := ⟨_, rfl⟩
  have B0 : Hid (Below w.heap.size w w0) := by rw [hw0]; exact ((Below.refl _ _).alloc (Nat.le_refl _) _).alloc (by simp) _
  have S0 : Hid (w0.heap.size = w.heap.size + 2) := by rw [Hid, hw0]; simp
  have HCall := hid_of (condChain_any hb ab B a0 a2 a3 n0 c0 n2 c2 n3 c3 hp ho lo hi lk ps os cs w0 (hh.below B0.out hB) (by have := S0.out; omega) (h2.below B0.out hB) (h3.below B0.out hB) l2 l3 m2 m3 hm hb32 hasc hps hol ho1 hch hlk hlo hos)
  clear hh h2 h3 l2 l3 hb32 hasc hps hol ho1 hch hm hlk hlo hos m2 m3
  go_enter Try.func29, Try.ntmps29
  go_wp2_with fail
  rw [← hw0]
  clear hw0
  refine HCall.out.mono ?_
  rintro e w1 (⟨rfl, hb1, h1⟩ | ⟨a, n, c, zs, rfl, hb1, h1, h2, h3, h4, h5⟩)
  · have B1 := hid_of (B0.out.trans (hb1.mono (by have := S0.out; omega)))
    have H1 := hid_of h1
    clear hb1 h1
    go_wp2_with fail
    go_ret2
    exact .inl ⟨rfl, B1.out, H1.out⟩
  · have B1 := hid_of (B0.out.trans (hb1.mono (by have := S0.out; omega)))
    have H1 := hid_of (And.intro h1 (And.intro h2 (And.intro h3 (And.intro h4 h5))))
    clear hb1 h1 h2 h3 h4 h5
    go_wp2_with fail
    go_ret2
    obtain ⟨h1, h2, h3, h4, h5⟩ := H1.out
    exact .inr ⟨a, n, c, zs, rfl, B1.out, h1, h2, h3, h4, h5⟩

end Go.Proofs.Qxb6608735a
