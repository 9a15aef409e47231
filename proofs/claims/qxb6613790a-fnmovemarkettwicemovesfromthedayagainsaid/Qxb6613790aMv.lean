import Derived.Test.Qxb6613790aSm
namespace Go.Proofs.Qxb6613790a
open Go.RowKit

/-- A generator with its market. -/
def MarketAt (w : World) (g pb h0 : Nat) (st : Int × Int) (P : List Int) (R : List (List Int)) (nt : Nat → Nat → Int) : Prop :=
  GenAt w g pb st.1 st.2 ∧ w.cell? ⟨g, 3, none⟩ = some (.slice (some ⟨h0, 0, none⟩) R.length R.length) ∧ g < h0 ∧ pb < h0 ∧ base h0 R R.length ≤ w.heap.size ∧ ∀ i, i < R.length → MRow w h0 P R nt i

theorem MarketAt.keep {w w' : World} {g pb h0 : Nat} {st : Int × Int} {P : List Int} {R : List (List Int)} {nt : Nat → Nat → Int} (h : MarketAt w g pb h0 st P R nt) (hb : Below w.heap.size w w') : MarketAt w' g pb h0 st P R nt := by
  obtain ⟨h1, h2, h3, h4, h5, h6⟩ := h
  refine ⟨h1.keep hb, (hb.cell (p := ⟨g, 3, none⟩) h1.1).trans h2, h3, h4, Nat.le_trans h5 hb.size, fun i hi => (h6 i hi).keep hb ?_⟩
  rw [base_succ]
  exact Nat.le_trans (base_lt h0 R hi) h5

set_option maxHeartbeats 400000 in
theorem newPCG_any (s1 s2 : Int) (w : World) :
    Calls Try.prog 27 #[.int .u64 s1, .int .u64 s2] w fun e w' => e = .returned (.pointer (some ⟨w.heap.size, 0, none⟩)) ∧ w' = w.alloc (.cells #[.int .u64 s1, .int .u64 s2] 71) := by
  go_enter Try.func27, Try.ntmps27
  go_wp2
  go_ret
  exact ⟨rfl, rfl⟩

set_option maxHeartbeats 1000000 in
theorem newMarket_any (s1 s2 : Int) (pv rv : Value) (P : List Int) (R : List (List Int)) (w : World) (hP : IntsAt w pv P) (hR : RowsAt w rv R) (hl : P.length = R.length) (h2 : R.length ≤ 65536) (h3 : ∀ i, i < R.length → (R.getD i []).length ≤ 131072) :
    Calls Try.prog 17 #[.int .u64 s1, .int .u64 s2, pv, rv] w fun e w' => e = .returned (.pointer (some ⟨w.heap.size + 1, 0, none⟩)) ∧ MarketAt w' (w.heap.size + 1) w.heap.size (w.heap.size + 2) (s1, s2) P R (fun _ _ => 0) ∧ Below w.heap.size w w' := by
  have HP : Hid (IntsAt w pv P) := hP
  have HR : Hid (RowsAt w rv R) := hR
  have H3 : Hid (∀ i, i < R.length → (R.getD i []).length ≤ 131072) := h3
  have HL : Hid (P.length = R.length) := hl
  obtain ⟨pa, pc, rfl, -⟩ := hP
  obtain ⟨ra, rc, rfl, -⟩ := hR
  clear h3 hl
  go_enter Try.func17, Try.ntmps17
  go_wp2_with fail
  refine (newPCG_any s1 s2 w).mono ?_
  rintro e w1 ⟨rfl, rfl⟩
  go_wp2_with fail
  generalize hwb : (w.alloc _).alloc _ = wb
  have g1 : GenAt wb (w.heap.size + 1) w.heap.size s1 s2 := by
    rw [← hwb]
    refine ⟨?_, ?_, ?_, ?_, ?_, ?_, ?_, ?_⟩ <;> simp [go_sem]
  have g2 : wb.cell? ⟨w.heap.size + 1, 3, none⟩ = some (.slice none 0 0) := by rw [← hwb]; simp [go_sem]
  have g3 : wb.frozen? ⟨w.heap.size + 1, 3, none⟩ = false := by rw [← hwb]; simp [go_sem]
  have g4 : wb.heap.size = w.heap.size + 2 := by rw [← hwb]; simp
  have g5 : Below w.heap.size w wb := by rw [← hwb]; go_grown
  have HG : Hid (GenAt wb (w.heap.size + 1) w.heap.size s1 s2 ∧ wb.heap.size = w.heap.size + 2) := ⟨g1, g4⟩
  refine (setMarket_any (w.heap.size + 1) _ _ _ P R wb (HP.out.keep g5) (HR.out.keep g5) HL.out h2 H3.out (by omega) g2 g3).mono ?_
  rintro e w2 ⟨rfl, m1, m2, m3, w3, m4, m5⟩
  rw [g4] at m1 m2 m3 m4 m5
  have HM : Hid ((∀ i, i < R.length → MRow w2 (w.heap.size + 2) P R (fun _ _ => 0) i) ∧ w2.cell? ⟨w.heap.size + 1, 3, none⟩ = some (.slice (some ⟨w.heap.size + 2, 0, none⟩) R.length R.length) ∧ w2.heap.size = base (w.heap.size + 2) R R.length ∧
    Below (w.heap.size + 2) wb w3 ∧ w2 = w3.setCell ⟨w.heap.size + 1, 3, none⟩ (.slice (some ⟨w.heap.size + 2, 0, none⟩) R.length R.length)) := ⟨m1, m2, m3, m4, m5⟩
  clear hwb g1 g2 g3 g4 m1 m2 m3 m4 m5
  go_wp2
  go_ret
  obtain ⟨m1, m2, m3, m4, m5⟩ := HM.out
  obtain ⟨g1, g4⟩ := HG.out
  refine ⟨rfl, ⟨?_, m2, by omega, by omega, Nat.le_of_eq m3.symm, m1⟩, ?_⟩
  · have hb : Below (w.heap.size + 1) wb w2 := by rw [m5]; exact (m4.mono (Nat.le_succ _)).setCell (p := ⟨w.heap.size + 1, 3, none⟩) (Nat.le_refl _) _
    obtain ⟨a1, a2, a3, a4, a5, a6, a7, a8⟩ := g1
    have hs := hb.size
    refine ⟨Nat.lt_of_lt_of_le a1 hs, Nat.lt_of_lt_of_le a2 hs, a3, ?_, (hb.cell (p := ⟨w.heap.size, 0, none⟩) (Nat.lt_succ_self _)).trans a5, (hb.cell (p := ⟨w.heap.size, 1, none⟩) (Nat.lt_succ_self _)).trans a6, (hb.frozen (p := ⟨w.heap.size, 0, none⟩) (Nat.lt_succ_self _)).trans a7, (hb.frozen (p := ⟨w.heap.size, 1, none⟩) (Nat.lt_succ_self _)).trans a8⟩
    rw [m5, World.cell?_setCell_other _ _ _ _ (fun h => by cases (Addr.mk.inj h).2.1)]
    exact (m4.cell (p := ⟨w.heap.size + 1, 1, none⟩) (Nat.lt_succ_self _)).trans a4
  · rw [m5]
    exact (g5.trans (m4.mono (by omega))).setCell (p := ⟨w.heap.size + 1, 3, none⟩) (by show w.heap.size ≤ w.heap.size + 1; omega) _

/-- The night prices when the first k securities have moved. -/
def nk (R : List (List Int)) (old new : Nat → Nat → Int) (k : Nat) (i j : Nat) : Int := if sumL R i + j < k then new i j else old i j

theorem MRow.congr {w : World} {h0 : Nat} {P : List Int} {R : List (List Int)} {nt nt' : Nat → Nat → Int} {i : Nat} (h : MRow w h0 P R nt i) (e : ∀ j, j < (R.getD i []).length → nt i j = nt' i j) : MRow w h0 P R nt' i := by
  obtain ⟨a1, a2, a3⟩ := h
  exact ⟨a1, a2, fun j hj => by rw [← e j hj]; exact a3 j hj⟩

/-- A store of one night price. -/
theorem MRow.night {w : World} {h0 : Nat} {P : List Int} {R : List (List Int)} {old new : Nat → Nat → Int} {i : Nat} {t s : Nat} (hs : s < (R.getD t []).length) (h : MRow w h0 P R (nk R old new (sumL R t + s)) i) :
    MRow (w.setCell ⟨base h0 R t + 2 + s, 7, none⟩ (.int .i64 (new t s))) h0 P R (nk R old new (sumL R t + (s + 1))) i := by
  obtain ⟨a1, a2, a3⟩ := h
  have hgt := base_gt h0 R t
  have hgi := base_gt h0 R i
  have hord : i = t ∨ base h0 R i + 2 + (R.getD i []).length ≤ base h0 R t ∨ base h0 R t + 2 + (R.getD t []).length ≤ base h0 R i := by
    rcases Nat.lt_trichotomy i t with h | h | h
    · exact .inr (.inl (base_lt h0 R h))
    · exact .inl h
    · exact .inr (.inr (base_lt h0 R h))
  have hne : ∀ j, j < (R.getD i []).length → (i, j) ≠ (t, s) → base h0 R t + 2 + s ≠ base h0 R i + 2 + j := by
    intro j hj hd he
    rcases hord with e | e | e
    · subst e; exact hd (by rw [show j = s by omega])
    · omega
    · omega
  have hb : ∀ x, (x = base h0 R i ∨ x = base h0 R i + 1) → base h0 R t + 2 + s ≠ x := by
    intro x hx he
    rcases hord with e | e | e
    · subst e; omega
    · omega
    · omega
  have hval : ∀ j, j < (R.getD i []).length → (i, j) ≠ (t, s) → nk R old new (sumL R t + s) i j = nk R old new (sumL R t + (s + 1)) i j := by
    intro j hj hd
    have : sumL R i + j ≠ sumL R t + s := by
      intro he
      rcases Nat.lt_trichotomy i t with h | h | h
      · have h1 := sumL_mono R (show i + 1 ≤ t by omega)
        rw [sumL] at h1
        omega
      · subst h; exact hd (by rw [show j = s by omega])
      · have h1 := sumL_mono R (show t + 1 ≤ i by omega)
        rw [sumL] at h1
        omega
    unfold nk
    by_cases h : sumL R i + j < sumL R t + s
    · rw [if_pos h, if_pos (by omega)]
    · rw [if_neg h, if_neg (by omega)]
  refine ⟨?_, ?_, fun j hj => ?_⟩
  · rw [World.cell?_setCell_far _ _ _ _ (by show base h0 R t + 2 + s ≠ h0; omega)]; exact a1
  · rw [World.cell?_setCell_far _ _ _ _ (hb _ (.inl rfl))]; exact a2
  · obtain ⟨b1, b2, b3, b4, b5⟩ := a3 j hj
    by_cases hd : (i, j) = (t, s)
    · obtain ⟨rfl, rfl⟩ := Prod.mk.inj hd
      refine ⟨by rw [World.cell?_setCell_far _ _ _ _ (hb _ (.inr rfl))]; exact b1, by rw [World.cell?_setCell_other _ _ _ _ (fun h => by cases (Addr.mk.inj h).2.1)]; exact b2,
        by rw [World.cell?_setCell_other _ _ _ _ (fun h => by cases (Addr.mk.inj h).2.1)]; exact b3, ?_, by rw [World.frozen?_setCell]; exact b5⟩
      rw [World.cell?_setCell_same _ _ _ b4]
      unfold nk
      rw [if_pos (by omega)]
    · have hn := hne j hj hd
      rw [← hval j hj hd]
      exact ⟨by rw [World.cell?_setCell_far _ _ _ _ (hb _ (.inr rfl))]; exact b1, by rw [World.cell?_setCell_far _ _ _ _ hn]; exact b2, by rw [World.cell?_setCell_far _ _ _ _ hn]; exact b3, by rw [World.cell?_setCell_far _ _ _ _ hn]; exact b4, by rw [World.frozen?_setCell]; exact b5⟩
/-- A draw elsewhere. -/
theorem MRow.draw {w : World} {h0 : Nat} {P : List Int} {R : List (List Int)} {nt : Nat → Nat → Int} {i : Nat} (h : MRow w h0 P R nt i) {pb : Nat} (hp : pb < h0) (a b : Int) : MRow (drawW w pb a b) h0 P R nt i := by
  obtain ⟨a1, a2, a3⟩ := h
  have hg := base_gt h0 R i
  refine ⟨by rw [drawW_cell _ _ _ _ _ _ (by omega)]; exact a1, by rw [drawW_cell _ _ _ _ _ _ (by omega)]; exact a2, fun j hj => ?_⟩
  obtain ⟨b1, b2, b3, b4, b5⟩ := a3 j hj
  exact ⟨by rw [drawW_cell _ _ _ _ _ _ (by omega)]; exact b1, by rw [drawW_cell _ _ _ _ _ _ (by omega)]; exact b2, by rw [drawW_cell _ _ _ _ _ _ (by omega)]; exact b3, by rw [drawW_cell _ _ _ _ _ _ (by omega)]; exact b4, by rw [drawW_frozen]; exact b5⟩
theorem MRow.drawn {w : World} {h0 : Nat} {P : List Int} {R : List (List Int)} {nt : Nat → Nat → Int} {i : Nat} (h : MRow w h0 P R nt i) : MRow w.drew h0 P R nt i := h

/-- The night prices that one move draws. -/
def newN (st : Int × Int) (P : List Int) (R : List (List Int)) (i j : Nat) : Int := nightZ (P.getD i 0) ((R.getD i []).getD j 0) (outv (stpN st (sumL R i + j)).1 (stpN st (sumL R i + j)).2)

/-- The world when k securities have moved. -/
def MV (w wr : World) (B g pb h0 : Nat) (st : Int × Int) (P : List Int) (R : List (List Int)) (old : Nat → Nat → Int) (k : Nat) : Prop :=
  MarketAt wr g pb h0 (stpN st k) P R (nk R old (newN st P R) k) ∧ wr.heap.size = w.heap.size ∧ Below B w wr

/-- One security moves. -/
theorem MV.step {w wr : World} {B g pb h0 : Nat} {st : Int × Int} {P : List Int} {R : List (List Int)} {old : Nat → Nat → Int} {t s : Nat} (h : MV w wr B g pb h0 st P R old (sumL R t + s)) (hs : s < (R.getD t []).length) (h1 : B ≤ pb) {z : Int} (hz : z = newN st P R t s)
    {hi lo : Int} (hst : stpN st (sumL R t + s) = (hi, lo)) :
    MV w ((drawW wr.drew pb hi lo).setCell ⟨base h0 R t + 2 + s, 7, none⟩ (.int .i64 z)) B g pb h0 st P R old (sumL R t + (s + 1)) := by
  obtain ⟨⟨a1, a2, a3, a4, a5, a6⟩, b, c⟩ := h
  have hgt := base_gt h0 R t
  have e : stpN st (sumL R t + (s + 1)) = (nHi hi lo, nLo lo) := by show stp (stpN st (sumL R t + s)) = _; rw [hst]; rfl
  rw [hst] at a1
  have hg3 : g ≠ pb := a1.2.2.1
  refine ⟨⟨?_, ?_, a3, a4, ?_, fun i hin => ?_⟩, ?_, ?_⟩
  · rw [e]
    exact a1.drawn.draw.set 7 _ (by omega) (by omega)
  · rw [World.cell?_setCell_far _ _ _ _ (by show base h0 R t + 2 + s ≠ g; omega)]
    exact (drawW_cell wr.drew pb hi lo g 3 hg3).trans a2
  · rw [World.size_setCell]
    rw [drawW_size]; exact a5
  · rw [hz]
    exact ((a6 i hin).drawn.draw a4 hi lo).night hs
  · rw [World.size_setCell]
    rw [drawW_size]; exact b
  · exact (drawW_below c.drew h1 hi lo).setCell (p := ⟨base h0 R t + 2 + s, 7, none⟩) (by show B ≤ base h0 R t + 2 + s; omega) _

theorem between20 (g pb : Nat) (hi lo r : Int) (w : World) (hg : GenAt w g pb hi lo) (hr : -20 + outv hi lo % 41 = r) :
    Calls Try.prog 32 #[.pointer (some ⟨g, 0, none⟩), .int .i64 (-20), .int .i64 20] w fun e w' => e = .returned (.int .i64 r) ∧ w' = drawW w pb hi lo := by
  refine (between_any g pb hi lo (-20) 20 w hg (by decide) (by decide) (by decide)).mono ?_
  rintro e w' ⟨rfl, rfl⟩
  exact ⟨ret_int hr, rfl⟩

set_option maxHeartbeats 2000000 in
theorem moveMarket_any (B g pb h0 : Nat) (st : Int × Int) (P : List Int) (R : List (List Int)) (old : Nat → Nat → Int) (w : World) (hM : MarketAt w g pb h0 st P R old) (hD : Dom P R) (h1 : B ≤ pb) (h2 : R.length ≤ 65536) (h3 : ∀ i, i < R.length → (R.getD i []).length ≤ 131072) :
    Calls Try.prog 30 #[.pointer (some ⟨g, 0, none⟩)] w fun e w' => e = .returned (.tuple #[]) ∧ MV w w' B g pb h0 st P R old (sumL R R.length) := by
  have HM : Hid (MarketAt w g pb h0 st P R old) := hM
  have HDm : Hid (Dom P R) := hD
  have H3 : Hid (∀ i, i < R.length → (R.getD i []).length ≤ 131072) := h3
  have hg3 := hM.2.1
  clear hM hD h3
  go_enter Try.func30, Try.ntmps30
  go_wp2
  clear hg3
  go_loopw [13] (fun i wr => ∃ t : Nat, t ≤ R.length ∧ i = .int .i64 t ∧ MV w wr B g pb h0 st P R old (sumL R t)) (fun i _ => R.length - (intOf i).toNat)
  case atStart => exact ⟨0, Nat.zero_le _, rfl, ⟨HM.out.1, HM.out.2.1, HM.out.2.2.1, HM.out.2.2.2.1, HM.out.2.2.2.2.1, fun i hi => (HM.out.2.2.2.2.2 i hi).congr (fun j _ => by unfold nk; rw [sumL, if_neg (Nat.not_lt_zero _)])⟩, rfl, Below.refl _ _⟩
  case round =>
    revert wr
    intro wo hrel
    obtain ⟨t, ht, rfl, hmv⟩ := hrel
    have HMV : Hid (MV w wo B g pb h0 st P R old (sumL R t)) := hmv
    by_cases hlt : t < R.length
    · obtain ⟨c1, c2, -⟩ := hmv.1.2.2.2.2.2 t hlt
      clear hmv
      have h3 := H3.out t hlt
      obtain ⟨l, hl⟩ : ∃ l, (R.getD t []).length = l := ⟨_, rfl⟩
      have Hl : Hid ((R.getD t []).length = l) := hl
      obtain ⟨kb, hkb⟩ : ∃ kb, base h0 R t = kb := ⟨_, rfl⟩
      have HKB : Hid (base h0 R t = kb) := hkb
      rw [hkb] at c1
      clear hkb
      rw [hl] at h3 c1
      clear hl c2
      have j2 : (t : Int) < (R.length : Int) := by omega
      go_wp2
      clear c1
      go_loopw [19] (fun j wr => ∃ s : Nat, s ≤ l ∧ j = .int .i64 s ∧ MV w wr B g pb h0 st P R old (sumL R t + s)) (fun j _ => l - (intOf j).toNat)
      case atStart => exact ⟨0, Nat.zero_le _, rfl, HMV.out⟩
      case round =>
        obtain ⟨s, hs, rfl, hmq⟩ := hrel
        have HMQ : Hid (MV w wr B g pb h0 st P R old (sumL R t + s)) := hmq
        by_cases hsl : s < l
        · obtain ⟨p, hp⟩ : ∃ p, P.getD t 0 = p := ⟨_, rfl⟩
          obtain ⟨z, hz⟩ : ∃ z, (R.getD t []).getD s 0 = z := ⟨_, rfl⟩
          obtain ⟨hi, lo, hst⟩ : ∃ hi lo, stpN st (sumL R t + s) = (hi, lo) := ⟨_, _, rfl⟩
          obtain ⟨k0, k4, hkc⟩ := HDm.out.2 t hlt
          obtain ⟨q1, q2, q3⟩ := hkc s (by rw [Hl.out]; exact hsl)
          rw [hp] at k0 k4 q3
          rw [hz] at q1 q2 q3
          obtain ⟨f1, f2, f3, f4, f5, f6, f7, f8, f9, f10⟩ := move_facts p z (outv hi lo) q1 q2 q3
          have hn := night_eq p z (outv hi lo) q1 q2 q3
          obtain ⟨c1, c2, c3⟩ := hmq.1.2.2.2.2.2 t hlt
          obtain ⟨b1, b2, b3, b4, b5⟩ := c3 s (by rw [Hl.out]; exact hsl)
          have hG : GenAt wr g pb hi lo := by have := hmq.1.1; rw [hst] at this; exact this
          have hph : pb < h0 := hmq.1.2.2.2.1
          have hbg := base_gt h0 R t
          rw [hz] at b3
          rw [hp] at c2
          obtain ⟨sb, hsb⟩ : ∃ sb, base h0 R t + 2 + s = sb := ⟨_, rfl⟩
          have hkb := HKB.out
          obtain ⟨r, hr⟩ : ∃ r, -20 + outv hi lo % 41 = r := ⟨_, rfl⟩
          obtain ⟨sz, hsz⟩ : ∃ sz, stepZ p = sz := ⟨_, rfl⟩
          obtain ⟨T, hT⟩ : ∃ T, z * r = T := ⟨_, rfl⟩
          obtain ⟨T2, hT2⟩ : ∃ T2, T.tdiv 1000 = T2 := ⟨_, rfl⟩
          obtain ⟨T3, hT3⟩ : ∃ T3, T2.tdiv sz = T3 := ⟨_, rfl⟩
          obtain ⟨m, hm⟩ : ∃ m, T3 * sz = m := ⟨_, rfl⟩
          have hmz : moveZ p z (outv hi lo) = m := by rw [← hm, ← hT3, ← hT2, ← hT, ← hr, ← hsz]; rfl
          obtain ⟨s1, s2⟩ := stepZ_bd p
          rw [hsz] at s1 s2
          rw [hmz] at f3 f4 f5 hn
          rw [hsz] at f5 f9 f10
          rw [hr, hT] at f1 f2 f7 f8 f9 f10
          rw [hT2] at f7 f8 f9 f10
          rw [hT3] at f9 f10
          have x1 : IntKind.i64.wrap (z * r) = T := by rw [hT, wrapEq]; exact wrap64_id _ (by omega) (by omega)
          have x2 : IntKind.i64.wrap (T.tdiv 1000) = T2 := by rw [hT2, wrapEq]; exact wrap64_id _ (by omega) (by omega)
          have x3 : IntKind.i64.wrap (T2.tdiv sz) = T3 := by rw [hT3, wrapEq]; exact wrap64_id _ (by omega) (by omega)
          have x4 : IntKind.i64.wrap (T3 * sz) = m := by rw [hm, wrapEq]; exact wrap64_id _ (by omega) (by omega)
          have x5 : wrap64 (z + m) = z + m := wrap64_id _ (by omega) (by omega)
          have x6 : (sz == 0) = false := by simp; omega
          have x7 : ¬ sz = 0 := by omega
          have HF : Hid (newN st P R t s = z + m ∧ sz ≤ z + m) := ⟨by unfold newN; rw [hst, hp, hz]; exact hn, f5⟩
          have HZ : Hid (base h0 R t + 2 + s = sb) := hsb
          have HST : Hid (stpN st (sumL R t + s) = (hi, lo)) := hst
          have d1 : sb ≠ pb := by omega
          have Hr : Hid (-20 + outv hi lo % 41 = r) := hr
          have HGen : Hid (GenAt wr g pb hi lo) := hG
          have HK : Hid (0 ≤ p ∧ p ≤ 4 ∧ stepZ p = sz) := ⟨k0, k4, hsz⟩
          rw [hkb] at c2 b1 b2 b3 b4 b5
          rw [hkb] at hsb
          rw [hsb] at b1 b2 b3 b4 b5
          have j3 : (s : Int) < (l : Int) := by omega
          clear hkc q1 q2 q3 f1 f2 f3 f4 f5 f6 f7 f8 f9 f10 hn c1 c3 hbg hst hp hz hr hT hT2 hT3 hm hmz hsb hkb hG hsz hmq k0 k4 s1 s2 hph
          go_wp2_with fail
          refine (kstep_any kb p wr c2 HK.out.1 HK.out.2.1).mono ?_
          rintro e w1 ⟨rfl, hw⟩
          subst hw
          rw [HK.out.2.2]
          have c7 : (drawW w1.drew pb hi lo).cell? ⟨sb, 7, none⟩ = _ := (drawW_cell w1.drew pb hi lo sb 7 d1).trans b4
          have c8 : (drawW w1.drew pb hi lo).cell? ⟨sb, 2, none⟩ = _ := (drawW_cell w1.drew pb hi lo sb 2 d1).trans b3
          have c9 : (drawW w1.drew pb hi lo).frozen? ⟨sb, 7, none⟩ = _ := (drawW_frozen w1.drew pb hi lo ⟨sb, 7, none⟩).trans b5
          go_wp2_with fail
          go_region_held3 (fun w' => w'.cell? ⟨sb, 2, none⟩ = some (.int .i64 z)) (go_simp) (first | (go_at_call 32; refine (between20 g pb hi lo r _ HGen.out.drawn Hr.out).mono ?_; rintro e w' ⟨rfl, rfl⟩))
          go_wp2
          have hst := MV.step HMQ.out (by rw [Hl.out]; exact hsl) h1 (z := if sz < z + m then z + m else sz) (by rw [HF.out.1]; have := HF.out.2; split <;> omega) HST.out
          rw [HZ.out] at hst
          exact ⟨⟨s + 1, hsl, rfl, hst⟩, by simp [intOf]; omega⟩
        · obtain rfl : s = l := by omega
          clear hmq
          go_wp2
          exact ⟨⟨t + 1, hlt, rfl, by rw [sumL, Hl.out]; exact HMQ.out⟩, by simp [intOf]; omega⟩
    · obtain rfl : t = R.length := by omega
      clear hmv
      go_wp2
      go_end0
      exact ⟨rfl, HMV.out⟩

set_option maxHeartbeats 400000 in
theorem zzMove_any (B g pb h0 : Nat) (st : Int × Int) (P : List Int) (R : List (List Int)) (old : Nat → Nat → Int) (w : World) (hM : MarketAt w g pb h0 st P R old) (hD : Dom P R) (h1 : B ≤ pb) (h2 : R.length ≤ 65536) (h3 : ∀ i, i < R.length → (R.getD i []).length ≤ 131072) :
    Calls Try.prog 18 #[.pointer (some ⟨g, 0, none⟩)] w fun e w' => e = .returned (.tuple #[]) ∧ MV w w' B g pb h0 st P R old (sumL R R.length) := by
  have HM : Hid (Calls Try.prog 30 #[.pointer (some ⟨g, 0, none⟩)] w fun e w' => e = .returned (.tuple #[]) ∧ MV w w' B g pb h0 st P R old (sumL R R.length)) := moveMarket_any B g pb h0 st P R old w hM hD h1 h2 h3
  clear hM hD h1 h2 h3
  go_enter Try.func18, Try.ntmps18
  go_wp2_with fail
  refine HM.out.mono ?_
  rintro e w1 ⟨rfl, hmv⟩
  go_wp2
  go_end0
  exact ⟨rfl, hmv⟩
end Go.Proofs.Qxb6613790a
