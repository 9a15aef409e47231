import Derived.Test.Qxb6613790aPcg
namespace Go.Proofs.Qxb6613790a
open Go.RowKit

/-- A generator in memory: its block g, its PCG's block pb, the PCG's state. -/
def GenAt (w : World) (g pb : Nat) (hi lo : Int) : Prop :=
  g < w.heap.size ∧ pb < w.heap.size ∧ g ≠ pb ∧ w.cell? ⟨g, 1, none⟩ = some (.pointer (some ⟨pb, 0, none⟩)) ∧ w.cell? ⟨pb, 0, none⟩ = some (.int .u64 hi) ∧ w.cell? ⟨pb, 1, none⟩ = some (.int .u64 lo) ∧
    w.frozen? ⟨pb, 0, none⟩ = false ∧ w.frozen? ⟨pb, 1, none⟩ = false

/-- The world behind one draw. -/
def drawW (w : World) (pb : Nat) (hi lo : Int) : World := ((w.setCell ⟨pb, 1, none⟩ (.int .u64 (nLo lo))).setCell ⟨pb, 0, none⟩ (.int .u64 (nHi hi lo))).drew

theorem drawW_cell (w : World) (pb : Nat) (hi lo : Int) (b o : Nat) (h : b ≠ pb) : (drawW w pb hi lo).cell? ⟨b, o, none⟩ = w.cell? ⟨b, o, none⟩ := by
  show (((w.setCell ⟨pb, 1, none⟩ _).setCell ⟨pb, 0, none⟩ _)).cell? ⟨b, o, none⟩ = _
  rw [World.cell?_setCell_far _ _ _ _ (Ne.symm h), World.cell?_setCell_far _ _ _ _ (Ne.symm h)]
theorem drawW_frozen (w : World) (pb : Nat) (hi lo : Int) (a : Addr) : (drawW w pb hi lo).frozen? a = w.frozen? a := by
  show (((w.setCell ⟨pb, 1, none⟩ _).setCell ⟨pb, 0, none⟩ _)).frozen? a = _
  rw [World.frozen?_setCell, World.frozen?_setCell]
theorem drawW_size (w : World) (pb : Nat) (hi lo : Int) : (drawW w pb hi lo).heap.size = w.heap.size := by
  show (((w.setCell ⟨pb, 1, none⟩ _).setCell ⟨pb, 0, none⟩ _)).heap.size = _
  simp
theorem drawW_below {B : Nat} {a w : World} (h : Below B a w) {pb : Nat} (hp : B ≤ pb) (hi lo : Int) : Below B a (drawW w pb hi lo) :=
  ((h.setCell (p := ⟨pb, 1, none⟩) hp _).setCell (p := ⟨pb, 0, none⟩) hp _).drew
theorem GenAt.draw {w : World} {g pb : Nat} {hi lo : Int} (h : GenAt w g pb hi lo) : GenAt (drawW w pb hi lo) g pb (nHi hi lo) (nLo lo) := by
  obtain ⟨g1, g2, g3, g4, g5, g6, g7, g8⟩ := h
  refine ⟨by rw [drawW_size]; exact g1, by rw [drawW_size]; exact g2, g3, by rw [drawW_cell _ _ _ _ _ _ g3]; exact g4, ?_, ?_, by rw [drawW_frozen]; exact g7, by rw [drawW_frozen]; exact g8⟩
  · show (((w.setCell ⟨pb, 1, none⟩ _).setCell ⟨pb, 0, none⟩ _)).cell? ⟨pb, 0, none⟩ = _
    simp [go_sem, g5]
  · show (((w.setCell ⟨pb, 1, none⟩ _).setCell ⟨pb, 0, none⟩ _)).cell? ⟨pb, 1, none⟩ = _
    simp [go_sem, g6]

set_option maxHeartbeats 400000 in
theorem newGen_any (s1 s2 : Int) (w : World) :
    Calls Try.prog 11 #[.int .u64 s1, .int .u64 s2] w fun e w' => ∃ g pb, e = .returned (.pointer (some ⟨g, 0, none⟩)) ∧ GenAt w' g pb s1 s2 ∧ w.heap.size ≤ g ∧ w.heap.size ≤ pb ∧ Below w.heap.size w w' := by
  go_enter Try.func11, Try.ntmps11
  go_wp2
  go_ret
  refine ⟨w.heap.size + 1, w.heap.size, rfl, ?_, by omega, by omega, by go_grown⟩
  refine ⟨?_, ?_, ?_, ?_, ?_, ?_, ?_, ?_⟩ <;> simp [go_sem]

set_option maxHeartbeats 400000 in
theorem rngNext_any (g pb : Nat) (hi lo : Int) (w : World) (hg : GenAt w g pb hi lo) :
    Calls Try.prog 13 #[.pointer (some ⟨g, 0, none⟩)] w fun e w' => e = .returned (.int .u64 (outv hi lo)) ∧ w' = drawW w pb hi lo := by
  obtain ⟨g1, g2, g3, g4, g5, g6, g7, g8⟩ := hg
  go_enter Try.func13, Try.ntmps13
  go_wp2_with fail
  refine (uint64_any pb hi lo w g5 g6 g7 g8).mono ?_
  rintro e w1 ⟨rfl, rfl⟩
  go_wp2
  go_ret
  exact ⟨ret_int rfl, rfl⟩

theorem between_wrap (o a b : Int) (h1 : -1000000000000 ≤ a) (h2 : a ≤ b) (h3 : b ≤ 1000000000000) : wrap64 (a + wrap64 (o % (b - a + 1))) = a + o % (b - a + 1) := by
  have hr0 := Int.emod_nonneg o (show b - a + 1 ≠ 0 by omega)
  have hr1 := Int.emod_lt_of_pos o (show 0 < b - a + 1 by omega)
  generalize o % (b - a + 1) = r at *
  unfold wrap64
  omega

set_option maxHeartbeats 400000 in
theorem between_any (g pb : Nat) (hi lo a b : Int) (w : World) (hg : GenAt w g pb hi lo) (h1 : -1000000000000 ≤ a) (h2 : a ≤ b) (h3 : b ≤ 1000000000000) :
    Calls Try.prog 32 #[.pointer (some ⟨g, 0, none⟩), .int .i64 a, .int .i64 b] w fun e w' => e = .returned (.int .i64 (a + outv hi lo % (b - a + 1))) ∧ w' = drawW w pb hi lo := by
  obtain ⟨g1, g2, g3, g4, g5, g6, g7, g8⟩ := hg
  obtain ⟨o1, o2⟩ := outv_range hi lo
  go_enter Try.func32, Try.ntmps32
  go_wp2_with fail
  refine (uint64_any pb hi lo w g5 g6 g7 g8).mono ?_
  rintro e w1 ⟨rfl, rfl⟩
  go_wp2
  go_ret
  exact ⟨ret_int (between_wrap _ _ _ h1 h2 h3), rfl⟩

/-- A security in memory: its block s, its kind's block kb, its night price, its kind's lot. -/
def SecAt (w : World) (s kb : Nat) (np lot : Int) : Prop :=
  s < w.heap.size ∧ kb < w.heap.size ∧ w.cell? ⟨s, 1, none⟩ = some (.pointer (some ⟨kb, 0, none⟩)) ∧ w.cell? ⟨s, 7, none⟩ = some (.int .i64 np) ∧ w.cell? ⟨kb, 6, none⟩ = some (.int .i64 lot)

set_option maxHeartbeats 400000 in
theorem newSec_any (np lot : Int) (w : World) :
    Calls Try.prog 26 #[.int .i64 np, .int .i64 lot] w fun e w' => ∃ s kb, e = .returned (.pointer (some ⟨s, 0, none⟩)) ∧ SecAt w' s kb np lot ∧ w.heap.size ≤ s ∧ w.heap.size ≤ kb ∧ Below w.heap.size w w' := by
  go_enter Try.func26, Try.ntmps26
  go_wp2
  go_ret
  refine ⟨w.heap.size + 1, w.heap.size, rfl, ?_, by omega, by omega, by go_grown⟩
  refine ⟨?_, ?_, ?_, ?_, ?_⟩ <;> simp [go_sem]


/-- What buyOf spends; how many lots that buys. -/
def buyV (total o : Int) : Int := total * 100 * (2 + o % 19) / 10000
def buyU (total o P : Int) : Int := if 1 < buyV total o / P then buyV total o / P else 1

theorem wrapEq (x : Int) : IntKind.i64.wrap x = wrap64 x := by rw [IntKind.wrap_i64]; unfold wrap64; omega
theorem wrap64_id (x : Int) (h1 : -9223372036854775808 ≤ x) (h2 : x ≤ 9223372036854775807) : wrap64 x = x := by unfold wrap64; omega

/-- The plain facts on what is spent. -/
theorem buyV0_bd (total o : Int) (h0 : 0 ≤ total) (h1 : total ≤ 4611686018427387) : 0 ≤ total * 100 * (2 + o % 19) ∧ total * 100 * (2 + o % 19) ≤ 9223372036854775807 := by
  have a1 := Int.emod_nonneg o (show (19 : Int) ≠ 0 by decide)
  have a2 := Int.emod_lt_of_pos o (show (0 : Int) < 19 by decide)
  have m1 : 0 ≤ total * 100 * (2 + o % 19) := Int.mul_nonneg (by omega) (by omega)
  have m2 : total * 100 * (2 + o % 19) ≤ total * 100 * 20 := Int.mul_le_mul_of_nonneg_left (by omega) (by omega)
  omega
theorem buyV_bd (total o : Int) (h0 : 0 ≤ total) (h1 : total ≤ 4611686018427387) : 0 ≤ buyV total o ∧ buyV total o ≤ 9223372036854775807 := by
  have := buyV0_bd total o h0 h1
  unfold buyV
  omega
theorem div_bd (a b : Int) (ha : 0 ≤ a) (hb : 0 < b) : 0 ≤ a / b ∧ a / b ≤ a := ⟨Int.ediv_nonneg ha (by omega), Int.ediv_le_self _ ha⟩
theorem buyU_ge (total o P : Int) : 1 ≤ buyU total o P := by unfold buyU; split <;> omega
/-- The units fit: lots times lot is no more than what is spent, or one lot. -/
theorem buyU_lot (total o np lot : Int) (h0 : 0 ≤ total) (h1 : total ≤ 4611686018427387) (hn : 1 ≤ np) (hl : 1 ≤ lot) (hP : np * lot ≤ 9223372036854775807) :
    0 ≤ buyU total o (np * lot) * lot ∧ buyU total o (np * lot) * lot ≤ 9223372036854775807 := by
  have hv := buyV_bd total o h0 h1
  have hPl : lot ≤ np * lot := by have := Int.mul_le_mul_of_nonneg_right hn (show 0 ≤ lot by omega); omega
  have hu := buyU_ge total o (np * lot)
  refine ⟨Int.mul_nonneg (by omega) (by omega), ?_⟩
  unfold buyU at *
  split
  · have a1 : buyV total o / (np * lot) * lot ≤ buyV total o / (np * lot) * (np * lot) := Int.mul_le_mul_of_nonneg_left hPl (div_bd _ _ hv.1 (by omega)).1
    have a2 : buyV total o / (np * lot) * (np * lot) ≤ buyV total o := Int.ediv_mul_le _ (by omega)
    omega
  · omega

set_option maxHeartbeats 1000000 in
theorem buyOf_raw (g pb s kb : Nat) (hi lo np lot total P V0 V Q R : Int) (w : World) (hg : GenAt w g pb hi lo) (hs : SecAt w s kb np lot) (h1 : s ≠ pb) (h2 : kb ≠ pb) (hP : wrap64 (np * lot) = P) (hP0 : 0 < P)
    (_hT0 : 0 ≤ total) (_hT : total ≤ 4611686018427387) (hV0 : wrap64 (total * 100 * (2 + outv hi lo % 19)) = V0) (hV : wrap64 (V0.tdiv 10000) = V) (hQ : wrap64 (V.tdiv P) = Q) (hR1 : 1 < Q → wrap64 (Q * lot) = R) (hR2 : Q ≤ 1 → wrap64 lot = R) :
    Calls Try.prog 31 #[.pointer (some ⟨g, 0, none⟩), .pointer (some ⟨s, 0, none⟩), .int .i64 total] w fun e w' => e = .returned (.int .i64 R) ∧ w' = (drawW w pb hi lo).drew := by
  obtain ⟨s1, s2, s3, s4, s5⟩ := hs
  have HR1 : Hid (1 < Q → wrap64 (Q * lot) = R) := hR1
  have HR2 : Hid (Q ≤ 1 → wrap64 lot = R) := hR2
  clear hR1 hR2
  go_enter Try.func31, Try.ntmps31
  go_wp2_with fail
  refine (between_any g pb hi lo 2 20 w hg (by decide) (by decide) (by decide)).mono ?_
  rintro e w1 ⟨rfl, rfl⟩
  have hP2 : (P == 0) = false := by simp; omega
  have hP3 : ¬ P = 0 := by omega
  have hP4 : IntKind.i64.wrap (np * lot) = P := by rw [wrapEq]; exact hP
  have hQ4 : IntKind.i64.wrap (V.tdiv P) = Q := by rw [wrapEq]; exact hQ
  have c1 := drawW_cell w pb hi lo s 1 h1
  have c7 := drawW_cell w pb hi lo s 7 h1
  have c6 := drawW_cell w pb hi lo kb 6 h2
  rw [s3] at c1; rw [s4] at c7; rw [s5] at c6
  go_wp2
  go_region_held3 (fun w' => w'.cell? ⟨s, 1, none⟩ = some (.pointer (some ⟨kb, 0, none⟩)) ∧ w'.cell? ⟨s, 7, none⟩ = some (.int .i64 np) ∧ w'.cell? ⟨kb, 6, none⟩ = some (.int .i64 lot)) (go_simp) (fail)
  go_wp2
  · go_ret
    exact ⟨ret_int (by rw [wrapEq]; exact HR1.out ‹_›), rfl⟩
  · go_ret
    exact ⟨ret_int (by rw [wrapEq]; exact HR2.out ‹_›), rfl⟩

/-- synthbook's buyOf: a whole number of lots. -/
theorem buyOf_any (g pb s kb : Nat) (hi lo np lot total : Int) (w : World) (hg : GenAt w g pb hi lo) (hs : SecAt w s kb np lot) (h1 : s ≠ pb) (h2 : kb ≠ pb) (hn : 1 ≤ np) (hl : 1 ≤ lot) (hP : np * lot ≤ 9223372036854775807)
    (hT0 : 0 ≤ total) (hT : total ≤ 4611686018427387) :
    Calls Try.prog 31 #[.pointer (some ⟨g, 0, none⟩), .pointer (some ⟨s, 0, none⟩), .int .i64 total] w fun e w' => e = .returned (.int .i64 (buyU total (outv hi lo) (np * lot) * lot)) ∧ w' = (drawW w pb hi lo).drew := by
  have hPl : lot ≤ np * lot := by have := Int.mul_le_mul_of_nonneg_right hn (show 0 ≤ lot by omega); omega
  have v0 := buyV0_bd total (outv hi lo) hT0 hT
  have v1 := buyV_bd total (outv hi lo) hT0 hT
  have q1 := div_bd (buyV total (outv hi lo)) (np * lot) v1.1 (by omega)
  have u1 := buyU_lot total (outv hi lo) np lot hT0 hT hn hl hP
  refine buyOf_raw g pb s kb hi lo np lot total (np * lot) (total * 100 * (2 + outv hi lo % 19)) (buyV total (outv hi lo)) (buyV total (outv hi lo) / (np * lot)) _ w hg hs h1 h2 (wrap64_id _ (by omega) hP) (by omega) hT0 hT (wrap64_id _ (by omega) v0.2) ?_ ?_ ?_ ?_
  · rw [Int.tdiv_eq_ediv_of_nonneg v0.1]; exact wrap64_id _ (by have := v1.1; unfold buyV at this; omega) v1.2
  · rw [Int.tdiv_eq_ediv_of_nonneg v1.1]; exact wrap64_id _ (by omega) (by omega)
  · intro h
    unfold buyU at u1 ⊢
    rw [if_pos h] at u1 ⊢
    exact wrap64_id _ (by omega) u1.2
  · intro h
    unfold buyU at u1 ⊢
    rw [if_neg (by omega)] at u1 ⊢
    rw [Int.one_mul] at u1 ⊢
    exact wrap64_id _ (by omega) u1.2

set_option maxHeartbeats 400000 in
/-- ZZbuyOf. -/
theorem zbuyOf_any (g pb s kb : Nat) (hi lo np lot total : Int) (w : World) (hg : GenAt w g pb hi lo) (hs : SecAt w s kb np lot) (h1 : s ≠ pb) (h2 : kb ≠ pb) (hn : 1 ≤ np) (hl : 1 ≤ lot) (hP : np * lot ≤ 9223372036854775807)
    (hT0 : 0 ≤ total) (hT : total ≤ 4611686018427387) :
    Calls Try.prog 25 #[.pointer (some ⟨g, 0, none⟩), .pointer (some ⟨s, 0, none⟩), .int .i64 total] w fun e w' => e = .returned (.int .i64 (buyU total (outv hi lo) (np * lot) * lot)) ∧ w' = (drawW w pb hi lo).drew := by
  go_enter Try.func25, Try.ntmps25
  go_wp2_with fail
  refine (buyOf_any g pb s kb hi lo np lot total w hg hs h1 h2 hn hl hP hT0 hT).mono ?_
  rintro e w1 ⟨rfl, rfl⟩
  go_wp2
  go_ret
  exact ⟨ret_int rfl, rfl⟩
end Go.Proofs.Qxb6613790a
