import Derived.Test.Qxb6613790aBuy
namespace Go.Proofs.Qxb6613790a
open Go.RowKit

theorem zbuyOf_eq (g pb s kb : Nat) (hi lo np lot total R : Int) (w : World) (hg : GenAt w g pb hi lo) (hs : SecAt w s kb np lot) (h1 : s ≠ pb) (h2 : kb ≠ pb) (hn : 1 ≤ np) (hl : 1 ≤ lot) (hP : np * lot ≤ 9223372036854775807)
    (hT0 : 0 ≤ total) (hT : total ≤ 4611686018427387) (hR : buyU total (outv hi lo) (np * lot) * lot = R) :
    Calls Try.prog 25 #[.pointer (some ⟨g, 0, none⟩), .pointer (some ⟨s, 0, none⟩), .int .i64 total] w fun e w' => e = .returned (.int .i64 R) ∧ w' = (drawW w pb hi lo).drew := by
  rw [← hR]; exact zbuyOf_any g pb s kb hi lo np lot total w hg hs h1 h2 hn hl hP hT0 hT

theorem GenAt.below {w w' : World} {g pb : Nat} {hi lo : Int} (h : GenAt w g pb hi lo) (hb : Below w.heap.size w w') : GenAt w' g pb hi lo := by
  obtain ⟨g1, g2, g3, g4, g5, g6, g7, g8⟩ := h
  exact ⟨Nat.lt_of_lt_of_le g1 hb.size, Nat.lt_of_lt_of_le g2 hb.size, g3, (hb.cell (p := ⟨g, 1, none⟩) g1).trans g4, (hb.cell (p := ⟨pb, 0, none⟩) g2).trans g5, (hb.cell (p := ⟨pb, 1, none⟩) g2).trans g6, (hb.frozen (p := ⟨pb, 0, none⟩) g2).trans g7, (hb.frozen (p := ⟨pb, 1, none⟩) g2).trans g8⟩

theorem i64_of_wf {x : Int} (h : (Lit.int .i64 x).wf = true) : -9223372036854775808 ≤ x ∧ x ≤ 9223372036854775807 := by
  simp [Lit.wf, IntKind.min, IntKind.max, IntKind.signed, IntKind.bits] at h
  exact ⟨by omega, by omega⟩

set_option maxHeartbeats 1000000 in
theorem law8_in (np lot total k s1 s2 : Int) (w : World)
    (w0 : -9223372036854775808 ≤ np ∧ np ≤ 9223372036854775807) (w1 : -9223372036854775808 ≤ lot ∧ lot ≤ 9223372036854775807) (w2 : -9223372036854775808 ≤ total ∧ total ≤ 9223372036854775807) (w3 : -9223372036854775808 ≤ k ∧ k ≤ 9223372036854775807) :
    Calls Try.prog 8 #[.int .i64 np, .int .i64 lot, .int .i64 total, .int .i64 k, .int .u64 s1, .int .u64 s2] w fun e w' => e = .returned (.bool true) ∧ Below w.heap.size w w' := by
  obtain ⟨w0, w0'⟩ := w0
  obtain ⟨w1, w1'⟩ := w1
  obtain ⟨w2, w2'⟩ := w2
  obtain ⟨w3, w3'⟩ := w3
  by_cases c1 : np < 1
  · go_enter Try.func8, Try.ntmps8
    go_wp2
    go_ret
    exact ⟨rfl, Below.refl _ _⟩
  by_cases c2 : lot < 1
  · go_enter Try.func8, Try.ntmps8
    go_wp2
    go_ret
    exact ⟨rfl, Below.refl _ _⟩
  by_cases c3 : k < 1
  · go_enter Try.func8, Try.ntmps8
    go_wp2
    go_ret
    exact ⟨rfl, Below.refl _ _⟩
  by_cases c4 : total < 0
  · go_enter Try.func8, Try.ntmps8
    go_wp2
    go_ret
    exact ⟨rfl, Below.refl _ _⟩
  by_cases c5 : 9223372036854775807 / lot < k
  · go_enter Try.func8, Try.ntmps8
    go_wp2
    go_ret
    exact ⟨rfl, Below.refl _ _⟩
  have d1 : k * lot ≤ 9223372036854775807 := (le_div k lot _ (by omega)).1 (by omega)
  have d2 : k ≤ k * lot := by have := Int.mul_le_mul_of_nonneg_left (show 1 ≤ lot by omega) (show 0 ≤ k by omega); omega
  obtain ⟨M, hM⟩ : ∃ M, lot * k = M := ⟨_, rfl⟩
  have eM : wrap64 (lot * k) = M := by rw [hM]; exact wrap64_id _ (by rw [← hM, Int.mul_comm]; omega) (by rw [← hM, Int.mul_comm]; omega)
  have hM1 : 1 ≤ M := by rw [← hM, Int.mul_comm]; omega
  have hM2 : M ≤ 9223372036854775807 := by rw [← hM, Int.mul_comm]; omega
  have HM : Hid (lot * k = M) := hM
  clear hM
  have n1 : (M == 0) = false := by simp; omega
  by_cases c6 : 9223372036854775807 / M < np
  · go_enter Try.func8, Try.ntmps8
    go_wp2
    go_ret
    exact ⟨rfl, Below.refl _ _⟩
  by_cases c7 : 4611686018427387 / k < total
  · go_enter Try.func8, Try.ntmps8
    go_wp2
    go_ret
    exact ⟨rfl, Below.refl _ _⟩
  have d3 : np * M ≤ 9223372036854775807 := (le_div np M _ (by omega)).1 (by omega)
  have d4 : total * k ≤ 4611686018427387 := (le_div total k _ (by omega)).1 (by omega)
  have d5 : total ≤ total * k := by have := Int.mul_le_mul_of_nonneg_left (show 1 ≤ k by omega) (show 0 ≤ total by omega); omega
  -- the prices
  obtain ⟨P, hP⟩ : ∃ P, np * lot = P := ⟨_, rfl⟩
  have hPk : P * k = np * M := by rw [← hP, ← HM.out]; grind
  have hPN : np ≤ P := by have := Int.mul_le_mul_of_nonneg_left (show 1 ≤ lot by omega) (show 0 ≤ np by omega); omega
  have hPP : P ≤ P * k := by have := Int.mul_le_mul_of_nonneg_left (show 1 ≤ k by omega) (show 0 ≤ P by omega); omega
  obtain ⟨NK, hNK⟩ : ∃ NK, np * k = NK := ⟨_, rfl⟩
  have hNK1 : np ≤ NK := by have := Int.mul_le_mul_of_nonneg_left (show 1 ≤ k by omega) (show 0 ≤ np by omega); omega
  have hNKl : NK * lot = P * k := by rw [← hNK, ← hP]; grind
  have hNK2 : NK ≤ NK * lot := by have := Int.mul_le_mul_of_nonneg_left (show 1 ≤ lot by omega) (show 0 ≤ NK by omega); omega
  obtain ⟨TK, hTK⟩ : ∃ TK, total * k = TK := ⟨_, rfl⟩
  have eNK : wrap64 (np * k) = NK := by rw [hNK]; exact wrap64_id _ (by omega) (by omega)
  have eTK : wrap64 (total * k) = TK := by rw [hTK]; exact wrap64_id _ (by omega) (by omega)
  have eP : wrap64 (np * lot) = P := by rw [hP]; exact wrap64_id _ (by omega) (by omega)
  -- what is bought
  obtain ⟨U, hU⟩ : ∃ U, buyU total (outv s1 s2) P = U := ⟨_, rfl⟩
  have hU1 : 1 ≤ U := by rw [← hU]; exact buyU_ge _ _ _
  obtain ⟨QV, hQV⟩ : ∃ QV, U * lot = QV := ⟨_, rfl⟩
  have r1 : buyU total (outv s1 s2) (np * lot) * lot = QV := by rw [hP, hU, hQV]
  have r2 : buyU TK (outv s1 s2) (NK * lot) * lot = QV := by rw [hNKl, ← hTK, buyU_scale _ _ _ _ (by omega), hU, hQV]
  obtain ⟨x1, x2⟩ := buyU_cost total (outv s1 s2) P (by omega)
  obtain ⟨x3, x4⟩ := buyV_le total (outv s1 s2) (by omega)
  have x5 := buyV_bd total (outv s1 s2) (by omega) (by omega)
  rw [hU] at x1 x2
  obtain ⟨C, hC⟩ : ∃ C, QV * np = C := ⟨_, rfl⟩
  have hCU : U * P = C := by rw [← hC, ← hQV, ← hP]; grind
  rw [hCU] at x1 x2
  have hC1 : P ≤ C := by rw [← hCU]; have := Int.mul_le_mul_of_nonneg_right hU1 (show 0 ≤ P by omega); omega
  have hC2 : C ≤ 9223372036854775807 := by
    by_cases h1 : U = 1
    · rw [← hCU, h1]; omega
    · have := x1 h1; omega
  have hQ1 : lot ≤ QV := by rw [← hQV]; have := Int.mul_le_mul_of_nonneg_right hU1 (show 0 ≤ lot by omega); omega
  have hQ2 : QV ≤ C := by rw [← hC]; have := Int.mul_le_mul_of_nonneg_left (show 1 ≤ np by omega) (show 0 ≤ QV by omega); omega
  have t1 : QV % lot = 0 := by rw [← hQV]; exact Int.mul_emod_left _ _
  have t2 : QV ≤ 9223372036854775807 / np := (le_div QV np _ (by omega)).2 (by rw [hC]; exact hC2)
  have eC : wrap64 (QV * np) = C := by rw [hC]; exact wrap64_id _ (by omega) (by omega)
  have t3 : (QV != lot) = true → C ≤ total * 2000 / 10000 := by
    intro h
    have h1 : U ≠ 1 := by rintro rfl; rw [Int.one_mul] at hQV; simp [hQV] at h
    have := x1 h1
    omega
  have t4 : total * 200 / 10000 - C < P := by omega
  have HT3 : Hid ((QV != lot) = true → C ≤ total * 2000 / 10000) := t3
  have HC : Hid (np * lot ≤ 9223372036854775807 ∧ NK * lot ≤ 9223372036854775807 ∧ TK ≤ 4611686018427387 ∧ 0 ≤ TK ∧ total ≤ 4611686018427387) := ⟨by omega, by omega, by omega, by omega, by omega⟩
  have HR1 : Hid (buyU total (outv s1 s2) (np * lot) * lot = QV) := r1
  have HR2 : Hid (buyU TK (outv s1 s2) (NK * lot) * lot = QV) := r2
  clear HM d1 d2 d3 hP hPk hPN hPP hNK hNKl hNK2 hTK hU hU1 hQV r1 r2 x1 x2 x3 x4 x5 hC hCU t3 d5 d4
  go_enter Try.func8, Try.ntmps8
  go_wp2_with fail
  refine (newGen_any _ _ _).mono ?_
  rintro e wa ⟨g, pb, rfl, hg, l1, l2, hB⟩
  go_wp2_with fail
  refine (newSec_any _ _ _).mono ?_
  rintro e wb ⟨s, kb, rfl, hs, l3, l4, hbl⟩
  replace hB := hB.trans (hbl.mono hB.size)
  have hg' := hg.below hbl
  have l5 : pb < wa.heap.size := hg.2.1
  clear hbl hg
  go_wp2_with fail
  refine (zbuyOf_eq g pb s kb s1 s2 np lot total QV _ hg' hs (by omega) (by omega) (by omega) (by omega) HC.out.1 (by omega) HC.out.2.2.2.2 HR1.out).mono ?_
  rintro e wc ⟨rfl, rfl⟩
  replace hB := (drawW_below hB l2 s1 s2).drew
  clear hg' hs
  generalize (drawW wb pb s1 s2).drew = wc at *
  go_wp2_with fail
  refine (newGen_any _ _ _).mono ?_
  rintro e wd ⟨g', pb', rfl, hg, m1, m2, hbl⟩
  replace l2 : w.heap.size ≤ pb' := Nat.le_trans hB.size m2
  replace hB := hB.trans (hbl.mono hB.size)
  clear hbl
  go_wp2_with fail
  refine (newSec_any _ _ _).mono ?_
  rintro e we ⟨s', kb', rfl, hs, m3, m4, hbl⟩
  replace hB := hB.trans (hbl.mono hB.size)
  have hg' := hg.below hbl
  have m5 : pb' < wd.heap.size := hg.2.1
  clear hbl hg
  go_wp2_with fail
  refine (zbuyOf_eq g' pb' s' kb' s1 s2 NK lot TK QV _ hg' hs (by omega) (by omega) (by omega) (by omega) HC.out.2.1 HC.out.2.2.2.1 HC.out.2.2.1 HR2.out).mono ?_
  rintro e wf ⟨rfl, rfl⟩
  replace hB := (drawW_below hB l2 s1 s2).drew
  clear hg' hs HR1 HR2 l1 l2 l3 l4 l5 m1 m2 m3 m4 m5
  generalize (drawW we pb' s1 s2).drew = wf at *
  have HC2 := HC.out.2.2.2.2
  clear HC
  have n3 : (np == 0) = false := by simp; omega
  have n4 : (lot == 0) = false := by simp; omega
  cases hb : (QV != lot) with
  | true =>
    have t5 := HT3.out hb
    clear HT3
    go_wp2
    go_ret
    exact ⟨by simp, hB⟩
  | false =>
    clear HT3
    go_wp2
    go_ret
    exact ⟨by simp, hB⟩
end Go.Proofs.Qxb6613790a
