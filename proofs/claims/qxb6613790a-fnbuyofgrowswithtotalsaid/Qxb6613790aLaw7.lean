import Derived.Test.Qxb6613790aLaw8
import Derived.Deep.DeepCutAuto
namespace Go.Proofs.Qxb6613790a
open Go.RowKit

theorem GenAt.other {w : World} {g pb : Nat} {hi lo : Int} (h : GenAt w g pb hi lo) {q : Nat} (a b : Int) (h1 : g ≠ q) (h2 : pb ≠ q) : GenAt (drawW w q a b) g pb hi lo := by
  obtain ⟨g1, g2, g3, g4, g5, g6, g7, g8⟩ := h
  exact ⟨by rw [drawW_size]; exact g1, by rw [drawW_size]; exact g2, g3, by rw [drawW_cell _ _ _ _ _ _ h1]; exact g4, by rw [drawW_cell _ _ _ _ _ _ h2]; exact g5, by rw [drawW_cell _ _ _ _ _ _ h2]; exact g6, by rw [drawW_frozen]; exact g7, by rw [drawW_frozen]; exact g8⟩
theorem GenAt.drew {w : World} {g pb : Nat} {hi lo : Int} (h : GenAt w g pb hi lo) : GenAt w.drew g pb hi lo := h

theorem buyV_mono (l h o : Int) (h0 : l ≤ h) : buyV l o ≤ buyV h o := by
  have a1 := Int.emod_nonneg o (show (19 : Int) ≠ 0 by decide)
  unfold buyV
  have : l * 100 * (2 + o % 19) ≤ h * 100 * (2 + o % 19) := Int.mul_le_mul_of_nonneg_right (by omega) (by omega)
  omega
theorem buyU_mono (l h o P : Int) (hP : 1 ≤ P) (h0 : l ≤ h) : buyU l o P ≤ buyU h o P := by
  have := Int.ediv_le_ediv (show 0 < P by omega) (buyV_mono l h o h0)
  unfold buyU
  split <;> split <;> omega

/-- All that the law's tests ask, under plain names. -/
theorem grow_facts (np lot l h o : Int) (h1 : 1 ≤ np) (h2 : 1 ≤ lot) (h3 : np * lot ≤ 9223372036854775807) (h4 : 0 ≤ l) (h5 : l ≤ h) (h6 : h ≤ 4611686018427387) :
    ∃ P U Q1 Q2 V0 C : Int, wrap64 (np * lot) = P ∧ 1 ≤ P ∧ P ≤ 9223372036854775807 ∧ buyU l o (np * lot) * lot = Q1 ∧ buyU h o (np * lot) * lot = Q2 ∧ Q1 ≤ Q2 ∧ lot ≤ Q1 ∧ Q1 ≤ 9223372036854775807 ∧ Q2 ≤ 9223372036854775807 ∧
      wrap64 (l * 100 * (2 + o % 19)) = V0 ∧ 0 ≤ V0 ∧ V0 ≤ 9223372036854775807 ∧ Q1 % lot = 0 ∧ Q1 / lot = U ∧ 1 ≤ U ∧ U ≤ 9223372036854775807 ∧ U ≤ 9223372036854775807 / P ∧ wrap64 (U * P) = C ∧ P ≤ C ∧ C ≤ 9223372036854775807 ∧
      ((U != 1) = true → C ≤ V0 / 10000) ∧ V0 / 10000 - C < P := by
  have hPl : lot ≤ np * lot := by have := Int.mul_le_mul_of_nonneg_right h1 (show 0 ≤ lot by omega); omega
  have v0 := buyV0_bd l o h4 (by omega)
  have v1 := buyV_bd l o h4 (by omega)
  have hU1 := buyU_ge l o (np * lot)
  have hm := buyU_mono l h o (np * lot) (by omega) h5
  have l1 := buyU_lot l o np lot h4 (by omega) h1 h2 h3
  have l2 := buyU_lot h o np lot (by omega) h6 h1 h2 h3
  obtain ⟨x1, x2⟩ := buyU_cost l o (np * lot) (by omega)
  have e1 : buyU l o (np * lot) * lot / lot = buyU l o (np * lot) := Int.mul_ediv_cancel _ (by omega)
  have hq : buyU l o (np * lot) * lot ≤ buyU h o (np * lot) * lot := Int.mul_le_mul_of_nonneg_right hm (by omega)
  have hq1 : 1 * lot ≤ buyU l o (np * lot) * lot := Int.mul_le_mul_of_nonneg_right hU1 (by omega)
  have hp1 : 1 * (np * lot) ≤ buyU l o (np * lot) * (np * lot) := Int.mul_le_mul_of_nonneg_right hU1 (by omega)
  have hu2 : buyU l o (np * lot) * 1 ≤ buyU l o (np * lot) * (np * lot) := Int.mul_le_mul_of_nonneg_left (by omega) (by omega)
  have hc : buyU l o (np * lot) * (np * lot) ≤ 9223372036854775807 := by
    by_cases hu : buyU l o (np * lot) = 1
    · rw [hu]; omega
    · have := x1 hu; omega
  refine ⟨np * lot, buyU l o (np * lot), _, _, l * 100 * (2 + o % 19), buyU l o (np * lot) * (np * lot), wrap64_id _ (by omega) h3, by omega, h3, rfl, rfl, hq, by omega, l1.2, l2.2, wrap64_id _ (by omega) v0.2, v0.1, v0.2, Int.mul_emod_left _ _, e1, hU1, by omega, ?_, wrap64_id _ (by omega) hc, by omega, hc, ?_, x2⟩
  · exact (le_div _ _ _ (by omega)).2 hc
  · intro hne
    exact x1 (by simpa using hne)

set_option maxHeartbeats 1000000 in
set_option maxRecDepth 100000 in
theorem law7_in (np lot t1 t2 s1 s2 : Int) (w : World)
    (w0 : -9223372036854775808 ≤ np ∧ np ≤ 9223372036854775807) (w1 : -9223372036854775808 ≤ lot ∧ lot ≤ 9223372036854775807) (w2 : -9223372036854775808 ≤ t1 ∧ t1 ≤ 9223372036854775807) (w3 : -9223372036854775808 ≤ t2 ∧ t2 ≤ 9223372036854775807) :
    Calls Try.prog 7 #[.int .i64 np, .int .i64 lot, .int .i64 t1, .int .i64 t2, .int .u64 s1, .int .u64 s2] w fun e w' => e = .returned (.bool true) ∧ Below w.heap.size w w' := by
  obtain ⟨w0, w0'⟩ := w0
  obtain ⟨w1, w1'⟩ := w1
  obtain ⟨w2, w2'⟩ := w2
  obtain ⟨w3, w3'⟩ := w3
  by_cases c1 : np < 1
  · go_enter Try.func7, Try.ntmps7
    go_wp2
    go_ret
    exact ⟨rfl, Below.refl _ _⟩
  by_cases c2 : lot < 1
  · go_enter Try.func7, Try.ntmps7
    go_wp2
    go_ret
    exact ⟨rfl, Below.refl _ _⟩
  by_cases c3 : 9223372036854775807 / lot < np
  · go_enter Try.func7, Try.ntmps7
    go_wp2
    go_ret
    exact ⟨rfl, Below.refl _ _⟩
  by_cases c4 : t1 < 0
  · go_enter Try.func7, Try.ntmps7
    go_wp2
    go_ret
    exact ⟨rfl, Below.refl _ _⟩
  by_cases c5 : t2 < 0
  · go_enter Try.func7, Try.ntmps7
    go_wp2
    go_ret
    exact ⟨rfl, Below.refl _ _⟩
  by_cases c6 : 4611686018427387 < t1
  · go_enter Try.func7, Try.ntmps7
    go_wp2
    go_ret
    exact ⟨rfl, Below.refl _ _⟩
  by_cases c7 : 4611686018427387 < t2
  · go_enter Try.func7, Try.ntmps7
    go_wp2
    go_ret
    exact ⟨rfl, Below.refl _ _⟩
  have d1 : np * lot ≤ 9223372036854775807 := (le_div np lot _ (by omega)).1 (by omega)
  have HD : Hid (np * lot ≤ 9223372036854775807) := d1
  by_cases c8 : t2 < t1
  · obtain ⟨P, U, Q1, Q2, V0, C, eP, p1, p2, r1, r2, q1, q2, q3, q4, eV, v1, v2, eM, eU, u1, u2, u3, eC, k1, k2, k3, k4⟩ := grow_facts np lot t2 t1 (outv s1 s2) (by omega) (by omega) d1 (by omega) (by omega) (by omega)
    have R1 : Hid (buyU t2 (outv s1 s2) (np * lot) * lot = Q1) := r1
    have R2 : Hid (buyU t1 (outv s1 s2) (np * lot) * lot = Q2) := r2
    have K3 : Hid ((U != 1) = true → C ≤ V0 / 10000) := k3
    clear r1 r2 k3 d1
    go_enter Try.func7, Try.ntmps7
    go_wp2_with fail
    refine (newGen_any _ _ _).mono ?_
    rintro e wa ⟨g, pb, rfl, hg, l1, l2, hB⟩
    go_wp2_with fail
    refine (newSec_any _ _ _).mono ?_
    rintro e wb ⟨s, kb, rfl, hs, l3, l4, hbl⟩
    replace hB := hB.trans (hbl.mono hB.size)
    have l5 : pb < wa.heap.size := hg.2.1
    replace hg := hg.below hbl
    clear hbl
    go_wp2_with fail
    refine (zbuyOf_eq g pb s kb s1 s2 np lot t2 Q1 _ hg hs (by omega) (by omega) (by omega) (by omega) HD.out (by omega) (by omega) R1.out).mono ?_
    rintro e wc ⟨rfl, rfl⟩
    replace hB := (drawW_below hB l2 s1 s2).drew
    replace hg := hg.draw.drew
    clear hs l3 l4 l5 R1
    generalize (drawW wb pb s1 s2).drew = wc at *
    go_wp2_with fail
    refine (newGen_any _ _ _).mono ?_
    rintro e wd ⟨g', pb', rfl, hg', m1, m2, hbl⟩
    have l9 : w.heap.size ≤ pb' := by have := hB.size; omega
    replace hB := hB.trans (hbl.mono hB.size)
    have l7 : g ≠ pb' := by have := hg.1; omega
    have l8 : pb ≠ pb' := by have := hg.2.1; omega
    replace hg := hg.below hbl
    clear hbl m1 m2
    go_wp2_with fail
    refine (newSec_any _ _ _).mono ?_
    rintro e we ⟨s', kb', rfl, hs', m3, m4, hbl⟩
    replace hB := hB.trans (hbl.mono hB.size)
    have m5 : pb' < wd.heap.size := hg'.2.1
    replace hg := hg.below hbl
    replace hg' := hg'.below hbl
    clear hbl
    go_wp2_with fail
    refine (zbuyOf_eq g' pb' s' kb' s1 s2 np lot t1 Q2 _ hg' hs' (by omega) (by omega) (by omega) (by omega) HD.out (by omega) (by omega) R2.out).mono ?_
    rintro e wf ⟨rfl, rfl⟩
    replace hB := (drawW_below hB l9 s1 s2).drew
    replace hg := (hg.other s1 s2 l7 l8).drew
    clear hs' hg' m3 m4 m5 R2 l7 l8 l9 HD
    generalize (drawW we pb' s1 s2).drew = wf at *
    go_wp2_with fail
    refine (newGen_any _ _ _).mono ?_
    rintro e wg ⟨g'', pb'', rfl, hg', m1, m2, hbl⟩
    have l9 : w.heap.size ≤ pb'' := by have := hB.size; omega
    have l10 : g'' ≠ pb := by have := hg.2.1; omega
    replace hB := hB.trans (hbl.mono hB.size)
    have l7 : g ≠ pb'' := by have := hg.1; omega
    have l8 : pb ≠ pb'' := by have := hg.2.1; omega
    replace hg := hg.below hbl
    clear hbl m1 m2
    go_wp2_with fail
    refine (rngNext_any _ _ _ _ _ hg').mono ?_
    rintro e wh ⟨rfl, rfl⟩
    replace hB := drawW_below hB l9 s1 s2
    replace hg := hg.other s1 s2 l7 l8
    replace hg' := hg'.draw
    generalize drawW wg pb'' s1 s2 = wh at *
    obtain ⟨o1, o2⟩ := outv_range s1 s2
    go_upto_region 17 with fail
    have n4 : (lot == 0) = false := by simp; omega
    have HU : Hid (Q1 / lot = U) := eU
    have HA : Hid (wrap64 (np * lot) = P ∧ 1 ≤ P ∧ P ≤ 9223372036854775807 ∧ 1 ≤ U ∧ U ≤ 9223372036854775807 ∧ U ≤ 9223372036854775807 / P ∧ wrap64 (U * P) = C ∧ P ≤ C ∧ C ≤ 9223372036854775807 ∧ V0 / 10000 - C < P ∧ 0 ≤ V0 ∧ V0 ≤ 9223372036854775807 ∧ Q1 ≤ 9223372036854775807) := ⟨eP, p1, p2, u1, u2, u3, eC, k1, k2, k4, v1, v2, q3⟩
    clear eP p1 p2 u1 u2 u3 eC k1 k2 k4 v1 v2 eU eV q3 q4 c3 c4 c5 c6 c7 o1 o2 w0 w0' w1 w1' w2 w2' w3 w3'
    go_upto_region 19 with fail
    clear eM
    have HA' := HA.out.2.2.2.2.2.2.2.2.2.2.2.2
    go_upto_region 20 with fail
    rw [HU.out]
    clear HU HA'
    obtain ⟨eP, p1, p2, u1, u2, u3, eC, k1, k2, k4, v1, v2, q3⟩ := HA.out
    have n5 : (P == 0) = false := by simp; omega
    clear HA
    cases hb : (U != 1) with
    | true =>
      have k3 := K3.out hb
      clear K3
      go_wp2_with fail
      clear k1 k2 k4 v1 v2 q3 p1 p2 u1 u2 u3 eC eP
      refine (rngNext_any _ _ _ _ _ hg).mono ?_
      rintro e wi ⟨rfl, rfl⟩
      replace hB := drawW_below hB l2 (nHi s1 s2) (nLo s2)
      replace hg' := hg'.other (nHi s1 s2) (nLo s2) l10 (Ne.symm l8)
      generalize drawW wh pb (nHi s1 s2) (nLo s2) = wi at *
      go_wp2_with fail
      refine (rngNext_any _ _ _ _ _ hg').mono ?_
      rintro e wj ⟨rfl, rfl⟩
      replace hB := drawW_below hB l9 (nHi s1 s2) (nLo s2)
      go_wp2
      go_ret
      exact ⟨by simp, hB⟩
    | false =>
      clear K3
      go_wp2_with fail
      clear k1 k2 k4 v1 v2 q3 p1 p2 u1 u2 u3 eC eP
      refine (rngNext_any _ _ _ _ _ hg).mono ?_
      rintro e wi ⟨rfl, rfl⟩
      replace hB := drawW_below hB l2 (nHi s1 s2) (nLo s2)
      replace hg' := hg'.other (nHi s1 s2) (nLo s2) l10 (Ne.symm l8)
      generalize drawW wh pb (nHi s1 s2) (nLo s2) = wi at *
      go_wp2_with fail
      refine (rngNext_any _ _ _ _ _ hg').mono ?_
      rintro e wj ⟨rfl, rfl⟩
      replace hB := drawW_below hB l9 (nHi s1 s2) (nLo s2)
      go_wp2
      go_ret
      exact ⟨by simp, hB⟩
  · obtain ⟨P, U, Q1, Q2, V0, C, eP, p1, p2, r1, r2, q1, q2, q3, q4, eV, v1, v2, eM, eU, u1, u2, u3, eC, k1, k2, k3, k4⟩ := grow_facts np lot t1 t2 (outv s1 s2) (by omega) (by omega) d1 (by omega) (by omega) (by omega)
    have R1 : Hid (buyU t1 (outv s1 s2) (np * lot) * lot = Q1) := r1
    have R2 : Hid (buyU t2 (outv s1 s2) (np * lot) * lot = Q2) := r2
    have K3 : Hid ((U != 1) = true → C ≤ V0 / 10000) := k3
    clear r1 r2 k3 d1
    go_enter Try.func7, Try.ntmps7
    go_wp2_with fail
    refine (newGen_any _ _ _).mono ?_
    rintro e wa ⟨g, pb, rfl, hg, l1, l2, hB⟩
    go_wp2_with fail
    refine (newSec_any _ _ _).mono ?_
    rintro e wb ⟨s, kb, rfl, hs, l3, l4, hbl⟩
    replace hB := hB.trans (hbl.mono hB.size)
    have l5 : pb < wa.heap.size := hg.2.1
    replace hg := hg.below hbl
    clear hbl
    go_wp2_with fail
    refine (zbuyOf_eq g pb s kb s1 s2 np lot t1 Q1 _ hg hs (by omega) (by omega) (by omega) (by omega) HD.out (by omega) (by omega) R1.out).mono ?_
    rintro e wc ⟨rfl, rfl⟩
    replace hB := (drawW_below hB l2 s1 s2).drew
    replace hg := hg.draw.drew
    clear hs l3 l4 l5 R1
    generalize (drawW wb pb s1 s2).drew = wc at *
    go_wp2_with fail
    refine (newGen_any _ _ _).mono ?_
    rintro e wd ⟨g', pb', rfl, hg', m1, m2, hbl⟩
    have l9 : w.heap.size ≤ pb' := by have := hB.size; omega
    replace hB := hB.trans (hbl.mono hB.size)
    have l7 : g ≠ pb' := by have := hg.1; omega
    have l8 : pb ≠ pb' := by have := hg.2.1; omega
    replace hg := hg.below hbl
    clear hbl m1 m2
    go_wp2_with fail
    refine (newSec_any _ _ _).mono ?_
    rintro e we ⟨s', kb', rfl, hs', m3, m4, hbl⟩
    replace hB := hB.trans (hbl.mono hB.size)
    have m5 : pb' < wd.heap.size := hg'.2.1
    replace hg := hg.below hbl
    replace hg' := hg'.below hbl
    clear hbl
    go_wp2_with fail
    refine (zbuyOf_eq g' pb' s' kb' s1 s2 np lot t2 Q2 _ hg' hs' (by omega) (by omega) (by omega) (by omega) HD.out (by omega) (by omega) R2.out).mono ?_
    rintro e wf ⟨rfl, rfl⟩
    replace hB := (drawW_below hB l9 s1 s2).drew
    replace hg := (hg.other s1 s2 l7 l8).drew
    clear hs' hg' m3 m4 m5 R2 l7 l8 l9 HD
    generalize (drawW we pb' s1 s2).drew = wf at *
    go_wp2_with fail
    refine (newGen_any _ _ _).mono ?_
    rintro e wg ⟨g'', pb'', rfl, hg', m1, m2, hbl⟩
    have l9 : w.heap.size ≤ pb'' := by have := hB.size; omega
    have l10 : g'' ≠ pb := by have := hg.2.1; omega
    replace hB := hB.trans (hbl.mono hB.size)
    have l7 : g ≠ pb'' := by have := hg.1; omega
    have l8 : pb ≠ pb'' := by have := hg.2.1; omega
    replace hg := hg.below hbl
    clear hbl m1 m2
    go_wp2_with fail
    refine (rngNext_any _ _ _ _ _ hg').mono ?_
    rintro e wh ⟨rfl, rfl⟩
    replace hB := drawW_below hB l9 s1 s2
    replace hg := hg.other s1 s2 l7 l8
    replace hg' := hg'.draw
    generalize drawW wg pb'' s1 s2 = wh at *
    obtain ⟨o1, o2⟩ := outv_range s1 s2
    go_upto_region 17 with fail
    have n4 : (lot == 0) = false := by simp; omega
    have HU : Hid (Q1 / lot = U) := eU
    have HA : Hid (wrap64 (np * lot) = P ∧ 1 ≤ P ∧ P ≤ 9223372036854775807 ∧ 1 ≤ U ∧ U ≤ 9223372036854775807 ∧ U ≤ 9223372036854775807 / P ∧ wrap64 (U * P) = C ∧ P ≤ C ∧ C ≤ 9223372036854775807 ∧ V0 / 10000 - C < P ∧ 0 ≤ V0 ∧ V0 ≤ 9223372036854775807 ∧ Q1 ≤ 9223372036854775807) := ⟨eP, p1, p2, u1, u2, u3, eC, k1, k2, k4, v1, v2, q3⟩
    clear eP p1 p2 u1 u2 u3 eC k1 k2 k4 v1 v2 eU eV q3 q4 c3 c4 c5 c6 c7 o1 o2 w0 w0' w1 w1' w2 w2' w3 w3'
    go_upto_region 19 with fail
    clear eM
    have HA' := HA.out.2.2.2.2.2.2.2.2.2.2.2.2
    go_upto_region 20 with fail
    rw [HU.out]
    clear HU HA'
    obtain ⟨eP, p1, p2, u1, u2, u3, eC, k1, k2, k4, v1, v2, q3⟩ := HA.out
    have n5 : (P == 0) = false := by simp; omega
    clear HA
    cases hb : (U != 1) with
    | true =>
      have k3 := K3.out hb
      clear K3
      go_wp2_with fail
      clear k1 k2 k4 v1 v2 q3 p1 p2 u1 u2 u3 eC eP
      refine (rngNext_any _ _ _ _ _ hg).mono ?_
      rintro e wi ⟨rfl, rfl⟩
      replace hB := drawW_below hB l2 (nHi s1 s2) (nLo s2)
      replace hg' := hg'.other (nHi s1 s2) (nLo s2) l10 (Ne.symm l8)
      generalize drawW wh pb (nHi s1 s2) (nLo s2) = wi at *
      go_wp2_with fail
      refine (rngNext_any _ _ _ _ _ hg').mono ?_
      rintro e wj ⟨rfl, rfl⟩
      replace hB := drawW_below hB l9 (nHi s1 s2) (nLo s2)
      go_wp2
      go_ret
      exact ⟨by simp, hB⟩
    | false =>
      clear K3
      go_wp2_with fail
      clear k1 k2 k4 v1 v2 q3 p1 p2 u1 u2 u3 eC eP
      refine (rngNext_any _ _ _ _ _ hg).mono ?_
      rintro e wi ⟨rfl, rfl⟩
      replace hB := drawW_below hB l2 (nHi s1 s2) (nLo s2)
      replace hg' := hg'.other (nHi s1 s2) (nLo s2) l10 (Ne.symm l8)
      generalize drawW wh pb (nHi s1 s2) (nLo s2) = wi at *
      go_wp2_with fail
      refine (rngNext_any _ _ _ _ _ hg').mono ?_
      rintro e wj ⟨rfl, rfl⟩
      replace hB := drawW_below hB l9 (nHi s1 s2) (nLo s2)
      go_wp2
      go_ret
      exact ⟨by simp, hB⟩
end Go.Proofs.Qxb6613790a
