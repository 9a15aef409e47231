/-
  PLAIN ARITHMETIC of buyOf: no Go in sight.
-/
import Derived.Test.Qxb6613790aGen
namespace Go.Proofs.Qxb6613790a
open Go.RowKit

theorem tdiv_wrap (a b : Int) (ha : 0 ≤ a) (ha' : a ≤ 9223372036854775807) (hb : 1 ≤ b) : wrap64 (a.tdiv b) = a / b := by
  rw [Int.tdiv_eq_ediv_of_nonneg ha]
  have := div_bd a b ha (by omega)
  exact wrap64_id _ (by omega) (by omega)

/-- a ≤ m / b is a * b ≤ m. -/
theorem le_div (a b m : Int) (hb : 1 ≤ b) : a ≤ m / b ↔ a * b ≤ m := Int.le_ediv_iff_mul_le (by omega)

/-- A fund k times as large, a security k times as dear: as many lots. -/
theorem buyU_scale (total o P k : Int) (hk : 1 ≤ k) : buyU (total * k) o (P * k) = buyU total o P := by
  have e : buyV (total * k) o / (P * k) = buyV total o / P := by
    unfold buyV
    rw [Int.ediv_ediv_of_nonneg (by decide), Int.ediv_ediv_of_nonneg (by decide)]
    rw [show total * k * 100 * (2 + o % 19) = (total * 100 * (2 + o % 19)) * k by grind, show (10000 : Int) * (P * k) = (10000 * P) * k by grind]
    exact Int.mul_ediv_mul_of_pos_left _ _ (by omega)
  unfold buyU
  rw [e]

/-- What is bought costs no more than is spent, or it is one lot; one lot more would cost more than is spent. -/
theorem buyU_cost (total o P : Int) (hP : 1 ≤ P) : (buyU total o P ≠ 1 → buyU total o P * P ≤ buyV total o) ∧ buyV total o - buyU total o P * P < P := by
  have h1 := Int.ediv_mul_le (buyV total o) (show P ≠ 0 by omega)
  have h2 := Int.lt_ediv_add_one_mul_self (buyV total o) (show 0 < P by omega)
  have h3 : (buyV total o / P + 1) * P = buyV total o / P * P + P := by grind
  unfold buyU
  split
  · exact ⟨fun _ => h1, by omega⟩
  · refine ⟨fun h => absurd rfl h, ?_⟩
    have : buyV total o / P * P ≤ 1 * P := Int.mul_le_mul_of_nonneg_right (by omega) (by omega)
    omega

theorem buyV_le (total o : Int) (h0 : 0 ≤ total) : buyV total o ≤ total * 2000 / 10000 ∧ total * 200 / 10000 ≤ buyV total o := by
  have a1 := Int.emod_nonneg o (show (19 : Int) ≠ 0 by decide)
  have a2 := Int.emod_lt_of_pos o (show (0 : Int) < 19 by decide)
  have m2 : total * 100 * (2 + o % 19) ≤ total * 100 * 20 := Int.mul_le_mul_of_nonneg_left (by omega) (by omega)
  have m1 : total * 100 * 2 ≤ total * 100 * (2 + o % 19) := Int.mul_le_mul_of_nonneg_left (by omega) (by omega)
  unfold buyV
  omega
end Go.Proofs.Qxb6613790a
