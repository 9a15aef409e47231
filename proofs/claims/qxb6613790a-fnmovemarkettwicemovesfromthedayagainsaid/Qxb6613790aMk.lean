import Derived.Test.Qxb6613790aKeep
import Derived.Deep.DeepCutAuto
namespace Go.Proofs.Qxb6613790a
open Go.RowKit

/-- The smallest step of a price stated to p decimals. -/
def stepZ (p : Int) : Int := if p = 0 then 10000 else if p = 1 then 1000 else if p = 2 then 100 else if p = 3 then 10 else 1
theorem stepZ_bd (p : Int) : 1 ≤ stepZ p ∧ stepZ p ≤ 10000 := by unfold stepZ; repeat' split <;> omega
/-- By how much a draw moves a price. -/
def moveZ (p price o : Int) : Int := ((price * (-20 + o % 41)).tdiv 1000).tdiv (stepZ p) * stepZ p
/-- The night's price. -/
def nightZ (p price o : Int) : Int := if stepZ p < price + moveZ p price o then price + moveZ p price o else stepZ p

theorem tdiv_abs (a b : Int) (hb : 0 < b) : (0 ≤ a → 0 ≤ a.tdiv b ∧ a.tdiv b * b ≤ a) ∧ (a ≤ 0 → a.tdiv b ≤ 0 ∧ a ≤ a.tdiv b * b) := by
  constructor
  · intro h
    rw [Int.tdiv_eq_ediv_of_nonneg h]
    exact ⟨Int.ediv_nonneg h (by omega), Int.ediv_mul_le _ (by omega)⟩
  · intro h
    have e : a.tdiv b = -((-a).tdiv b) := by rw [← Int.neg_tdiv, Int.neg_neg]
    rw [e, Int.tdiv_eq_ediv_of_nonneg (show 0 ≤ -a by omega)]
    have h1 := Int.ediv_nonneg (show 0 ≤ -a by omega) (show 0 ≤ b by omega)
    have h2 := Int.ediv_mul_le (-a) (show b ≠ 0 by omega)
    rw [Int.neg_mul]
    omega

/-- What is known of a move. -/
theorem move_facts (p price o : Int) (h1 : 1 ≤ price) (h2 : price ≤ 461168601842738790) (h3 : price % stepZ p = 0) :
    -9223372036854775807 ≤ price * (-20 + o % 41) ∧ price * (-20 + o % 41) ≤ 9223372036854775807 ∧
    -(price / 50) ≤ moveZ p price o ∧ moveZ p price o ≤ price / 50 ∧ stepZ p ≤ price + moveZ p price o ∧ moveZ p price o % stepZ p = 0 ∧
    -9223372036854775807 ≤ (price * (-20 + o % 41)).tdiv 1000 ∧ (price * (-20 + o % 41)).tdiv 1000 ≤ 9223372036854775807 ∧
    -9223372036854775807 ≤ ((price * (-20 + o % 41)).tdiv 1000).tdiv (stepZ p) ∧ ((price * (-20 + o % 41)).tdiv 1000).tdiv (stepZ p) ≤ 9223372036854775807 := by
  obtain ⟨s1, s2⟩ := stepZ_bd p
  have a1 := Int.emod_nonneg o (show (41 : Int) ≠ 0 by decide)
  have a2 := Int.emod_lt_of_pos o (show (0 : Int) < 41 by decide)
  have b1 : price * (-20) ≤ price * (-20 + o % 41) := Int.mul_le_mul_of_nonneg_left (by omega) (by omega)
  have b2 : price * (-20 + o % 41) ≤ price * 20 := Int.mul_le_mul_of_nonneg_left (by omega) (by omega)
  have hm : moveZ p price o % stepZ p = 0 := by unfold moveZ; exact Int.mul_emod_left _ _
  have hmv : moveZ p price o = ((price * (-20 + o % 41)).tdiv 1000).tdiv (stepZ p) * stepZ p := rfl
  generalize price * (-20 + o % 41) = T at *
  obtain ⟨t1, t2⟩ := tdiv_abs T 1000 (by decide)
  obtain ⟨t3, t4⟩ := tdiv_abs (T.tdiv 1000) (stepZ p) (by omega)
  have key : -(price / 50) ≤ moveZ p price o ∧ moveZ p price o ≤ price / 50 ∧ -9223372036854775807 ≤ T.tdiv 1000 ∧ T.tdiv 1000 ≤ 9223372036854775807 ∧
      -9223372036854775807 ≤ (T.tdiv 1000).tdiv (stepZ p) ∧ (T.tdiv 1000).tdiv (stepZ p) ≤ 9223372036854775807 := by
    rw [hmv]
    by_cases h : 0 ≤ T
    · obtain ⟨u1, u2⟩ := t1 h
      obtain ⟨u3, u4⟩ := t3 u1
      have u5 : (T.tdiv 1000).tdiv (stepZ p) * 1 ≤ (T.tdiv 1000).tdiv (stepZ p) * stepZ p := Int.mul_le_mul_of_nonneg_left s1 u3
      have u6 := Int.mul_nonneg u3 (show 0 ≤ stepZ p by omega)
      omega
    · obtain ⟨u1, u2⟩ := t2 (by omega)
      obtain ⟨u3, u4⟩ := t4 u1
      have u5 : (T.tdiv 1000).tdiv (stepZ p) * stepZ p ≤ (T.tdiv 1000).tdiv (stepZ p) * 1 := Int.mul_le_mul_of_nonpos_left u3 s1
      have u6 := Int.mul_nonneg (show 0 ≤ -((T.tdiv 1000).tdiv (stepZ p)) by omega) (show 0 ≤ stepZ p by omega)
      rw [Int.neg_mul] at u6
      omega
  obtain ⟨k1, k2, k3, k4, k5, k6⟩ := key
  have hs : (price + moveZ p price o) % stepZ p = 0 := by
    rw [Int.add_emod, h3, hm]; simp
  have hpos : 0 < price + moveZ p price o := by omega
  have hge : stepZ p ≤ price + moveZ p price o := by
    by_cases h : price + moveZ p price o < stepZ p
    · rw [Int.emod_eq_of_lt (by omega) h] at hs; omega
    · omega
  exact ⟨by omega, by omega, k1, k2, hge, hm, k3, k4, k5, k6⟩

theorem night_eq (p price o : Int) (h1 : 1 ≤ price) (h2 : price ≤ 461168601842738790) (h3 : price % stepZ p = 0) : nightZ p price o = price + moveZ p price o := by
  obtain ⟨_, _, _, _, h, _⟩ := move_facts p price o h1 h2 h3
  unfold nightZ
  split <;> omega

set_option maxHeartbeats 400000 in
theorem stepOf_any (p : Int) (w : World) : Calls Try.prog 21 #[.int .i64 p] w fun e w' => e = .returned (.int .i64 (stepZ p)) ∧ w' = w := by
  by_cases h0 : p = 0
  · subst h0
    go_enter Try.func21, Try.ntmps21
    go_wp2
    go_ret
    exact ⟨rfl, rfl⟩
  by_cases h1 : p = 1
  · subst h1
    go_enter Try.func21, Try.ntmps21
    go_wp2
    go_ret
    exact ⟨rfl, rfl⟩
  by_cases h2 : p = 2
  · subst h2
    go_enter Try.func21, Try.ntmps21
    go_wp2
    go_ret
    exact ⟨rfl, rfl⟩
  by_cases h3 : p = 3
  · subst h3
    go_enter Try.func21, Try.ntmps21
    go_wp2
    go_ret
    exact ⟨rfl, rfl⟩
  have b0 : (p == 0) = false := by simp [h0]
  have b1 : (p == 1) = false := by simp [h1]
  have b2 : (p == 2) = false := by simp [h2]
  have b3 : (p == 3) = false := by simp [h3]
  have e : stepZ p = 1 := by simp [stepZ, h0, h1, h2, h3]
  rw [e]
  clear e h0 h1 h2 h3
  go_enter Try.func21, Try.ntmps21
  go_wp2
  go_ret
  exact ⟨rfl, rfl⟩

set_option maxHeartbeats 400000 in
theorem kstep_any (kb : Nat) (p : Int) (w : World) (hc : w.cell? ⟨kb, 3, none⟩ = some (.int .i64 p)) (h0 : 0 ≤ p) (h4 : p ≤ 4) :
    Calls Try.prog 34 #[.pointer (some ⟨kb, 0, none⟩)] w fun e w' => e = .returned (.int .i64 (stepZ p)) ∧ w' = w := by
  obtain rfl | rfl | rfl | rfl | rfl : p = 0 ∨ p = 1 ∨ p = 2 ∨ p = 3 ∨ p = 4 := by omega
  all_goals
    go_enter Try.func34, Try.ntmps34
    go_wp2
    go_rounds 5
    go_ret
    exact ⟨rfl, rfl⟩
end Go.Proofs.Qxb6613790a
