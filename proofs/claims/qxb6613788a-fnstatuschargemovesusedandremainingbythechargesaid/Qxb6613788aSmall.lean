import Derived.Test.Qxb6613788aOn
namespace Go.Proofs.Qxb6613788a
open Go.RowKit

theorem bt_andNot : bits .andNot .u64 0 1073741823 = 0 := by decide +kernel
theorem bt_and0 : bits .and .u64 0 1073741823 = 0 := by decide +kernel
theorem bt_or (x : Int) (h0 : 0 ≤ x) (h1 : x < 1073741824) : bits .or .u64 0 x = x := by
  rw [u64_or 0 x (by omega) (by omega) h0 (by omega)]
  simp; omega
theorem bt_mono (x : Int) (h0 : 0 ≤ x) (h1 : x < 1073741824) : bits .and .u64 x 9223372036854775808 = 0 := by
  rw [u64_and x _ h0 (by omega) (by omega) (by omega)]
  have := nat_bit 63 x.toNat
  have e : (9223372036854775808 : Int).toNat = 2 ^ 63 := by decide +kernel
  rw [e, this]
  have : x.toNat / 2 ^ 63 = 0 := Nat.div_eq_of_lt (by omega)
  rw [this]; simp


theorem split_ns (d : Int) (h1 : -9223372036854775808 ≤ d) (h2 : d ≤ 9223372036854775807) : ∃ q r : Int, d.tdiv 1000000000 = q ∧ d.tmod 1000000000 = r ∧ -9223372037 ≤ q ∧ q ≤ 9223372036 ∧
    ((0 ≤ r ∧ r < 1000000000 ∧ q = d / 1000000000 ∧ r = d % 1000000000) ∨ (r < 0 ∧ -1000000000 < r ∧ q - 1 = d / 1000000000 ∧ r + 1000000000 = d % 1000000000)) := by
  refine ⟨_, _, rfl, rfl, ?_⟩
  have := Int.mul_tdiv_add_tmod d 1000000000
  by_cases h : 0 ≤ d
  · have e1 := Int.tdiv_eq_ediv_of_nonneg (b := 1000000000) h
    have e2 := Int.tmod_eq_emod_of_nonneg (b := 1000000000) h
    rw [e1, e2]; omega
  · have a1 := Int.lt_tmod_of_pos d (show (0:Int) < 1000000000 by omega)
    have a2 := Int.tmod_lt_of_pos d (show (0:Int) < 1000000000 by omega)
    have a3 : d.tmod 1000000000 ≤ 0 := by
      have := Int.neg_tmod (-d) 1000000000
      rw [Int.neg_neg] at this
      rw [this]
      have := Int.tmod_nonneg (a := -d) 1000000000 (by omega)
      omega
    omega


set_option maxHeartbeats 400000 in
theorem add_any (d : Int) (w : World) (h1 : -9223372036854775808 ≤ d) (h2 : d ≤ 9223372036854775807) :
    Calls Try.prog 6 #[.agg #[.int .u64 0, .int .i64 0, .pointer none], .int .i64 d] w fun e w' => e = .returned (.agg #[.int .u64 (d % 1000000000), .int .i64 (d / 1000000000), .pointer none]) ∧ Below w.heap.size w w' := by
  have b1 := bt_andNot
  have b2 := bt_and0
  obtain ⟨q, r, hq, hr, q1, q2, hc | hc⟩ := split_ns d h1 h2
  · obtain ⟨r1, r2, e1, e2⟩ := hc
    have b3 := bt_or r (by omega) (by omega)
    have b4 := bt_mono r (by omega) (by omega)
    rw [← e1, ← e2]
    clear e1 e2
    by_cases hp : 0 < q
    · go_enter Try.func6, Try.ntmps6
      go_wp2
      go_returns
      exact ⟨rfl, by go_grown⟩
    · go_enter Try.func6, Try.ntmps6
      go_wp2
      go_returns
      exact ⟨rfl, by go_grown⟩
  · obtain ⟨r1, r2, e1, e2⟩ := hc
    have b3 := bt_or (r + 1000000000) (by omega) (by omega)
    have b4 := bt_mono (r + 1000000000) (by omega) (by omega)
    rw [← e1, ← e2]
    clear e1 e2
    by_cases hp : 0 < q - 1
    · go_enter Try.func6, Try.ntmps6
      go_wp2
      go_returns
      exact ⟨rfl, by go_grown⟩
    · go_enter Try.func6, Try.ntmps6
      go_wp2
      go_returns
      exact ⟨rfl, by go_grown⟩

set_option maxHeartbeats 400000 in
theorem date_any (y m d : Int) (w : World) :
    Calls Try.prog 7 #[.agg #[.int .i64 y, .int .i64 m, .int .i64 d]] w fun e w' => e = .returned (.agg #[.int .i64 y, .int .i64 m, .int .i64 d]) ∧ w' = (w.alloc (.cells #[.int .i64 y, .int .i64 m, .int .i64 d] 23)).alloc (.cells #[.int .i64 y, .int .i64 m, .int .i64 d] 33) := by
  go_enter Try.func7, Try.ntmps7
  go_wp2
  go_returns
  exact ⟨rfl, rfl⟩

set_option maxHeartbeats 400000 in
theorem payload_any (sn trust : ByteArray) (total daily : Int) (w : World) :
    Calls Try.prog 9 #[.string sn, .int .i64 total, .int .i64 daily, .string trust] w fun e w' => e = .returned (.agg #[.string sn, .int .i64 total, .int .i64 daily, .string trust, .int .i64 0, .bool (decide (0 < total)), .int .u64 0, .int .i64 0, .pointer none]) ∧ Below w.heap.size w w' := by
  go_enter Try.func9, Try.ntmps9
  go_wp2
  go_returns
  exact ⟨rfl, by go_grown⟩

/-- The state's block: what 'ZZnewState' lays. -/
def StAt (w : World) (b : Nat) (sn trust : ByteArray) (total daily used W E y m d an : Int) (c : Bool) : Prop :=
  w.heap[b]? = some (.cells #[.string { data := #[] }, .slice none 0 0, .slice none 0 0, .int .i64 used,
          .int .i64 y, .int .i64 m, .int .i64 d, .int .i64 an, .int .u64 W, .int .i64 E, .pointer none, .string { data := #[] },
          .string sn, .int .i64 total, .int .i64 daily, .string trust, .int .i64 0, .bool c, .int .u64 0, .int .i64 0, .pointer none] 65)

theorem StAt.below {w w' : World} {b : Nat} {sn trust : ByteArray} {total daily used W E y m d an : Int} {c : Bool} (h : StAt w b sn trust total daily used W E y m d an c) {B : Nat} (hb : Below B w w') (hB : b < B) : StAt w' b sn trust total daily used W E y m d an c := by
  unfold StAt at h ⊢
  rw [hb.block b hB]; exact h

theorem heap_last (w : World) (o : Obj) (n : Nat) (h : n = w.heap.size) : (w.alloc o).heap[n]? = some o := by subst h; exact (MapKept.heap_alloc w _).1

set_option maxHeartbeats 400000 in
theorem newState_any (sn trust : ByteArray) (total daily used W E y m d an : Int) (c : Bool) (w : World) :
    Calls Try.prog 8 #[.agg #[.string sn, .int .i64 total, .int .i64 daily, .string trust, .int .i64 0, .bool c, .int .u64 0, .int .i64 0, .pointer none], .int .i64 used, .agg #[.int .i64 y, .int .i64 m, .int .i64 d, .int .i64 an], .agg #[.int .u64 W, .int .i64 E, .pointer none] ] w fun e w' =>
      ∃ b, e = .returned (.pointer (some ⟨b, 0, none⟩)) ∧ w.heap.size ≤ b ∧ b < w'.heap.size ∧ StAt w' b sn trust total daily used W E y m d an c ∧ Below w.heap.size w w' := by
  go_enter Try.func8, Try.ntmps8
  go_wp2
  go_returns
  exact ⟨w.heap.size + 1 + 1 + 1, rfl, by omega, by simp, heap_last _ _ _ (by simp), by go_grown⟩

set_option maxHeartbeats 400000 in
theorem mode_c (b : Nat) (trust : ByteArray) (total daily : Int) (w : World) (h : 0 < total)
    (h13 : w.cell? ⟨b, 13, none⟩ = some (.int .i64 total)) (h14 : w.cell? ⟨b, 14, none⟩ = some (.int .i64 daily)) (h15 : w.cell? ⟨b, 15, none⟩ = some (.string trust)) :
    Calls Try.prog 22 #[.pointer (some ⟨b, 0, none⟩)] w fun e w' => e = .returned (.int .i64 2) ∧ w' = w.alloc (.cells #[.int .i64 total, .int .i64 daily, .string trust] 42) := by
  go_enter Try.func22, Try.ntmps22
  go_wp2
  go_ret
  exact ⟨rfl, rfl⟩
set_option maxHeartbeats 400000 in
theorem mode_d (b : Nat) (trust : ByteArray) (total daily : Int) (w : World) (h : ¬ 0 < total) (h' : 0 < daily)
    (h13 : w.cell? ⟨b, 13, none⟩ = some (.int .i64 total)) (h14 : w.cell? ⟨b, 14, none⟩ = some (.int .i64 daily)) (h15 : w.cell? ⟨b, 15, none⟩ = some (.string trust)) :
    Calls Try.prog 22 #[.pointer (some ⟨b, 0, none⟩)] w fun e w' => e = .returned (.int .i64 1) ∧ w' = w.alloc (.cells #[.int .i64 total, .int .i64 daily, .string trust] 42) := by
  go_enter Try.func22, Try.ntmps22
  go_wp2
  go_ret
  exact ⟨rfl, rfl⟩
set_option maxHeartbeats 400000 in
theorem mode_u (b : Nat) (trust : ByteArray) (total daily : Int) (w : World) (h : ¬ 0 < total) (h' : ¬ 0 < daily)
    (h13 : w.cell? ⟨b, 13, none⟩ = some (.int .i64 total)) (h14 : w.cell? ⟨b, 14, none⟩ = some (.int .i64 daily)) (h15 : w.cell? ⟨b, 15, none⟩ = some (.string trust)) :
    Calls Try.prog 22 #[.pointer (some ⟨b, 0, none⟩)] w fun e w' => e = .returned (.int .i64 0) ∧ w' = w.alloc (.cells #[.int .i64 total, .int .i64 daily, .string trust] 42) := by
  go_enter Try.func22, Try.ntmps22
  go_wp2
  go_ret
  exact ⟨rfl, rfl⟩

set_option maxHeartbeats 400000 in
theorem isZero_any (W E : Int) (w : World) :
    Calls Try.prog 23 #[.agg #[.int .u64 W, .int .i64 E, .pointer none]] w fun e w' => e = .returned (.bool (W == 0 && E == 0)) ∧ w' = w.alloc (.cells #[.int .u64 W, .int .i64 E, .pointer none] 28) := by
  go_enter Try.func23, Try.ntmps23
  go_wp2
  all_goals (go_ret; exact ⟨by simp [*], by simp [*]⟩)

def maxz (x : Int) : Int := if 0 < x then x else 0

set_option maxHeartbeats 400000 in
theorem remaining_any (total used : Int) (w : World) (h1 : -9223372036854775808 ≤ total - used) (h2 : total - used ≤ 9223372036854775807) :
    Calls Try.prog 14 #[.int .i64 total, .int .i64 used] w fun e w' => e = .returned (.int .i64 (maxz (total - used))) ∧ w' = w := by
  go_enter Try.func14, Try.ntmps14
  go_wp2
  all_goals (go_ret; exact ⟨ret_int (by unfold maxz; split <;> omega), rfl⟩)

set_option maxHeartbeats 400000 in
theorem after_any (y m d y' m' d' : Int) (w : World) :
    Calls Try.prog 20 #[.agg #[.int .i64 y, .int .i64 m, .int .i64 d], .agg #[.int .i64 y', .int .i64 m', .int .i64 d']] w fun e w' => e = .returned (.bool (aft y m d y' m' d')) ∧ w' = (w.alloc (.cells #[.int .i64 y, .int .i64 m, .int .i64 d] 23)).alloc (.cells #[.int .i64 y', .int .i64 m', .int .i64 d'] 23) := by
  by_cases h1 : y = y'
  · subst h1
    by_cases h2 : m = m'
    · subst h2
      go_enter Try.func20, Try.ntmps20
      go_wp2
      go_ret
      exact ⟨ret_bool (by simp [aft]), rfl⟩
    · have g2 : (m != m') = true := by simp [h2]
      go_enter Try.func20, Try.ntmps20
      go_wp2
      go_ret
      exact ⟨ret_bool (by simp [aft, h2]), rfl⟩
  · have g1 : (y != y') = true := by simp [h1]
    go_enter Try.func20, Try.ntmps20
    go_wp2
    go_ret
    exact ⟨ret_bool (by simp [aft, h1]), rfl⟩
end Go.Proofs.Qxb6613788a
