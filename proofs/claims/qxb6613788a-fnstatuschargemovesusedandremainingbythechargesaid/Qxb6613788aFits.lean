import Derived.Test.Qxb6613788aStat0
import Derived.BigQuiet
import Derived.Deep.QuietTactic
namespace Go.Proofs.Qxb6613788a
open Go.RowKit

/-- The walk has no law for '==' of two pointers inside a struct. -/
theorem eq_loc (w : World) : (Op.equalIn 9999 26 (.pointer none) (.pointer none)).run Try.prog w = .ok true w := by kernel_rfl
theorem below_drewN {B : Nat} {a w : World} (h : Below B a w) (n : Nat) : Below B a (w.drewN n) := ⟨h.os, h.tape, h.output, h.size, h.block⟩

theorem after_yes (y m d y' m' d' : Int) (w : World) (h : aft y m d y' m' d' = true) :
    Calls Try.prog 20 #[.agg #[.int .i64 y, .int .i64 m, .int .i64 d], .agg #[.int .i64 y', .int .i64 m', .int .i64 d']] w fun e w' => e = .returned (.bool true) ∧ w' = (w.alloc (.cells #[.int .i64 y, .int .i64 m, .int .i64 d] 23)).alloc (.cells #[.int .i64 y', .int .i64 m', .int .i64 d'] 23) := by
  have := after_any y m d y' m' d' w
  rw [h] at this; exact this
theorem after_no (y m d y' m' d' : Int) (w : World) (h : aft y m d y' m' d' = false) :
    Calls Try.prog 20 #[.agg #[.int .i64 y, .int .i64 m, .int .i64 d], .agg #[.int .i64 y', .int .i64 m', .int .i64 d']] w fun e w' => e = .returned (.bool false) ∧ w' = (w.alloc (.cells #[.int .i64 y, .int .i64 m, .int .i64 d] 23)).alloc (.cells #[.int .i64 y', .int .i64 m', .int .i64 d'] 23) := by
  have := after_any y m d y' m' d' w
  rw [h] at this; exact this

set_option maxHeartbeats 2000000 in
theorem fits_cl0 (sn trust : ByteArray) (total daily used y m d an y' m' d' : Int) (w : World) (ht : 0 < total) (hu : used < total) (h2 : total - used ≤ 9223372036854775807) :
    Calls Try.prog 11 #[.agg #[.string sn, .int .i64 2, .bool true, .int .i64 total, .int .i64 used, .int .i64 (total - used), .int .i64 0, .int .i64 0, .string trust, .pointer none],
       .string sn, .int .i64 total, .int .i64 daily, .string trust, .int .i64 used, .agg #[.int .i64 y, .int .i64 m, .int .i64 d], .int .i64 an, .int .i64 0, .agg #[.int .u64 0, .int .i64 0, .pointer none], .agg #[.int .i64 y', .int .i64 m', .int .i64 d']] w fun e w' =>
      e = .returned (.bool true) ∧ Below w.heap.size w w' := by
  go_enter Try.func11, Try.ntmps11
  go_wp2
  go_ret
  exact ⟨rfl, by go_grown⟩

set_option maxHeartbeats 2000000 in
theorem fits_cl1 (pb : Nat) (sn trust : ByteArray) (total daily used W E y m d an rn y' m' d' : Int) (w : World) (ht : 0 < total) (hu : used < total) (h2 : total - used ≤ 9223372036854775807) (hrn : (rn == 0) = false) (hpb : pb < w.heap.size) (c0 : w.cell? ⟨pb, 0, none⟩ = some (.int .u64 W)) (c1 : w.cell? ⟨pb, 1, none⟩ = some (.int .i64 E)) (c2 : w.cell? ⟨pb, 2, none⟩ = some (.pointer none)) :
    Calls Try.prog 11 #[.agg #[.string sn, .int .i64 2, .bool true, .int .i64 total, .int .i64 used, .int .i64 (total - used), .int .i64 0, .int .i64 0, .string trust, .pointer (some ⟨pb, 0, none⟩)],
       .string sn, .int .i64 total, .int .i64 daily, .string trust, .int .i64 used, .agg #[.int .i64 y, .int .i64 m, .int .i64 d], .int .i64 an, .int .i64 rn, .agg #[.int .u64 W, .int .i64 E, .pointer none], .agg #[.int .i64 y', .int .i64 m', .int .i64 d']] w fun e w' =>
      e = .returned (.bool true) ∧ Below w.heap.size w w' := by
  have hloc := eq_loc
  have hb1 : pb < w.heap.size + 1 := by omega
  have hb2 : pb < w.heap.size + 1 + 1 := by omega
  have hb3 : pb < w.heap.size + 1 + 1 + 1 := by omega
  have hb4 : pb < w.heap.size + 1 + 1 + 1 + 1 := by omega
  go_enter Try.func11, Try.ntmps11
  go_wp2
  go_quiet (fail)
  go_wp2
  go_ret
  exact ⟨rfl, below_drewN (by go_grown) _⟩

set_option maxHeartbeats 2000000 in
theorem fits_cg0 (sn trust : ByteArray) (total daily used y m d an y' m' d' : Int) (w : World) (ht : 0 < total) (hu : ¬ used < total) :
    Calls Try.prog 11 #[.agg #[.string sn, .int .i64 2, .bool true, .int .i64 total, .int .i64 used, .int .i64 0, .int .i64 0, .int .i64 0, .string trust, .pointer none],
       .string sn, .int .i64 total, .int .i64 daily, .string trust, .int .i64 used, .agg #[.int .i64 y, .int .i64 m, .int .i64 d], .int .i64 an, .int .i64 0, .agg #[.int .u64 0, .int .i64 0, .pointer none], .agg #[.int .i64 y', .int .i64 m', .int .i64 d']] w fun e w' =>
      e = .returned (.bool true) ∧ Below w.heap.size w w' := by
  go_enter Try.func11, Try.ntmps11
  go_wp2
  go_ret
  exact ⟨rfl, by go_grown⟩

set_option maxHeartbeats 2000000 in
theorem fits_cg1 (pb : Nat) (sn trust : ByteArray) (total daily used W E y m d an rn y' m' d' : Int) (w : World) (ht : 0 < total) (hu : ¬ used < total) (hrn : (rn == 0) = false) (hpb : pb < w.heap.size) (c0 : w.cell? ⟨pb, 0, none⟩ = some (.int .u64 W)) (c1 : w.cell? ⟨pb, 1, none⟩ = some (.int .i64 E)) (c2 : w.cell? ⟨pb, 2, none⟩ = some (.pointer none)) :
    Calls Try.prog 11 #[.agg #[.string sn, .int .i64 2, .bool true, .int .i64 total, .int .i64 used, .int .i64 0, .int .i64 0, .int .i64 0, .string trust, .pointer (some ⟨pb, 0, none⟩)],
       .string sn, .int .i64 total, .int .i64 daily, .string trust, .int .i64 used, .agg #[.int .i64 y, .int .i64 m, .int .i64 d], .int .i64 an, .int .i64 rn, .agg #[.int .u64 W, .int .i64 E, .pointer none], .agg #[.int .i64 y', .int .i64 m', .int .i64 d']] w fun e w' =>
      e = .returned (.bool true) ∧ Below w.heap.size w w' := by
  have hloc := eq_loc
  have hb1 : pb < w.heap.size + 1 := by omega
  have hb2 : pb < w.heap.size + 1 + 1 := by omega
  have hb3 : pb < w.heap.size + 1 + 1 + 1 := by omega
  have hb4 : pb < w.heap.size + 1 + 1 + 1 + 1 := by omega
  go_enter Try.func11, Try.ntmps11
  go_wp2
  go_quiet (fail)
  go_wp2
  go_ret
  exact ⟨rfl, below_drewN (by go_grown) _⟩

set_option maxHeartbeats 2000000 in
theorem fits_da0 (sn trust : ByteArray) (total daily used y m d an y' m' d' : Int) (w : World) (ht : ¬ 0 < total) (hd : 0 < daily) (ha : aft y' m' d' y m d = true) :
    Calls Try.prog 11 #[.agg #[.string sn, .int .i64 1, .bool false, .int .i64 0, .int .i64 0, .int .i64 0, .int .i64 daily, .int .i64 0, .string trust, .pointer none],
       .string sn, .int .i64 total, .int .i64 daily, .string trust, .int .i64 used, .agg #[.int .i64 y, .int .i64 m, .int .i64 d], .int .i64 an, .int .i64 0, .agg #[.int .u64 0, .int .i64 0, .pointer none], .agg #[.int .i64 y', .int .i64 m', .int .i64 d']] w fun e w' =>
      e = .returned (.bool true) ∧ Below w.heap.size w w' := by
  go_enter Try.func11, Try.ntmps11
  go_wp2_with (go_at_call 20; refine (after_yes _ _ _ _ _ _ _ ha).mono ?_; rintro e w' ⟨rfl, rfl⟩)
  go_ret
  exact ⟨rfl, by go_grown⟩

set_option maxHeartbeats 2000000 in
theorem fits_da1 (pb : Nat) (sn trust : ByteArray) (total daily used W E y m d an rn y' m' d' : Int) (w : World) (ht : ¬ 0 < total) (hd : 0 < daily) (ha : aft y' m' d' y m d = true) (hrn : (rn == 0) = false) (hpb : pb < w.heap.size) (c0 : w.cell? ⟨pb, 0, none⟩ = some (.int .u64 W)) (c1 : w.cell? ⟨pb, 1, none⟩ = some (.int .i64 E)) (c2 : w.cell? ⟨pb, 2, none⟩ = some (.pointer none)) :
    Calls Try.prog 11 #[.agg #[.string sn, .int .i64 1, .bool false, .int .i64 0, .int .i64 0, .int .i64 0, .int .i64 daily, .int .i64 0, .string trust, .pointer (some ⟨pb, 0, none⟩)],
       .string sn, .int .i64 total, .int .i64 daily, .string trust, .int .i64 used, .agg #[.int .i64 y, .int .i64 m, .int .i64 d], .int .i64 an, .int .i64 rn, .agg #[.int .u64 W, .int .i64 E, .pointer none], .agg #[.int .i64 y', .int .i64 m', .int .i64 d']] w fun e w' =>
      e = .returned (.bool true) ∧ Below w.heap.size w w' := by
  have hloc := eq_loc
  have hb1 : pb < w.heap.size + 1 := by omega
  have hb2 : pb < w.heap.size + 1 + 1 := by omega
  have hb3 : pb < w.heap.size + 1 + 1 + 1 := by omega
  have hb4 : pb < w.heap.size + 1 + 1 + 1 + 1 := by omega
  have hb5 : pb < w.heap.size + 1 + 1 + 1 + 1 + 1 := by omega
  have hb6 : pb < w.heap.size + 1 + 1 + 1 + 1 + 1 + 1 := by omega
  have hb7 : pb < w.heap.size + 1 + 1 + 1 + 1 + 1 + 1 + 1 := by omega
  go_enter Try.func11, Try.ntmps11
  go_wp2_with (go_at_call 20; refine (after_yes _ _ _ _ _ _ _ ha).mono ?_; rintro e w' ⟨rfl, rfl⟩)
  go_quiet (fail)
  go_wp2
  go_ret
  exact ⟨rfl, below_drewN (by go_grown) _⟩

set_option maxHeartbeats 2000000 in
theorem fits_dn0 (sn trust : ByteArray) (total daily used y m d an y' m' d' : Int) (w : World) (ht : ¬ 0 < total) (hd : 0 < daily) (ha : aft y' m' d' y m d = false) :
    Calls Try.prog 11 #[.agg #[.string sn, .int .i64 1, .bool false, .int .i64 0, .int .i64 0, .int .i64 0, .int .i64 daily, .int .i64 an, .string trust, .pointer none],
       .string sn, .int .i64 total, .int .i64 daily, .string trust, .int .i64 used, .agg #[.int .i64 y, .int .i64 m, .int .i64 d], .int .i64 an, .int .i64 0, .agg #[.int .u64 0, .int .i64 0, .pointer none], .agg #[.int .i64 y', .int .i64 m', .int .i64 d']] w fun e w' =>
      e = .returned (.bool true) ∧ Below w.heap.size w w' := by
  go_enter Try.func11, Try.ntmps11
  go_wp2_with (go_at_call 20; refine (after_no _ _ _ _ _ _ _ ha).mono ?_; rintro e w' ⟨rfl, rfl⟩)
  go_ret
  exact ⟨rfl, by go_grown⟩

set_option maxHeartbeats 2000000 in
theorem fits_dn1 (pb : Nat) (sn trust : ByteArray) (total daily used W E y m d an rn y' m' d' : Int) (w : World) (ht : ¬ 0 < total) (hd : 0 < daily) (ha : aft y' m' d' y m d = false) (hrn : (rn == 0) = false) (hpb : pb < w.heap.size) (c0 : w.cell? ⟨pb, 0, none⟩ = some (.int .u64 W)) (c1 : w.cell? ⟨pb, 1, none⟩ = some (.int .i64 E)) (c2 : w.cell? ⟨pb, 2, none⟩ = some (.pointer none)) :
    Calls Try.prog 11 #[.agg #[.string sn, .int .i64 1, .bool false, .int .i64 0, .int .i64 0, .int .i64 0, .int .i64 daily, .int .i64 an, .string trust, .pointer (some ⟨pb, 0, none⟩)],
       .string sn, .int .i64 total, .int .i64 daily, .string trust, .int .i64 used, .agg #[.int .i64 y, .int .i64 m, .int .i64 d], .int .i64 an, .int .i64 rn, .agg #[.int .u64 W, .int .i64 E, .pointer none], .agg #[.int .i64 y', .int .i64 m', .int .i64 d']] w fun e w' =>
      e = .returned (.bool true) ∧ Below w.heap.size w w' := by
  have hloc := eq_loc
  have hb1 : pb < w.heap.size + 1 := by omega
  have hb2 : pb < w.heap.size + 1 + 1 := by omega
  have hb3 : pb < w.heap.size + 1 + 1 + 1 := by omega
  have hb4 : pb < w.heap.size + 1 + 1 + 1 + 1 := by omega
  have hb5 : pb < w.heap.size + 1 + 1 + 1 + 1 + 1 := by omega
  have hb6 : pb < w.heap.size + 1 + 1 + 1 + 1 + 1 + 1 := by omega
  have hb7 : pb < w.heap.size + 1 + 1 + 1 + 1 + 1 + 1 + 1 := by omega
  go_enter Try.func11, Try.ntmps11
  go_wp2_with (go_at_call 20; refine (after_no _ _ _ _ _ _ _ ha).mono ?_; rintro e w' ⟨rfl, rfl⟩)
  go_quiet (fail)
  go_wp2
  go_ret
  exact ⟨rfl, below_drewN (by go_grown) _⟩

set_option maxHeartbeats 2000000 in
theorem fits_u0 (sn trust : ByteArray) (total daily used y m d an y' m' d' : Int) (w : World) (ht : ¬ 0 < total) (hd : ¬ 0 < daily) :
    Calls Try.prog 11 #[.agg #[.string sn, .int .i64 0, .bool false, .int .i64 0, .int .i64 0, .int .i64 0, .int .i64 0, .int .i64 0, .string trust, .pointer none],
       .string sn, .int .i64 total, .int .i64 daily, .string trust, .int .i64 used, .agg #[.int .i64 y, .int .i64 m, .int .i64 d], .int .i64 an, .int .i64 0, .agg #[.int .u64 0, .int .i64 0, .pointer none], .agg #[.int .i64 y', .int .i64 m', .int .i64 d']] w fun e w' =>
      e = .returned (.bool true) ∧ Below w.heap.size w w' := by
  go_enter Try.func11, Try.ntmps11
  go_wp2
  go_ret
  exact ⟨rfl, by go_grown⟩

set_option maxHeartbeats 2000000 in
theorem fits_u1 (pb : Nat) (sn trust : ByteArray) (total daily used W E y m d an rn y' m' d' : Int) (w : World) (ht : ¬ 0 < total) (hd : ¬ 0 < daily) (hrn : (rn == 0) = false) (hpb : pb < w.heap.size) (c0 : w.cell? ⟨pb, 0, none⟩ = some (.int .u64 W)) (c1 : w.cell? ⟨pb, 1, none⟩ = some (.int .i64 E)) (c2 : w.cell? ⟨pb, 2, none⟩ = some (.pointer none)) :
    Calls Try.prog 11 #[.agg #[.string sn, .int .i64 0, .bool false, .int .i64 0, .int .i64 0, .int .i64 0, .int .i64 0, .int .i64 0, .string trust, .pointer (some ⟨pb, 0, none⟩)],
       .string sn, .int .i64 total, .int .i64 daily, .string trust, .int .i64 used, .agg #[.int .i64 y, .int .i64 m, .int .i64 d], .int .i64 an, .int .i64 rn, .agg #[.int .u64 W, .int .i64 E, .pointer none], .agg #[.int .i64 y', .int .i64 m', .int .i64 d']] w fun e w' =>
      e = .returned (.bool true) ∧ Below w.heap.size w w' := by
  have hloc := eq_loc
  have hb1 : pb < w.heap.size + 1 := by omega
  have hb2 : pb < w.heap.size + 1 + 1 := by omega
  have hb3 : pb < w.heap.size + 1 + 1 + 1 := by omega
  have hb4 : pb < w.heap.size + 1 + 1 + 1 + 1 := by omega
  go_enter Try.func11, Try.ntmps11
  go_wp2
  go_quiet (fail)
  go_wp2
  go_ret
  exact ⟨rfl, below_drewN (by go_grown) _⟩

end Go.Proofs.Qxb6613788a
