import Derived.Test.Qxb6613788aStat0
namespace Go.Proofs.Qxb6613788a
open Go.RowKit

set_option maxHeartbeats 2000000 in
theorem status_u0 (b : Nat) (sn trust : ByteArray) (total daily used y m d an y' m' d' : Int) (c : Bool) (w : World) (hst : StAt w b sn trust total daily used 0 0 y m d an c) (hb : b < w.heap.size) (ht : ¬ 0 < total) (hd : ¬ 0 < daily) :
    Calls Try.prog 19 #[.pointer (some ⟨b, 0, none⟩), .agg #[.int .i64 y', .int .i64 m', .int .i64 d']] w fun e w' =>
      e = .returned (.agg #[.string sn, .int .i64 0, .bool false, .int .i64 0, .int .i64 0, .int .i64 0, .int .i64 0, .int .i64 0, .string trust, .pointer none]) ∧ Below w.heap.size w w' := by
  obtain ⟨c3, c4, c5, c6, c7, c8, c9, c10, c12, c13, c14, c15, c16, c17, c18, c19, c20⟩ := hst.cells
  clear hst
  have hb1 : b < w.heap.size + 1 := by omega
  have hb2 : b < w.heap.size + 1 + 1 := by omega
  have hb3 : b < w.heap.size + 1 + 1 + 1 := by omega
  have hb4 : b < w.heap.size + 1 + 1 + 1 + 1 := by omega
  have hb5 : b < w.heap.size + 1 + 1 + 1 + 1 + 1 := by omega
  have hb6 : b < w.heap.size + 1 + 1 + 1 + 1 + 1 + 1 := by omega
  go_enter Try.func19, Try.ntmps19
  go_wp2
  go_region_held3 (fun w' => w'.cell? ⟨b, 13, none⟩ = some (.int .i64 total) ∧ w'.cell? ⟨b, 14, none⟩ = some (.int .i64 daily) ∧ w'.cell? ⟨b, 15, none⟩ = some (.string trust) ∧
     w'.cell? ⟨w.heap.size + 1 + 1, 0, none⟩ = some (.string sn) ∧ w'.cell? ⟨w.heap.size + 1 + 1, 3, none⟩ = some (.string trust)) (go_simp)
    (first
      | (go_at_call 22; refine (mode_u b trust total daily _ (by omega) (by omega) ?_ ?_ ?_).mono ?_; (go_simp); (go_simp); (go_simp); rintro e w' ⟨rfl, rfl⟩))
  all_goals
    go_wp2_with (go_at_call 23; refine (isZero_yes _).mono ?_; rintro e w' ⟨rfl, rfl⟩)
  all_goals go_returns
  all_goals exact ⟨rfl, by go_grown⟩

set_option maxHeartbeats 2000000 in
theorem status_u1 (b : Nat) (sn trust : ByteArray) (total daily used W E y m d an y' m' d' : Int) (c : Bool) (w : World) (hst : StAt w b sn trust total daily used W E y m d an c) (hb : b < w.heap.size) (ht : ¬ 0 < total) (hd : ¬ 0 < daily) (hz : (W == 0 && E == 0) = false) :
    Calls Try.prog 19 #[.pointer (some ⟨b, 0, none⟩), .agg #[.int .i64 y', .int .i64 m', .int .i64 d']] w fun e w' =>
      ∃ pb, e = .returned (.agg #[.string sn, .int .i64 0, .bool false, .int .i64 0, .int .i64 0, .int .i64 0, .int .i64 0, .int .i64 0, .string trust, .pointer (some ⟨pb, 0, none⟩)]) ∧ w.heap.size ≤ pb ∧ pb < w'.heap.size ∧ w'.cell? ⟨pb, 0, none⟩ = some (.int .u64 W) ∧ w'.cell? ⟨pb, 1, none⟩ = some (.int .i64 E) ∧ w'.cell? ⟨pb, 2, none⟩ = some (.pointer none) ∧ Below w.heap.size w w' := by
  obtain ⟨c3, c4, c5, c6, c7, c8, c9, c10, c12, c13, c14, c15, c16, c17, c18, c19, c20⟩ := hst.cells
  clear hst
  have hb1 : b < w.heap.size + 1 := by omega
  have hb2 : b < w.heap.size + 1 + 1 := by omega
  have hb3 : b < w.heap.size + 1 + 1 + 1 := by omega
  have hb4 : b < w.heap.size + 1 + 1 + 1 + 1 := by omega
  have hb5 : b < w.heap.size + 1 + 1 + 1 + 1 + 1 := by omega
  have hb6 : b < w.heap.size + 1 + 1 + 1 + 1 + 1 + 1 := by omega
  go_enter Try.func19, Try.ntmps19
  go_wp2
  go_region_held3 (fun w' => w'.cell? ⟨b, 13, none⟩ = some (.int .i64 total) ∧ w'.cell? ⟨b, 14, none⟩ = some (.int .i64 daily) ∧ w'.cell? ⟨b, 15, none⟩ = some (.string trust) ∧
     w'.cell? ⟨w.heap.size + 1 + 1, 0, none⟩ = some (.string sn) ∧ w'.cell? ⟨w.heap.size + 1 + 1, 3, none⟩ = some (.string trust)) (go_simp)
    (first
      | (go_at_call 22; refine (mode_u b trust total daily _ (by omega) (by omega) ?_ ?_ ?_).mono ?_; (go_simp); (go_simp); (go_simp); rintro e w' ⟨rfl, rfl⟩))
  all_goals
    go_wp2_with (go_at_call 23; refine (isZero_no _ _ _ hz).mono ?_; rintro e w' ⟨rfl, rfl⟩)
  all_goals go_returns
  all_goals exact ⟨_, rfl, by omega, by simp, by simp [go_sem], by simp [go_sem], by simp [go_sem], by go_grown⟩

end Go.Proofs.Qxb6613788a
