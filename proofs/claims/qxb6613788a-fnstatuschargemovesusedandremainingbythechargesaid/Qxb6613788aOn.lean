import Derived.Test.Qxb6613788aLeaf
namespace Go.Proofs.Qxb6613788a
open Go.RowKit

/-- the world behind Date.Compare. -/
abbrev cmpW (w : World) (y m d y' m' d' : Int) : World :=
  (((w.alloc (.cells #[.int .i64 y, .int .i64 m, .int .i64 d] 33)).alloc (.cells #[.int .i64 y', .int .i64 m', .int .i64 d'] 33)).alloc (.cells #[.int .i64 (cmp3 y y'), .int .i64 (cmp3 m m'), .int .i64 (cmp3 d d')] 3)).drew

set_option maxHeartbeats 1000000 in
theorem compare_any (y m d y' m' d' : Int) (w : World) :
    Calls Try.prog 26 #[.agg #[.int .i64 y, .int .i64 m, .int .i64 d], .agg #[.int .i64 y', .int .i64 m', .int .i64 d']] w fun e w' => e = .returned (.int .i64 (or3 (cmp3 y y') (cmp3 m m') (cmp3 d d'))) ∧ w' = cmpW w y m d y' m' d' := by
  go_enter Try.func26, Try.ntmps26
  go_wp2
  go_region_held3 (fun w' => w'.cell? ⟨w.heap.size, 0, none⟩ = some (.int .i64 y) ∧ w'.cell? ⟨w.heap.size, 1, none⟩ = some (.int .i64 m) ∧ w'.cell? ⟨w.heap.size, 2, none⟩ = some (.int .i64 d) ∧ w'.cell? ⟨w.heap.size + 1, 0, none⟩ = some (.int .i64 y') ∧ w'.cell? ⟨w.heap.size + 1, 1, none⟩ = some (.int .i64 m') ∧ w'.cell? ⟨w.heap.size + 1, 2, none⟩ = some (.int .i64 d')) (simp [go_sem, World.cell?_alloc_past])
    (first
      | (go_at_call 29; refine (cmpInt_any _ _ _).mono ?_; rintro e w' ⟨rfl, rfl⟩)
      | (go_at_call 30; refine (cmpMonth_any _ _ _).mono ?_; rintro e w' ⟨rfl, rfl⟩)
      | (go_at_call 28; refine (or_any _ (cmp3 y y') (cmp3 m m') (cmp3 d d') _ ?_ ?_ ?_).mono ?_; (simp [go_sem]); (simp [go_sem]); (simp [go_sem]); rintro e w' ⟨rfl, rfl⟩))
  go_wp2
  go_ret
  exact ⟨rfl, rfl⟩


/-- the world behind DailyCount.On. -/
abbrev onW (w : World) (y m d an y' m' d' ry rm rd ra : Int) : World :=
  ((((((w.alloc (.cells #[.int .i64 y, .int .i64 m, .int .i64 d, .int .i64 an] 36)).alloc (.cells #[.int .i64 y', .int .i64 m', .int .i64 d'] 33)).alloc (.cells #[.int .i64 ry, .int .i64 rm, .int .i64 rd, .int .i64 ra] 36)).alloc
    (.cells #[.int .i64 y', .int .i64 m', .int .i64 d'] 33)).alloc (.cells #[.int .i64 y, .int .i64 m, .int .i64 d] 33)).alloc (.cells #[.int .i64 (cmp3 y' y), .int .i64 (cmp3 m' m), .int .i64 (cmp3 d' d)] 3)).drew

set_option maxHeartbeats 1000000 in
/-- DailyCount.On, the day asked for is after the recorded one. -/
theorem on_after (y m d an y' m' d' : Int) (w : World) (h : aft y' m' d' y m d = true) :
    Calls Try.prog 24 #[.agg #[.int .i64 y, .int .i64 m, .int .i64 d, .int .i64 an], .agg #[.int .i64 y', .int .i64 m', .int .i64 d']] w fun e w' => e = .returned (.agg #[.int .i64 y', .int .i64 m', .int .i64 d', .int .i64 0]) ∧ w' = onW w y m d an y' m' d' y' m' d' 0 := by
  rw [← aft_or, decide_eq_true_eq] at h
  go_enter Try.func24, Try.ntmps24
  go_wp2_with fail
  refine (compare_any _ _ _ _ _ _ _).mono ?_
  rintro e w1 ⟨rfl, rfl⟩
  go_wp2
  go_returns
  exact ⟨rfl, rfl⟩

set_option maxHeartbeats 1000000 in
/-- DailyCount.On, the day asked for is not after the recorded one. -/
theorem on_not (y m d an y' m' d' : Int) (w : World) (h : aft y' m' d' y m d = false) :
    Calls Try.prog 24 #[.agg #[.int .i64 y, .int .i64 m, .int .i64 d, .int .i64 an], .agg #[.int .i64 y', .int .i64 m', .int .i64 d']] w fun e w' => e = .returned (.agg #[.int .i64 y, .int .i64 m, .int .i64 d, .int .i64 an]) ∧ w' = onW w y m d an y' m' d' y m d an := by
  rw [← aft_or, decide_eq_false_iff_not] at h
  go_enter Try.func24, Try.ntmps24
  go_wp2_with fail
  refine (compare_any _ _ _ _ _ _ _).mono ?_
  rintro e w1 ⟨rfl, rfl⟩
  go_wp2
  go_returns
  exact ⟨rfl, rfl⟩
end Go.Proofs.Qxb6613788a
