import Derived.Test.Qxb6613788aUnify
namespace Go.Proofs.Qxb6613788a
open Go.RowKit

theorem same_end (t1 t2 : Int) (h : t2 = t1 ∨ t2 = 0) : (t2 == t1 || t2 == 0) = true := by rcases h with rfl | rfl <;> simp

set_option maxHeartbeats 1000000 in
theorem same_0 (sn trust : ByteArray) (mo t u r dl t1 t2 : Int) (cm : Bool) (w : World) (h : t2 = t1 ∨ t2 = 0) :
    Calls Try.prog 12 #[.agg #[.string sn, .int .i64 mo, .bool cm, .int .i64 t, .int .i64 u, .int .i64 r, .int .i64 dl, .int .i64 t1, .string trust, .pointer none],
        .agg #[.string sn, .int .i64 mo, .bool cm, .int .i64 t, .int .i64 u, .int .i64 r, .int .i64 dl, .int .i64 t2, .string trust, .pointer none]] w fun e w' =>
      e = .returned (.bool true) ∧ Below w.heap.size w w' := by
  by_cases h1 : (t2 == t1) = true
  · go_enter Try.func12, Try.ntmps12
    go_wp2
    go_quiet (fail)
    go_wp2
    go_ret
    exact ⟨rfl, below_drewN (by go_grown) _⟩
  · have h1' : (t2 == t1) = false := by simpa using h1
    obtain rfl : t2 = 0 := by rcases h with h | h; (exact absurd (by simpa using h) h1); exact h
    clear h1 h
    go_enter Try.func12, Try.ntmps12
    go_wp2
    go_quiet (fail)
    go_wp2
    go_ret
    exact ⟨rfl, below_drewN (by go_grown) _⟩

set_option maxHeartbeats 1000000 in
theorem same_1 (pb qb : Nat) (sn trust : ByteArray) (mo t u r dl t1 t2 W E : Int) (cm : Bool) (w : World) (h : t2 = t1 ∨ t2 = 0)
    (hpb : pb < w.heap.size) (c0 : w.cell? ⟨pb, 0, none⟩ = some (.int .u64 W)) (c1 : w.cell? ⟨pb, 1, none⟩ = some (.int .i64 E)) (c2 : w.cell? ⟨pb, 2, none⟩ = some (.pointer none))
    (hqb : qb < w.heap.size) (k0 : w.cell? ⟨qb, 0, none⟩ = some (.int .u64 W)) (k1 : w.cell? ⟨qb, 1, none⟩ = some (.int .i64 E)) (k2 : w.cell? ⟨qb, 2, none⟩ = some (.pointer none)) :
    Calls Try.prog 12 #[.agg #[.string sn, .int .i64 mo, .bool cm, .int .i64 t, .int .i64 u, .int .i64 r, .int .i64 dl, .int .i64 t1, .string trust, .pointer (some ⟨pb, 0, none⟩)],
        .agg #[.string sn, .int .i64 mo, .bool cm, .int .i64 t, .int .i64 u, .int .i64 r, .int .i64 dl, .int .i64 t2, .string trust, .pointer (some ⟨qb, 0, none⟩)]] w fun e w' =>
      e = .returned (.bool true) ∧ Below w.heap.size w w' := by
  have hloc := eq_loc
  have hb1 : pb < w.heap.size + 1 := by omega
  have hb2 : pb < w.heap.size + 1 + 1 := by omega
  have hq1 : qb < w.heap.size + 1 := by omega
  have hq2 : qb < w.heap.size + 1 + 1 := by omega
  by_cases h1 : (t2 == t1) = true
  · clear h
    go_enter Try.func12, Try.ntmps12
    go_wp2
    go_quiet (fail)
    go_wp2
    go_ret
    exact ⟨rfl, below_drewN (by go_grown) _⟩
  · have h1' : (t2 == t1) = false := by simpa using h1
    obtain rfl : t2 = 0 := by rcases h with h | h; (exact absurd (by simpa using h) h1); exact h
    clear h1 h
    go_enter Try.func12, Try.ntmps12
    go_wp2
    go_quiet (fail)
    go_wp2
    go_ret
    exact ⟨rfl, below_drewN (by go_grown) _⟩
end Go.Proofs.Qxb6613788a
