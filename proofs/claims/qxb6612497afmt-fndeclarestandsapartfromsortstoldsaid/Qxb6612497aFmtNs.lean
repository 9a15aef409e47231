import Derived.Test.Qxb6612497aFmtRs
namespace Go.Proofs.Qxb6612497aFmt
open Go.RowKit

/-- The resolver in memory: Model at m, the maps at m + 1 (sorts), m + 5 (names), m + 6 (sortAt), the record at m + 7. -/
def RCells (w : World) (m : Nat) : Prop :=
  w.cell? ⟨m + 7, 0, none⟩ = some (.pointer (some ⟨m, 0, none⟩)) ∧ w.cell? ⟨m + 7, 1, none⟩ = some (.map (some (m + 1))) ∧ w.cell? ⟨m + 7, 6, none⟩ = some (.map (some (m + 5))) ∧ w.cell? ⟨m + 7, 7, none⟩ = some (.map (some (m + 6)))

set_option maxHeartbeats 1000000 in
theorem newRes_any (np sp z : Value) (w : World) :
    Calls Tryf.prog 6 #[] w fun e w' => e = .returned (.pointer (some ⟨w.heap.size + 7, 0, none⟩)) ∧ RCells w' w.heap.size ∧ MapOf w' (w.heap.size + 5) np z [] ∧ MapOf w' (w.heap.size + 6) sp z [] ∧ MapR w' (w.heap.size + 1) rdp [] ∧
      w'.cell? ⟨w.heap.size, 0, none⟩ = some (.slice none 0 0) ∧ w'.frozen? ⟨w.heap.size, 0, none⟩ = false ∧ w'.heap.size = w.heap.size + 8 ∧ Below w.heap.size w w' := by
  have hmm := @run_makeMap Tryf.prog
  go_enter Tryf.func6, Tryf.ntmps6
  go_wp2
  go_ret
  refine ⟨rfl, ⟨?_, ?_, ?_, ?_⟩, ?_, ?_, ?_, ?_, ?_, ?_, ?_⟩
  · simp [go_sem]
  · simp [go_sem]
  · simp [go_sem]
  · simp [go_sem]
  · exact mapOf_alloc _ _ _ _ _ _ (mapOf_alloc _ _ _ _ _ _ (by have := mapR_made (((((w.alloc (.cells #[.slice none 0 0, .slice none 0 0, .slice none 0 0, .slice none 0 0, .slice none 0 0, .slice none 0 0, .slice none 0 0, .slice none 0 0, .slice none 0 0] 51)).alloc (.map #[] 0)).alloc (.map #[] 0)).alloc (.map #[] 0)).alloc (.map #[] 0)) (rdr np z); simp only [World.size_alloc] at this; exact this))
  · exact mapOf_alloc _ _ _ _ _ _ (by have := mapR_made ((((((w.alloc (.cells #[.slice none 0 0, .slice none 0 0, .slice none 0 0, .slice none 0 0, .slice none 0 0, .slice none 0 0, .slice none 0 0, .slice none 0 0, .slice none 0 0] 51)).alloc (.map #[] 0)).alloc (.map #[] 0)).alloc (.map #[] 0)).alloc (.map #[] 0)).alloc (.map #[] 0)) (rdr sp z); simp only [World.size_alloc] at this; exact this)
  · exact MapR.alloc (MapR.alloc (MapR.alloc (MapR.alloc (MapR.alloc (MapR.alloc (by have := mapR_made (w.alloc (.cells #[.slice none 0 0, .slice none 0 0, .slice none 0 0, .slice none 0 0, .slice none 0 0, .slice none 0 0, .slice none 0 0, .slice none 0 0, .slice none 0 0] 51)) rdp; simpa using this) _) _) _) _) _) _
  · simp [go_sem]
  · simp [go_sem]
  · simp
  · go_grown

set_option maxHeartbeats 1000000 in
theorem namesLen_any (m : Nat) (c z : Value) (L : List (List UInt8)) (w : World) (r : RCells w m) (hm : MapOf w (m + 5) c z L) :
    Calls Tryf.prog 9 #[.pointer (some ⟨m + 7, 0, none⟩)] w fun e w' => e = .returned (.int .i64 L.length) ∧ w' = w := by
  obtain ⟨r0, r1, r6, r7⟩ := r
  have hlen := hm.len Tryf.underlying56 3
  clear hm
  go_enter Tryf.func9, Tryf.ntmps9
  go_wp2
  go_ret
  exact ⟨rfl, rfl⟩

set_option maxHeartbeats 1000000 in
theorem sortsLen_any (m n cap : Nat) (a : Option Addr) (w : World) (r : RCells w m) (hm : w.cell? ⟨m, 0, none⟩ = some (.slice a n cap)) :
    Calls Tryf.prog 10 #[.pointer (some ⟨m + 7, 0, none⟩)] w fun e w' => e = .returned (.int .i64 n) ∧ w' = w := by
  obtain ⟨r0, r1, r6, r7⟩ := r
  go_enter Tryf.func10, Tryf.ntmps10
  go_wp2
  go_ret
  exact ⟨rfl, rfl⟩

set_option maxHeartbeats 1000000 in
theorem nameAt_any (m : Nat) (l c : Int) (L : List (List UInt8)) (s : ByteArray) (w : World) (hs : s.size ≤ maxLen) (hL : L.contains s.data.toList = true) (hr : m + 7 < w.heap.size) (r : RCells w m) (hm : MapOf w (m + 5) (.agg #[.string { data := #[] }, .int .i64 l, .int .i64 c]) (.agg #[.string { data := #[] }, .int .i64 0, .int .i64 0]) L) :
    Calls Tryf.prog 11 #[.pointer (some ⟨m + 7, 0, none⟩), .string s] w fun e w' => e = .returned (.tuple #[.agg #[.string { data := #[] }, .int .i64 l, .int .i64 c], .bool true]) ∧ Below w.heap.size w w' := by
  obtain ⟨r0, r1, r6, r7⟩ := r
  have hlk : ∀ W, MapOf W (m + 5) (.agg #[.string { data := #[] }, .int .i64 l, .int .i64 c]) (.agg #[.string { data := #[] }, .int .i64 0, .int .i64 0]) L →
    (Instr.lookup 56 (.map (some (m + 5))) (.string s) true).run Tryf.prog W = .ok (.tuple #[.agg #[.string { data := #[] }, .int .i64 l, .int .i64 c], .bool true]) W := by
    intro W hW
    have := hW.look_ok Tryf.underlying56 (zero30 W) hs
    rw [hL] at this
    exact this
  go_enter Tryf.func11, Tryf.ntmps11
  go_wp2
  go_returns
  exact ⟨rfl, by go_grown⟩

set_option maxHeartbeats 1000000 in
theorem sortAt_any (m : Nat) (l c : Int) (L : List (List UInt8)) (s : ByteArray) (w : World) (hs : s.size ≤ maxLen) (hL : L.contains s.data.toList = true) (hr : m + 7 < w.heap.size) (r : RCells w m) (hm : MapOf w (m + 6) (.agg #[.string { data := #[] }, .int .i64 l, .int .i64 c]) (.agg #[.string { data := #[] }, .int .i64 0, .int .i64 0]) L) :
    Calls Tryf.prog 12 #[.pointer (some ⟨m + 7, 0, none⟩), .string s] w fun e w' => e = .returned (.tuple #[.agg #[.string { data := #[] }, .int .i64 l, .int .i64 c], .bool true]) ∧ Below w.heap.size w w' := by
  obtain ⟨r0, r1, r6, r7⟩ := r
  have hlk : ∀ W, MapOf W (m + 6) (.agg #[.string { data := #[] }, .int .i64 l, .int .i64 c]) (.agg #[.string { data := #[] }, .int .i64 0, .int .i64 0]) L →
    (Instr.lookup 56 (.map (some (m + 6))) (.string s) true).run Tryf.prog W = .ok (.tuple #[.agg #[.string { data := #[] }, .int .i64 l, .int .i64 c], .bool true]) W := by
    intro W hW
    have := hW.look_ok Tryf.underlying56 (zero30 W) hs
    rw [hL] at this
    exact this
  go_enter Tryf.func12, Tryf.ntmps12
  go_wp2
  go_returns
  exact ⟨rfl, by go_grown⟩
end Go.Proofs.Qxb6612497aFmt
