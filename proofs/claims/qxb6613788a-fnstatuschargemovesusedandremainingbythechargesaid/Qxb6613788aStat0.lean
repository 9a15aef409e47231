import Derived.Test.Qxb6613788aSmall
namespace Go.Proofs.Qxb6613788a
open Go.RowKit

theorem StAt.cells {w : World} {b : Nat} {sn trust : ByteArray} {total daily used W E y m d an : Int} {c : Bool} (h : StAt w b sn trust total daily used W E y m d an c) :
    w.cell? ⟨b, 3, none⟩ = some (.int .i64 used) ∧ w.cell? ⟨b, 4, none⟩ = some (.int .i64 y) ∧ w.cell? ⟨b, 5, none⟩ = some (.int .i64 m) ∧ w.cell? ⟨b, 6, none⟩ = some (.int .i64 d) ∧ w.cell? ⟨b, 7, none⟩ = some (.int .i64 an)
     ∧ w.cell? ⟨b, 8, none⟩ = some (.int .u64 W) ∧ w.cell? ⟨b, 9, none⟩ = some (.int .i64 E) ∧ w.cell? ⟨b, 10, none⟩ = some (.pointer none) ∧ w.cell? ⟨b, 12, none⟩ = some (.string sn) ∧ w.cell? ⟨b, 13, none⟩ = some (.int .i64 total)
      ∧ w.cell? ⟨b, 14, none⟩ = some (.int .i64 daily) ∧ w.cell? ⟨b, 15, none⟩ = some (.string trust) ∧ w.cell? ⟨b, 16, none⟩ = some (.int .i64 0) ∧ w.cell? ⟨b, 17, none⟩ = some (.bool c) ∧ w.cell? ⟨b, 18, none⟩ = some (.int .u64 0)
      ∧ w.cell? ⟨b, 19, none⟩ = some (.int .i64 0) ∧ w.cell? ⟨b, 20, none⟩ = some (.pointer none) := by
  unfold StAt at h
  simp [World.cell?, h]


theorem isZero_yes (w : World) :
    Calls Try.prog 23 #[.agg #[.int .u64 0, .int .i64 0, .pointer none]] w fun e w' => e = .returned (.bool true) ∧ w' = w.alloc (.cells #[.int .u64 0, .int .i64 0, .pointer none] 28) := isZero_any 0 0 w
theorem isZero_no (W E : Int) (w : World) (h : (W == 0 && E == 0) = false) :
    Calls Try.prog 23 #[.agg #[.int .u64 W, .int .i64 E, .pointer none]] w fun e w' => e = .returned (.bool false) ∧ w' = w.alloc (.cells #[.int .u64 W, .int .i64 E, .pointer none] 28) := by
  have := isZero_any W E w
  rw [h] at this
  exact this


/-- The walk has no law for a field of a struct VALUE: a closed fact. -/
theorem fld (a b c d : Int) (w : World) : (Instr.field 36 (.agg #[.int .i64 a, .int .i64 b, .int .i64 c, .int .i64 d]) 1).run Try.prog w = .ok (.int .i64 d) w := by kernel_rfl

/-- What 'LastReportAt' of a status is: nil at the zero time, else a pointer to a new variable that holds it. -/
def RepAt (lo : Nat) (w : World) (p : Option Addr) (W E : Int) : Prop :=
  (W = 0 ∧ E = 0 ∧ p = none) ∨ ((W == 0 && E == 0) = false ∧ ∃ pb, p = some ⟨pb, 0, none⟩ ∧ lo ≤ pb ∧ pb < w.heap.size ∧ w.cell? ⟨pb, 0, none⟩ = some (.int .u64 W) ∧ w.cell? ⟨pb, 1, none⟩ = some (.int .i64 E) ∧ w.cell? ⟨pb, 2, none⟩ = some (.pointer none))

end Go.Proofs.Qxb6613788a
