import Derived.Test.Qxb6613788aRows
import Derived.WalkKit
import Derived.WalkSpells
import Derived.WalkLawsBesides
import Derived.RowKit3
import Derived.Handy
import Derived.Deep.RegionHeld3
namespace Go.Proofs.Qxb6613788a
open Go.RowKit

theorem cell_of_block {w : World} {g : Nat} {cs : Array Value} {t : TypeId} {fr : Nat × Nat} (h : w.heap[g]? = some (.cells cs t fr)) (i : Nat) : w.cell? ⟨g, i, none⟩ = cs[i]? := by simp [World.cell?, h]

theorem bcell {W w1 : World} (hb : Below W.heap.size W w1) : (∀ b o, b < W.heap.size → w1.cell? ⟨b, o, none⟩ = W.cell? ⟨b, o, none⟩) ∧ (∀ b o, b < W.heap.size → w1.frozen? ⟨b, o, none⟩ = W.frozen? ⟨b, o, none⟩) :=
  ⟨fun b o h => hb.cell (p := ⟨b, o, none⟩) h, fun b o h => hb.frozen (p := ⟨b, o, none⟩) h⟩

theorem ret_int {k : IntKind} {a b : Int} (h : a = b) : Ending.returned (.int k a) = .returned (.int k b) := by rw [h]
theorem ret_bool {a b : Bool} (h : a = b) : Ending.returned (.bool a) = .returned (.bool b) := by rw [h]

/-- cmp.Compare. -/
def cmp3 (x y : Int) : Int := if x < y then -1 else if y < x then 1 else 0
/-- the first that is not 0. -/
def or3 (a b c : Int) : Int := if a != 0 then a else if b != 0 then b else c
/-- zzAfter. -/
def aft (y m d y' m' d' : Int) : Bool := if y != y' then decide (y' < y) else if m != m' then decide (m' < m) else decide (d' < d)

theorem aft_or (y m d y' m' d' : Int) : decide (0 < or3 (cmp3 y y') (cmp3 m m') (cmp3 d d')) = aft y m d y' m' d' := by
  unfold or3 cmp3 aft
  simp only [bne_iff_ne, ne_eq]
  repeat' split
  all_goals (simp; try omega)

set_option maxHeartbeats 400000 in
theorem cmpInt_any (x y : Int) (w : World) : Calls Try.prog 29 #[.int .i64 x, .int .i64 y] w fun e w' => e = .returned (.int .i64 (cmp3 x y)) ∧ w' = w := by
  by_cases h1 : x < y
  · go_enter Try.func29, Try.ntmps29
    go_wp2
    go_ret
    exact ⟨ret_int (by simp [cmp3, h1]), rfl⟩
  · by_cases h2 : y < x
    · go_enter Try.func29, Try.ntmps29
      go_wp2
      go_ret
      exact ⟨ret_int (by unfold cmp3; rw [if_neg (by omega), if_pos h2]), rfl⟩
    · go_enter Try.func29, Try.ntmps29
      go_wp2
      go_ret
      exact ⟨ret_int (by unfold cmp3; rw [if_neg (by omega), if_neg (by omega)]), rfl⟩

set_option maxHeartbeats 400000 in
theorem cmpMonth_any (x y : Int) (w : World) : Calls Try.prog 30 #[.int .i64 x, .int .i64 y] w fun e w' => e = .returned (.int .i64 (cmp3 x y)) ∧ w' = w := by
  by_cases h1 : x < y
  · go_enter Try.func30, Try.ntmps30
    go_wp2
    go_ret
    exact ⟨ret_int (by simp [cmp3, h1]), rfl⟩
  · by_cases h2 : y < x
    · go_enter Try.func30, Try.ntmps30
      go_wp2
      go_ret
      exact ⟨ret_int (by unfold cmp3; rw [if_neg (by omega), if_pos h2]), rfl⟩
    · go_enter Try.func30, Try.ntmps30
      go_wp2
      go_ret
      exact ⟨ret_int (by unfold cmp3; rw [if_neg (by omega), if_neg (by omega)]), rfl⟩

set_option maxHeartbeats 1000000 in
theorem or_any (b : Nat) (a1 a2 a3 : Int) (w : World) (h0 : w.cell? ⟨b, 0, none⟩ = some (.int .i64 a1)) (h1 : w.cell? ⟨b, 1, none⟩ = some (.int .i64 a2)) (h2 : w.cell? ⟨b, 2, none⟩ = some (.int .i64 a3)) :
    Calls Try.prog 28 #[.slice (some ⟨b, 0, none⟩) 3 3] w fun e w' => e = .returned (.int .i64 (or3 a1 a2 a3)) ∧ w' = w := by
  by_cases g1 : a1 = 0
  · subst g1
    by_cases g2 : a2 = 0
    · subst g2
      by_cases g3 : a3 = 0
      · subst g3
        go_enter Try.func28, Try.ntmps28
        go_wp2
        go_rounds 4
        go_ret
        exact ⟨ret_int (by simp [or3]), rfl⟩
      · have g3' : (a3 != 0) = true := by simp [g3]
        go_enter Try.func28, Try.ntmps28
        go_wp2
        go_rounds 3
        go_ret
        exact ⟨ret_int (by simp [or3]), rfl⟩
    · have g2' : (a2 != 0) = true := by simp [g2]
      go_enter Try.func28, Try.ntmps28
      go_wp2
      go_rounds 2
      go_ret
      exact ⟨ret_int (by simp [or3, g2]), rfl⟩
  · have g1' : (a1 != 0) = true := by simp [g1]
    go_enter Try.func28, Try.ntmps28
    go_wp2
    go_rounds 1
    go_ret
    exact ⟨ret_int (by simp [or3, g1]), rfl⟩
end Go.Proofs.Qxb6613788a
