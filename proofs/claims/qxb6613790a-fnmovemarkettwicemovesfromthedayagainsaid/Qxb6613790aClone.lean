import Derived.Test.Qxb6613790aShufW
import Derived.Deep.OwnRows
namespace Go.Proofs.Qxb6613790a
open Go.RowKit

theorem Try.info3 : (Try.prog.info? 3).map (fun i => (i.zero, i.size, i.bytes)) = some (some (.int .i64 0), 1, 8) := by kernel_rfl

theorem made_get (z : Value) (n i : Nat) (h : i < n) : (madeCells #[z] n)[i]? = some z := by
  have h1 := toList_madeCells_one z n
  rw [← Array.getElem?_toList, h1]
  simp [h]

/-- A row that 'make' has just laid. -/
theorem row_made (w : World) (n t : Nat) : RowAt (w.alloc (.cells (madeCells #[.int .i64 0] n) t)) w.heap.size 0 (List.replicate n 0) := fun i hi => by
  rw [List.length_replicate] at hi
  refine ⟨?_, ?_⟩
  · rw [Nat.zero_add, World.cell?_alloc_new, made_get _ _ _ hi]
    simp [List.getD_eq_getElem?_getD, hi]
  · exact World.frozen?_alloc_at _ _ _ _ rfl

/-- Half copied. -/
def half (zs : List Int) (k : Nat) : List Int := zs.take k ++ List.replicate (zs.length - k) 0
theorem half_length (zs : List Int) (k : Nat) (h : k ≤ zs.length) : (half zs k).length = zs.length := by simp [half]; omega
theorem half_zero (zs : List Int) : half zs 0 = List.replicate zs.length 0 := by simp [half]
theorem half_all (zs : List Int) : half zs zs.length = zs := by simp [half]
theorem half_succ (zs : List Int) (k : Nat) (h : k < zs.length) : half zs (k + 1) = (half zs k).set k (zs.getD k 0) := by
  apply List.ext_getElem?
  intro i
  have hl := half_length zs k (by omega)
  rw [List.getElem?_set]
  unfold half at *
  rw [List.getElem?_append, List.getElem?_append, hl]
  simp only [List.length_take, List.getElem?_take, List.getElem?_replicate, List.getD_eq_getElem?_getD]
  by_cases h1 : i = k
  · subst h1
    simp [h, Nat.min_eq_left (show i + 1 ≤ zs.length by omega)]
  · by_cases h2 : i < k
    · simp [Ne.symm h1, h2, show i < k + 1 by omega, show i < zs.length by omega, Nat.min_eq_left (show k ≤ zs.length by omega), Nat.min_eq_left (show k + 1 ≤ zs.length by omega)]
    · simp [Ne.symm h1, h2, show ¬ i < k + 1 by omega, Nat.min_eq_left (show k ≤ zs.length by omega), Nat.min_eq_left (show k + 1 ≤ zs.length by omega)]
      congr 1
      simp; omega

set_option maxHeartbeats 1000000 in
/-- cloneInts over a slice that is not nil. -/
theorem clone_any (sb off cap : Nat) (zs : List Int) (w : World) (hlen : zs.length ≤ 65536) (hsrc : ∀ i, i < zs.length → w.cell? ⟨sb, off + i, none⟩ = some (.int .i64 (zs.getD i 0))) :
    Calls Try.prog 10 #[.slice (some ⟨sb, off, none⟩) zs.length cap] w fun e w' => ∃ b, e = .returned (.slice (some ⟨b, 0, none⟩) zs.length zs.length) ∧ w.heap.size ≤ b ∧ b < w'.heap.size ∧ RowAt w' b 0 zs ∧ Below w.heap.size w w' := by
  have hmk := run_make_row' (P := Try.prog) 22 3 (.int .i64 0) 8 Try.underlying22 Try.info3 rfl .i64 .i64 zs.length (by omega) (by omega)
  have hnil : ∀ w, (binOp .eql 22 (.slice (some ⟨sb, off, none⟩) zs.length cap) (.slice none 0 0)).run Try.prog w = .ok (.bool false) w := fun w => Lib.run_eql_slice_nil w _ _ _ _ _ _ _ Try.underlying22
  have HS : Hid (∀ i, i < zs.length → w.cell? ⟨sb, off + i, none⟩ = some (.int .i64 (zs.getD i 0))) := hsrc
  clear hsrc
  go_enter Try.func10, Try.ntmps10
  go_wp2
  clear hmk hnil
  go_loopw [4] (fun i wr => ∃ k : Nat, k ≤ zs.length ∧ i = .int .i64 k ∧ RowAt wr w.heap.size 0 (half zs k) ∧ Below w.heap.size w wr ∧ w.heap.size < wr.heap.size) (fun i _ => zs.length - (intOf i).toNat)
  case atStart => exact ⟨0, Nat.zero_le _, rfl, by rw [half_zero]; exact row_made w _ _, by go_grown, by simp⟩
  case round =>
    obtain ⟨k, hk, rfl, hrow, hB, hsz⟩ := hrel
    by_cases hlt : k < zs.length
    · have hc := HS.out k hlt
      have hsb : sb < w.heap.size := World.block_lt_of_cell? w ⟨sb, off + k, none⟩ hc
      have hc1 : wr.cell? ⟨sb, off + k, none⟩ = some (.int .i64 (zs.getD k 0)) := (hB.cell (p := ⟨sb, off + k, none⟩) hsb).trans hc
      obtain ⟨c2, f2⟩ := hrow k (by rw [half_length _ _ (by omega)]; exact hlt)
      have hrow2 := hrow.set k (by rw [half_length _ _ (by omega)]; exact hlt) (zs.getD k 0)
      rw [← half_succ zs k hlt] at hrow2
      rw [Nat.zero_add] at c2 f2 hrow2
      have HR : Hid (RowAt (wr.setCell ⟨w.heap.size, k, none⟩ (.int .i64 (zs.getD k 0))) w.heap.size 0 (half zs (k + 1))) := hrow2
      clear hrow hrow2 hc
      generalize zs.getD k 0 = x at *
      generalize (half zs k).getD k 0 = y at *
      have b1 : (k : Int) < (zs.length : Int) := by omega
      go_wp2
      go_roundw
      case rel => exact ⟨k + 1, by omega, by go_num, HR.out, by go_grown, by simpa using hsz⟩
      case measure => simp [intOf]; omega
    · obtain rfl : k = zs.length := by omega
      rw [half_all] at hrow
      go_wp2
      go_ret
      exact ⟨w.heap.size, rfl, Nat.le_refl _, hsz, hrow, hB⟩
end Go.Proofs.Qxb6613790a
