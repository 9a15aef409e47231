import Derived.Test.Qxb6613790aClone
namespace Go.Proofs.Qxb6613790a
open Go.RowKit

set_option maxHeartbeats 400000 in
/-- cloneInts over an empty slice that is not nil. -/
theorem clone_empty (x : Addr) (cap : Nat) (w : World) :
    Calls Try.prog 10 #[.slice (some x) 0 cap] w fun e w' => ∃ b, e = .returned (.slice (some ⟨b, 0, none⟩) 0 0) ∧ w.heap.size ≤ b ∧ b < w'.heap.size ∧ RowAt w' b 0 [] ∧ Below w.heap.size w w' := by
  have hmk := run_make_row' (P := Try.prog) 22 3 (.int .i64 0) 8 Try.underlying22 Try.info3 rfl .i64 .i64 0 (by omega) (by omega)
  have hnil : ∀ w, (binOp .eql 22 (.slice (some x) 0 cap) (.slice none 0 0)).run Try.prog w = .ok (.bool false) w := fun w => Lib.run_eql_slice_nil w _ _ _ _ _ _ _ Try.underlying22
  rw [Int.natCast_zero] at hmk
  go_enter Try.func10, Try.ntmps10
  go_wp2
  clear hmk hnil
  refine wp_loop_rounds 1 ?_
  rw [rounds_succ]
  go_wp2
  go_ret
  exact ⟨w.heap.size, rfl, Nat.le_refl _, by simp, fun i hi => absurd hi (Nat.not_lt_zero _), by go_grown⟩

/-- cloneInts over whatever slice that is not nil. -/
theorem clone_src (x : Addr) (cap : Nat) (zs : List Int) (w : World) (hlen : zs.length ≤ 65536) (hsrc : ∀ i, i < zs.length → w.cell? (x.add i) = some (.int .i64 (zs.getD i 0))) :
    Calls Try.prog 10 #[.slice (some x) zs.length cap] w fun e w' => ∃ b, e = .returned (.slice (some ⟨b, 0, none⟩) zs.length zs.length) ∧ w.heap.size ≤ b ∧ b < w'.heap.size ∧ RowAt w' b 0 zs ∧ Below w.heap.size w w' := by
  by_cases h0 : 0 < zs.length
  · obtain ⟨b, off, rfl, hc⟩ := ints_at hsrc h0
    exact clone_any b off cap zs w hlen hc
  · obtain rfl : zs = [] := List.length_eq_zero_iff.1 (by omega)
    exact clone_empty x cap w

set_option maxHeartbeats 400000 in
theorem clone_nil (w : World) : Calls Try.prog 10 #[.slice none 0 0] w fun e w' => e = .returned (.slice none 0 0) ∧ w' = w := by
  have hnil : ∀ w, (binOp .eql 22 (.slice none 0 0) (.slice none 0 0)).run Try.prog w = .ok (.bool true) w := fun w => Lib.run_eql_slice_nil w _ _ _ _ _ _ _ Try.underlying22
  go_enter Try.func10, Try.ntmps10
  go_wp2
  go_ret
  exact ⟨rfl, rfl⟩

set_option maxHeartbeats 400000 in
theorem zsh_any (g pb b off cap : Nat) (zs : List Int) (hi lo : Int) (m : Nat) (w : World) (hg : GenAt w g pb hi lo) (hr : RowAt w b off zs) (hbp : b ≠ pb) (hbg : b ≠ g) (hlen : zs.length ≤ 65536) (hn : m ≤ zs.length) :
    Calls Try.prog 12 #[.pointer (some ⟨g, 0, none⟩), .slice (some ⟨b, off, none⟩) zs.length cap, .int .i64 (m : Int)] w fun e w' =>
      e = .returned (.tuple #[]) ∧ RowAt w' b off (sh 0 zs (hi, lo) m) ∧ GenAt w' g pb (stpN (hi, lo) m).1 (stpN (hi, lo) m).2 ∧ Fr b off zs.length pb w w' := by
  go_enter Try.func12, Try.ntmps12
  go_wp2_with fail
  refine (shuffle_any g pb b off cap zs hi lo m w hg hr hbp hbg hlen hn).mono ?_
  rintro e w1 ⟨rfl, h1, h2, h3⟩
  go_wp2
  go_end0
  exact ⟨rfl, h1, h2, h3⟩

set_option maxHeartbeats 400000 in
/-- No rounds at all. -/
theorem shuffle_none (p : Value) (x : Option Addr) (l c : Nat) (n : Int) (w : World) (hn : n ≤ 0) : Calls Try.prog 28 #[p, .slice x l c, .int .i64 n] w fun e w' => e = .returned (.tuple #[]) ∧ w' = w := by
  go_enter Try.func28, Try.ntmps28
  go_wp2
  refine wp_loop_rounds 1 ?_
  rw [rounds_succ]
  go_wp2
  go_end0
  exact ⟨rfl, rfl⟩
set_option maxHeartbeats 400000 in
theorem zsh_none (p : Value) (x : Option Addr) (l c : Nat) (n : Int) (w : World) (hn : n ≤ 0) : Calls Try.prog 12 #[p, .slice x l c, .int .i64 n] w fun e w' => e = .returned (.tuple #[]) ∧ w' = w := by
  go_enter Try.func12, Try.ntmps12
  go_wp2_with fail
  refine (shuffle_none p x l c n w hn).mono ?_
  rintro e w1 ⟨rfl, rfl⟩
  go_wp2
  go_end0
  exact ⟨rfl, rfl⟩

/-! ### What a shuffle, and a draw, leave alone -/
theorem RowAt.fr {w w' : World} {b off n pb : Nat} (f : Fr b off n pb w w') {c o : Nat} {zs : List Int} (h : RowAt w c o zs) (h1 : c ≠ b) (h2 : c ≠ pb) : RowAt w' c o zs := fun i hi => by
  obtain ⟨c1, c2⟩ := h i hi
  refine ⟨?_, by rw [f.frozen]; exact c2⟩
  rw [World.cell?_of_block (w := w) (f.block c h1 h2)]; exact c1
theorem GenAt.fr {w w' : World} {b off n pb : Nat} (f : Fr b off n pb w w') {g q : Nat} {hi lo : Int} (h : GenAt w g q hi lo) (h1 : g ≠ b) (h2 : g ≠ pb) (h3 : q ≠ b) (h4 : q ≠ pb) : GenAt w' g q hi lo := by
  obtain ⟨g1, g2, g3, g4, g5, g6, g7, g8⟩ := h
  exact ⟨by rw [f.size]; exact g1, by rw [f.size]; exact g2, g3, by rw [World.cell?_of_block (w := w) (f.block g h1 h2)]; exact g4, by rw [World.cell?_of_block (w := w) (f.block q h3 h4)]; exact g5, by rw [World.cell?_of_block (w := w) (f.block q h3 h4)]; exact g6, by rw [f.frozen]; exact g7, by rw [f.frozen]; exact g8⟩
theorem Below.fr {B : Nat} {a w w' : World} (h : Below B a w) {b off n pb : Nat} (f : Fr b off n pb w w') (h1 : B ≤ b) (h2 : B ≤ pb) : Below B a w' :=
  ⟨f.os.trans h.os, f.tape.trans h.tape, f.output.trans h.output, by rw [f.size]; exact h.size, fun k hk => (f.block k (by omega) (by omega)).trans (h.block k hk)⟩
theorem GenAt.keep {w w' : World} {g pb : Nat} {hi lo : Int} (h : GenAt w g pb hi lo) (hb : Below w.heap.size w w') : GenAt w' g pb hi lo := by
  obtain ⟨g1, g2, g3, g4, g5, g6, g7, g8⟩ := h
  exact ⟨Nat.lt_of_lt_of_le g1 hb.size, Nat.lt_of_lt_of_le g2 hb.size, g3, (hb.cell (p := ⟨g, 1, none⟩) g1).trans g4, (hb.cell (p := ⟨pb, 0, none⟩) g2).trans g5, (hb.cell (p := ⟨pb, 1, none⟩) g2).trans g6, (hb.frozen (p := ⟨pb, 0, none⟩) g2).trans g7, (hb.frozen (p := ⟨pb, 1, none⟩) g2).trans g8⟩
theorem GenAt.apart {w : World} {g pb : Nat} {hi lo : Int} (h : GenAt w g pb hi lo) {q : Nat} (a b : Int) (h1 : g ≠ q) (h2 : pb ≠ q) : GenAt (drawW w q a b) g pb hi lo := by
  obtain ⟨g1, g2, g3, g4, g5, g6, g7, g8⟩ := h
  exact ⟨by rw [drawW_size]; exact g1, by rw [drawW_size]; exact g2, g3, by rw [drawW_cell _ _ _ _ _ _ h1]; exact g4, by rw [drawW_cell _ _ _ _ _ _ h2]; exact g5, by rw [drawW_cell _ _ _ _ _ _ h2]; exact g6, by rw [drawW_frozen]; exact g7, by rw [drawW_frozen]; exact g8⟩
theorem RowAt.below {w w' : World} {b off : Nat} {zs : List Int} (h : RowAt w b off zs) (hb : Below w.heap.size w w') (hlt : b < w.heap.size) : RowAt w' b off zs := fun i hi => by
  obtain ⟨c1, c2⟩ := h i hi
  exact ⟨(hb.cell (p := ⟨b, off + i, none⟩) hlt).trans c1, (hb.frozen (p := ⟨b, off + i, none⟩) hlt).trans c2⟩
/-- A part of a row. -/
theorem RowAt.drop {w : World} {b : Nat} {zs : List Int} (h : RowAt w b 0 zs) (k : Nat) : RowAt w b k (zs.drop k) := fun i hi => by
  rw [List.length_drop] at hi
  have := h (k + i) (by omega)
  rw [Nat.zero_add] at this
  simpa [List.getD_eq_getElem?_getD, List.getElem?_drop] using this
/-- The parts of a row, joined: the ones ahead of k are as they were. -/
theorem RowAt.join {w w' : World} {b n pb k : Nat} {zs rs : List Int} (h : RowAt w b 0 zs) (f : Fr b k n pb w w') (hr : RowAt w' b k rs) (hk : k ≤ zs.length) : RowAt w' b 0 (zs.take k ++ rs) := fun i hi => by
  rw [List.length_append, List.length_take, Nat.min_eq_left hk] at hi
  by_cases h1 : i < k
  · obtain ⟨c1, c2⟩ := h i (by omega)
    rw [Nat.zero_add] at c1 c2 ⊢
    refine ⟨?_, by rw [f.frozen]; exact c2⟩
    rw [f.cell i (.inl h1), c1]
    simp [List.getD_eq_getElem?_getD, List.getElem?_append, h1, show i < zs.length by omega, Nat.min_eq_left hk]
  · obtain ⟨c1, c2⟩ := hr (i - k) (by omega)
    rw [show k + (i - k) = 0 + i by omega] at c1 c2
    refine ⟨?_, c2⟩
    rw [c1]
    simp [List.getD_eq_getElem?_getD, List.getElem?_append, h1, Nat.min_eq_left hk]
end Go.Proofs.Qxb6613790a
