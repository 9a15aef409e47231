import Derived.Test.Qxb6613790aShuf
import Derived.RegionTactic
namespace Go.Proofs.Qxb6613790a
open Go.RowKit

/-- A row of ints in memory, which may be written. -/
def RowAt (w : World) (b off : Nat) (zs : List Int) : Prop :=
  ∀ i, i < zs.length → w.cell? ⟨b, off + i, none⟩ = some (.int .i64 (zs.getD i 0)) ∧ w.frozen? ⟨b, off + i, none⟩ = false

theorem between_nat (g pb : Nat) (hi lo L : Int) (D : Nat) (w : World) (hg : GenAt w g pb hi lo) (h2 : 0 ≤ L) (h3 : L ≤ 1000000000000) (hD : (outv hi lo % (L + 1)).toNat = D) :
    Calls Try.prog 32 #[.pointer (some ⟨g, 0, none⟩), .int .i64 0, .int .i64 L] w fun e w' => e = .returned (.int .i64 (D : Int)) ∧ w' = drawW w pb hi lo := by
  refine (between_any g pb hi lo 0 L w hg (by decide) h2 h3).mono ?_
  rintro e w' ⟨rfl, rfl⟩
  refine ⟨ret_int ?_, rfl⟩
  have h1 := Int.emod_nonneg (outv hi lo) (show L + 1 ≠ 0 by omega)
  rw [show L - 0 + 1 = L + 1 by omega]
  omega

theorem RowAt.draw {w : World} {b off : Nat} {zs : List Int} (h : RowAt w b off zs) {pb : Nat} (hb : b ≠ pb) (hi lo : Int) : RowAt (drawW w pb hi lo) b off zs := fun i hi' => by
  rw [drawW_cell _ _ _ _ _ _ hb, drawW_frozen]; exact h i hi'


theorem cell_set (w : World) (b i j : Nat) (v u : Value) (h : w.cell? ⟨b, j, none⟩ = some u) : (w.setCell ⟨b, i, none⟩ v).cell? ⟨b, j, none⟩ = some (if j = i then v else u) := by
  by_cases e : j = i
  · subst e; rw [if_pos rfl]; exact World.cell?_setCell_same _ _ _ h
  · rw [if_neg e, World.cell?_setCell_other _ _ _ _ (fun h => e (Addr.mk.inj h).2.1.symm)]; exact h

theorem getD_set (zs : List Int) (i j : Nat) (v : Int) (hi : i < zs.length) : (zs.set i v).getD j 0 = if j = i then v else zs.getD j 0 := by
  simp only [List.getD_eq_getElem?_getD, List.getElem?_set]
  by_cases e : j = i
  · subst e; simp [hi]
  · simp [e, Ne.symm e]

theorem RowAt.set {w : World} {b off : Nat} {zs : List Int} (h : RowAt w b off zs) (i : Nat) (hi : i < zs.length) (v : Int) : RowAt (w.setCell ⟨b, off + i, none⟩ (.int .i64 v)) b off (zs.set i v) := fun j hj => by
  rw [List.length_set] at hj
  obtain ⟨c, f⟩ := h j hj
  refine ⟨?_, by rw [World.frozen?_setCell]; exact f⟩
  rw [cell_set _ _ _ _ _ _ c, getD_set _ _ _ _ hi]
  by_cases e : j = i
  · subst e; simp
  · rw [if_neg (by omega), if_neg e]
theorem RowAt.drew {w : World} {b off : Nat} {zs : List Int} (h : RowAt w b off zs) : RowAt w.drew b off zs := h
theorem GenAt.set {w : World} {g pb : Nat} {hi lo : Int} (h : GenAt w g pb hi lo) {b : Nat} (o : Nat) (v : Value) (h1 : b ≠ g) (h2 : b ≠ pb) : GenAt (w.setCell ⟨b, o, none⟩ v) g pb hi lo := by
  obtain ⟨g1, g2, g3, g4, g5, g6, g7, g8⟩ := h
  exact ⟨by simpa using g1, by simpa using g2, g3, by rw [World.cell?_setCell_far _ _ _ _ h1]; exact g4, by rw [World.cell?_setCell_far _ _ _ _ h2]; exact g5, by rw [World.cell?_setCell_far _ _ _ _ h2]; exact g6, by rw [World.frozen?_setCell]; exact g7, by rw [World.frozen?_setCell]; exact g8⟩

theorem GenAt.drawn {w : World} {g pb : Nat} {hi lo : Int} (h : GenAt w g pb hi lo) : GenAt w.drew g pb hi lo := h

/-- What a shuffle may turn: the row's own cells, and the PCG's block. -/
structure Fr (b off n pb : Nat) (w w' : World) : Prop where
  os : w'.os = w.os
  tape : w'.tape = w.tape
  output : w'.output = w.output
  size : w'.heap.size = w.heap.size
  block : ∀ k, k ≠ b → k ≠ pb → w'.heap[k]? = w.heap[k]?
  cell : ∀ o, (o < off ∨ off + n ≤ o) → w'.cell? ⟨b, o, none⟩ = w.cell? ⟨b, o, none⟩
  frozen : ∀ a, w'.frozen? a = w.frozen? a

theorem Fr.refl (b off n pb : Nat) (w : World) : Fr b off n pb w w := ⟨rfl, rfl, rfl, rfl, fun _ _ _ => rfl, fun _ _ => rfl, fun _ => rfl⟩
theorem Fr.trans {b off n pb : Nat} {u v w : World} (h : Fr b off n pb u v) (k : Fr b off n pb v w) : Fr b off n pb u w :=
  ⟨k.os.trans h.os, k.tape.trans h.tape, k.output.trans h.output, k.size.trans h.size, fun i h1 h2 => (k.block i h1 h2).trans (h.block i h1 h2), fun o ho => (k.cell o ho).trans (h.cell o ho), fun a => (k.frozen a).trans (h.frozen a)⟩
theorem heap_setCell_ne (w : World) (a : Addr) (v : Value) (k : Nat) (h : k ≠ a.block) : (w.setCell a v).heap[k]? = w.heap[k]? := Below.heap_setCell w a v k h
theorem Fr.drew {b off n pb : Nat} {u v : World} (h : Fr b off n pb u v) : Fr b off n pb u v.drew := ⟨h.os, h.tape, h.output, h.size, h.block, h.cell, h.frozen⟩
theorem Fr.set {b off n pb : Nat} (w : World) (i : Nat) (hi : i < n) (v : Value) : Fr b off n pb w (w.setCell ⟨b, off + i, none⟩ v) :=
  ⟨rfl, rfl, rfl, by simp, fun k h1 _ => heap_setCell_ne w _ v k h1, fun o ho => World.cell?_setCell_other _ _ _ _ (fun h => by have := (Addr.mk.inj h).2.1; omega), fun a => World.frozen?_setCell _ _ _ _⟩
theorem Fr.draw {b off n pb : Nat} (w : World) (hb : b ≠ pb) (hi lo : Int) : Fr b off n pb w (drawW w pb hi lo) := by
  refine ⟨rfl, rfl, rfl, drawW_size _ _ _ _, fun k _ h2 => ?_, fun o _ => drawW_cell _ _ _ _ _ _ hb, fun a => drawW_frozen _ _ _ _ _⟩
  show (((w.setCell ⟨pb, 1, none⟩ _).setCell ⟨pb, 0, none⟩ _)).heap[k]? = _
  rw [heap_setCell_ne _ _ _ _ h2, heap_setCell_ne _ _ _ _ h2]

set_option maxHeartbeats 1000000 in
/-- synthbook's shuffle, m rounds over a row. -/
theorem shuffle_any (g pb b off cap : Nat) (zs : List Int) (hi lo : Int) (m : Nat) (w : World) (hg : GenAt w g pb hi lo) (hr : RowAt w b off zs) (hbp : b ≠ pb) (hbg : b ≠ g) (hlen : zs.length ≤ 65536) (hn : m ≤ zs.length) :
    Calls Try.prog 28 #[.pointer (some ⟨g, 0, none⟩), .slice (some ⟨b, off, none⟩) zs.length cap, .int .i64 (m : Int)] w fun e w' =>
      e = .returned (.tuple #[]) ∧ RowAt w' b off (sh 0 zs (hi, lo) m) ∧ GenAt w' g pb (stpN (hi, lo) m).1 (stpN (hi, lo) m).2 ∧ Fr b off zs.length pb w w' := by
  go_enter Try.func28, Try.ntmps28
  go_wp2
  go_loopw [9] (fun i wr => ∃ k : Nat, k ≤ m ∧ i = .int .i64 k ∧ RowAt wr b off (sh 0 zs (hi, lo) k) ∧ GenAt wr g pb (stpN (hi, lo) k).1 (stpN (hi, lo) k).2 ∧ Fr b off zs.length pb w wr) (fun i _ => m - (intOf i).toNat)
  case atStart => exact ⟨0, Nat.zero_le _, rfl, hr, hg, Fr.refl _ _ _ _ _⟩
  case round =>
    obtain ⟨k, hk, rfl, hrow, hgen, hfr⟩ := hrel
    by_cases hlt : k < m
    · have hL : (sh 0 zs (hi, lo) k).length = zs.length := sh_length _ _ _ _
      obtain ⟨d, hd⟩ : ∃ d, dOf k zs.length (stpN (hi, lo) k) = d := ⟨_, rfl⟩
      have hd1 : k + d < zs.length := by rw [← hd]; exact dOf_lt k _ _ (by omega)
      have HD : Hid (dOf k zs.length (stpN (hi, lo) k) = d) := hd
      have HL : Hid ((sh 0 zs (hi, lo) k).length = zs.length) := hL
      clear hd hL hr hg
      go_wp2_with fail
      refine (between_nat g pb _ _ _ d wr hgen (by omega) (by omega) ?_).mono ?_
      · rw [← HD.out]; unfold dOf
        rw [show (zs.length : Int) - (k : Int) - 1 + 1 = (zs.length : Int) - (k : Int) by omega]
      rintro e w1 ⟨rfl, rfl⟩
      have hrow1 := hrow.draw hbp (stpN (hi, lo) k).1 (stpN (hi, lo) k).2
      have hgen1 : GenAt (drawW wr pb (stpN (hi, lo) k).1 (stpN (hi, lo) k).2) g pb (stpN (hi, lo) (k + 1)).1 (stpN (hi, lo) (k + 1)).2 := hgen.draw
      replace hfr := hfr.trans (Fr.draw wr hbp (stpN (hi, lo) k).1 (stpN (hi, lo) k).2)
      generalize drawW wr pb (stpN (hi, lo) k).1 (stpN (hi, lo) k).2 = w1 at *
      obtain ⟨c1, f1⟩ := hrow1 k (by rw [HL.out]; omega)
      obtain ⟨c2, f2⟩ := hrow1 (k + d) (by rw [HL.out]; omega)
      have hrow2 : RowAt (((w1.setCell ⟨b, off + k, none⟩ (.int .i64 ((sh 0 zs (hi, lo) k).getD (k + d) 0))).setCell ⟨b, off + (k + d), none⟩ (.int .i64 ((sh 0 zs (hi, lo) k).getD k 0))).drew) b off (sh 0 zs (hi, lo) (k + 1)) := by
        have e : sh 0 zs (hi, lo) (k + 1) = swp (sh 0 zs (hi, lo) k) k (k + d) := by
          rw [sh, rnd, Nat.zero_add, HL.out, HD.out]
        rw [e]
        exact ((hrow1.set k (by rw [HL.out]; omega) _).set (k + d) (by rw [List.length_set, HL.out]; omega) _).drew
      have HR : Hid (RowAt (((w1.setCell ⟨b, off + k, none⟩ (.int .i64 ((sh 0 zs (hi, lo) k).getD (k + d) 0))).setCell ⟨b, off + (k + d), none⟩ (.int .i64 ((sh 0 zs (hi, lo) k).getD k 0))).drew) b off (sh 0 zs (hi, lo) (k + 1))) := hrow2
      clear hrow1 hrow hgen hrow2
      generalize (sh 0 zs (hi, lo) k).getD k 0 = x at *
      generalize (sh 0 zs (hi, lo) k).getD (k + d) 0 = y at *
      have b1 : (0 : Int) ≤ (k : Int) + (d : Int) := by omega
      have b2 : (k : Int) + (d : Int) < (zs.length : Int) := by omega
      have b3 : (k : Int) < (zs.length : Int) := by omega
      have e1 : ((k : Int) + (d : Int)).toNat = k + d := by omega
      obtain ⟨v', hy'⟩ := cell?_setCell_some (w := w1) (p := ⟨b, off + k, none⟩) (x := .int .i64 y) (q := ⟨b, off + (k + d), none⟩) (v := .int .i64 y) c2
      go_wp2_with fail
      go_region
      clear c1 c2 f1 f2 hy' e1
      go_wp2
      go_roundw
      case rel =>
        exact ⟨k + 1, by omega, by go_num, HR.out, GenAt.drawn ((hgen1.set _ _ hbg hbp).set _ _ hbg hbp), ((hfr.trans (Fr.set _ k (by omega) _)).trans (Fr.set _ (k + d) (by omega) _)).drew⟩
      case measure => simp [intOf]; omega
    · obtain rfl : k = m := by omega
      go_wp2
      go_end0
      exact ⟨rfl, hrow, hgen, hfr⟩
end Go.Proofs.Qxb6613790a
