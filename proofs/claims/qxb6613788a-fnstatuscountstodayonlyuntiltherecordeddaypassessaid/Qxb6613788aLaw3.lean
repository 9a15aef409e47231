import Derived.Test.Qxb6613788aVars
namespace Go.Proofs.Qxb6613788a
open Go.RowKit

set_option maxHeartbeats 1000000 in
theorem law3_in (sn trust : ByteArray) (total daily used an rn y m d y' m' d' : Int) (w : World) (h1 : sn.size ≤ maxLen) (h2 : trust.size ≤ maxLen) 
    (w1 : -9223372036854775808 ≤ total ∧ total ≤ 9223372036854775807) (w4 : -9223372036854775808 ≤ used ∧ used ≤ 9223372036854775807) (w7 : -9223372036854775808 ≤ rn ∧ rn ≤ 9223372036854775807) :
    Calls Try.prog 3 #[.string sn, .int .i64 total, .int .i64 daily, .string trust, .int .i64 used, .agg #[.int .i64 y, .int .i64 m, .int .i64 d], .int .i64 an, .int .i64 rn, .agg #[.int .i64 y', .int .i64 m', .int .i64 d']] w fun e w' =>
      e = .returned (.bool true) ∧ Below w.heap.size w w' := by
  obtain ⟨w1, w1'⟩ := w1
  obtain ⟨w4, w4'⟩ := w4
  obtain ⟨w7, w7'⟩ := w7
  go_enter Try.func3, Try.ntmps3
  go_wp2_with fail
  refine (bytes5 _ _ _ _ _ _ _ _ _ _ _ _ _ _ h1 h2).mono ?_
  rintro e w1 ⟨b, rfl, rfl⟩
  cases b
  · go_wp2
    go_ret
    exact ⟨rfl, by go_grown⟩
  unfold maxLen at h1 h2
  go_wp2_with fail
  iterate 3 (go_ret; exact ⟨rfl, by go_grown⟩)
  all_goals
    have hfr : Fair total used := by intro _; constructor <;> omega
    refine (add_some rn _ w7 w7').mono ?_
    rintro e w1 ⟨W, E, rfl, hrn0, hb1⟩
    have hrn : Hid ((rn == 0) = (W == 0 && E == 0)) := hrn0
    clear hrn0
    have q14 : D3 w1 w.heap.size y m d := D3.below (by refine ⟨?_, ?_, ?_, ?_⟩ <;> simp [go_sem]) hb1
    have q17 : D3 w1 (w.heap.size + 1) y' m' d' := D3.below (by refine ⟨?_, ?_, ?_, ?_⟩ <;> simp [go_sem]) hb1
    have hB : Below w.heap.size w w1 := Below.trans (by go_grown) (hb1.mono (by simp; omega))
    clear hb1
    obtain ⟨z14, a0, a1, a2⟩ := id q14
    go_wp2_with fail
    refine (date_any _ _ _ _).mono ?_
    rintro e w2 ⟨rfl, rfl⟩
    go_wp2_with fail
    go_region_held3 (fun w' => w'.cell? ⟨w1.heap.size, 0, none⟩ = some (.int .u64 W) ∧ w'.cell? ⟨w1.heap.size, 1, none⟩ = some (.int .i64 E) ∧ w'.cell? ⟨w1.heap.size, 2, none⟩ = some (.pointer none)
       ∧ w'.cell? ⟨w1.heap.size + 1 + 1 + 1, 0, none⟩ = some (.int .i64 y) ∧ w'.cell? ⟨w1.heap.size + 1 + 1 + 1, 1, none⟩ = some (.int .i64 m) ∧ w'.cell? ⟨w1.heap.size + 1 + 1 + 1, 2, none⟩ = some (.int .i64 d) ∧ w'.cell? ⟨w1.heap.size + 1 + 1 + 1, 3, none⟩ = some (.int .i64 an)) (go_simp)
      (first
       | (go_at_call 9; refine (payload_w _ _ _ _ _).mono ?_; rintro e w' ⟨rfl, rfl⟩)
       | (go_at_call 8; refine (newState_any _ _ _ _ _ _ _ _ _ _ _ _ _).mono ?_; rintro e w3 ⟨b, rfl, hb0, hb1, hst, hbl⟩; obtain ⟨hc3, hf3⟩ := bcell hbl))
    rename_i hHeld
    obtain ⟨t0, t1, t2, -⟩ := hHeld
    have hB1 : Below w1.heap.size w1 w3 := Below.trans (by go_grown) (hbl.mono (by simp; omega))
    have hsz3 : w1.heap.size < w3.heap.size := by have := hbl.size; simp at this; omega
    have q19 : T3 w3 w1.heap.size W E := ⟨hsz3, t0, t1, t2⟩
    replace q14 := q14.below hB1
    replace q17 := q17.below hB1
    replace hB := hB.trans (hB1.mono hB.size)
    clear hbl hc3 hf3 hb0 a0 a1 a2 z14 t0 t1 t2 hsz3 hB1
    generalize w1.heap.size = n19 at *
    -- the first status
    obtain ⟨z14, a0, a1, a2⟩ := id q14
    go_wp2_with fail
    refine (date_any _ _ _ _).mono ?_
    rintro e w2 ⟨rfl, rfl⟩
    go_wp2_with fail
    refine (zst_any b sn trust total daily used W E y m d an y m d _ _ (hst.below (B := w3.heap.size) (by go_grown) hb1) (by simp; omega) hfr).mono ?_
    rintro e w4 ⟨p1, rfl, hp1, hbl⟩
    have hB4 : Below w3.heap.size w3 w4 := Below.trans (by go_grown) (hbl.mono (by simp; omega))
    replace q14 := q14.below hB4
    replace q17 := q17.below hB4
    replace q19 := q19.below hB4
    replace hst := hst.below hB4 hb1
    replace hb1 : b < w4.heap.size := Nat.lt_of_lt_of_le hb1 hB4.size
    replace hB := hB.trans (hB4.mono hB.size)
    replace hp1 : RepAt 0 w4 p1 W E := hp1.lower (Nat.zero_le _)
    clear hbl hB4 a0 a1 a2 z14
    -- the second
    obtain ⟨z17, a0, a1, a2⟩ := id q17
    go_wp2_with fail
    refine (date_any _ _ _ _).mono ?_
    rintro e w5 ⟨rfl, rfl⟩
    go_wp2_with fail
    refine (zst_any b sn trust total daily used W E y m d an y' m' d' _ _ (hst.below (B := w4.heap.size) (by go_grown) hb1) (by simp; omega) hfr).mono ?_
    rintro e w6 ⟨p2, rfl, hp2, hbl⟩
    have q22 : S10 w6 w4.heap.size sn trust total daily used an (aft y m d y m d) p1 := S10.below (by refine ⟨?_, ?_, ?_, ?_, ?_, ?_, ?_, ?_, ?_, ?_, ?_⟩ <;> simp [go_sem]) hbl
    have hB6 : Below w4.heap.size w4 w6 := Below.trans (by go_grown) (hbl.mono (by simp; omega))
    replace q14 := q14.below hB6
    replace q17 := q17.below hB6
    replace q19 := q19.below hB6
    replace hp1 := hp1.below hB6
    replace hB := hB.trans (hB6.mono hB.size)
    replace hp2 : RepAt 0 w6 p2 W E := hp2.lower (Nat.zero_le _)
    clear hbl hB6 a0 a1 a2 z17 hst hb1
    generalize w4.heap.size = n22 at *
    obtain ⟨z22, s0, s1, s2, s3, s4, s5, s6, s7, s8, s9⟩ := id q22
    obtain ⟨z14, a0, a1, a2⟩ := id q14
    obtain ⟨z19, b0, b1, b2⟩ := id q19
    go_wp2_with fail
    refine (fits_any 0 p1 sn trust total daily used W E y m d an rn y m d _ (hp1.below (by go_grown)) hrn.out hfr).mono ?_
    rintro e w7 ⟨rfl, hbl⟩
    have q23 : S10 w7 w6.heap.size sn trust total daily used an (aft y' m' d' y m d) p2 := S10.below (by refine ⟨?_, ?_, ?_, ?_, ?_, ?_, ?_, ?_, ?_, ?_, ?_⟩ <;> simp [go_sem]) hbl
    have hB7 : Below w6.heap.size w6 w7 := Below.trans (by go_grown) (hbl.mono (by simp))
    replace q14 := q14.below hB7
    replace q17 := q17.below hB7
    replace q19 := q19.below hB7
    replace q22 := q22.below hB7
    replace hp1 := hp1.below hB7
    replace hp2 := hp2.below hB7
    replace hB := hB.trans (hB7.mono hB.size)
    clear hbl hB7 a0 a1 a2 z14 b0 b1 b2 z19 z22 s0 s1 s2 s3 s4 s5 s6 s7 s8 s9
    generalize w6.heap.size = n23 at *
    obtain ⟨z23, s0, s1, s2, s3, s4, s5, s6, s7, s8, s9⟩ := id q23
    obtain ⟨z14, a0, a1, a2⟩ := id q14
    obtain ⟨z17, c0, c1, c2⟩ := id q17
    obtain ⟨z19, b0, b1, b2⟩ := id q19
    go_wp2_with fail
    refine (fits_any 0 p2 sn trust total daily used W E y m d an rn y' m' d' _ hp2 hrn.out hfr).mono ?_
    rintro e w8 ⟨rfl, hbl⟩
    replace q22 := q22.below hbl
    replace q23 := q23.below hbl
    replace hp1 := hp1.below hbl
    replace hp2 := hp2.below hbl
    replace hB := hB.trans (hbl.mono hB.size)
    clear hbl a0 a1 a2 z14 b0 b1 b2 z19 z23 s0 s1 s2 s3 s4 s5 s6 s7 s8 s9 z17 c0 c1 c2 q14 q17 q19 hrn
    obtain ⟨z22, r0, r1, r2, r3, r4, r5, r6, r7, r8, r9⟩ := q22
    obtain ⟨z23, s0, s1, s2, s3, s4, s5, s6, s7, s8, s9⟩ := q23
    go_wp2_with fail
    have ht : gToday total daily an (aft y' m' d' y m d) = gToday total daily an (aft y m d y m d) ∨ gToday total daily an (aft y' m' d' y m d) = 0 := today_or _ _ _ _ _ _ _ _ _
    refine (same_any 0 _ _ _ _ _ _ _ _ _ _ _ _ _ _ _ hp1 hp2 ht).mono ?_
    rintro e w9 ⟨rfl, hbl⟩
    replace hB := hB.trans (hbl.mono hB.size)
    clear hbl ht hp1 hp2
    go_wp2
    go_ret
    exact ⟨rfl, hB⟩
end Go.Proofs.Qxb6613788a
