import Derived.Test.Qxb6613788aVars
import Derived.Deep.DeepCutAuto
namespace Go.Proofs.Qxb6613788a
open Go.RowKit

theorem maxz_facts (t u : Int) (h : t - u ≤ 9223372036854775807) : 0 ≤ maxz (t - u) ∧ maxz (t - u) ≤ 9223372036854775807 ∧ t - u ≤ maxz (t - u) := by unfold maxz; split <;> omega
theorem maxz_charge (t u c a : Int) (h : u + c = a) (hc : 0 ≤ c) : maxz (t - a) ≤ maxz (t - u) ∧ maxz (t - u) - maxz (t - a) ≤ c := by unfold maxz; split <;> split <;> omega

/-- The payload in a variable. -/
def P9 (w : World) (n : Nat) (sn trust : ByteArray) (total daily : Int) (c : Bool) : Prop :=
  n < w.heap.size ∧ w.cell? ⟨n, 0, none⟩ = some (.string sn) ∧ w.cell? ⟨n, 1, none⟩ = some (.int .i64 total) ∧ w.cell? ⟨n, 2, none⟩ = some (.int .i64 daily) ∧ w.cell? ⟨n, 3, none⟩ = some (.string trust) ∧ w.cell? ⟨n, 4, none⟩ = some (.int .i64 0)
    ∧ w.cell? ⟨n, 5, none⟩ = some (.bool c) ∧ w.cell? ⟨n, 6, none⟩ = some (.int .u64 0) ∧ w.cell? ⟨n, 7, none⟩ = some (.int .i64 0) ∧ w.cell? ⟨n, 8, none⟩ = some (.pointer none)
theorem P9.below {w w' : World} {n : Nat} {sn trust : ByteArray} {total daily : Int} {c : Bool} (h : P9 w n sn trust total daily c) (hb : Below w.heap.size w w') : P9 w' n sn trust total daily c := by
  obtain ⟨h0, k0, k1, k2, k3, k4, k5, k6, k7, k8⟩ := h
  exact ⟨Nat.lt_of_lt_of_le h0 hb.size, (hb.cell (p := ⟨n, 0, none⟩) h0).trans k0, (hb.cell (p := ⟨n, 1, none⟩) h0).trans k1, (hb.cell (p := ⟨n, 2, none⟩) h0).trans k2, (hb.cell (p := ⟨n, 3, none⟩) h0).trans k3, (hb.cell (p := ⟨n, 4, none⟩) h0).trans k4,
    (hb.cell (p := ⟨n, 5, none⟩) h0).trans k5, (hb.cell (p := ⟨n, 6, none⟩) h0).trans k6, (hb.cell (p := ⟨n, 7, none⟩) h0).trans k7, (hb.cell (p := ⟨n, 8, none⟩) h0).trans k8⟩

set_option maxHeartbeats 1000000 in
set_option maxRecDepth 100000 in
theorem law4_in (sn trust : ByteArray) (total daily used ch an rn y m d y' m' d' : Int) (w : World) (h1 : sn.size ≤ maxLen) (h2 : trust.size ≤ maxLen) 
    (w1 : -9223372036854775808 ≤ total ∧ total ≤ 9223372036854775807) (w4 : -9223372036854775808 ≤ used ∧ used ≤ 9223372036854775807) (w5 : -9223372036854775808 ≤ ch ∧ ch ≤ 9223372036854775807) (w7 : -9223372036854775808 ≤ rn ∧ rn ≤ 9223372036854775807) :
    Calls Try.prog 4 #[.string sn, .int .i64 total, .int .i64 daily, .string trust, .int .i64 used, .int .i64 ch, .agg #[.int .i64 y, .int .i64 m, .int .i64 d], .int .i64 an, .int .i64 rn, .agg #[.int .i64 y', .int .i64 m', .int .i64 d']] w fun e w' =>
      e = .returned (.bool true) ∧ Below w.heap.size w w' := by
  obtain ⟨w1, w1'⟩ := w1
  obtain ⟨w4, w4'⟩ := w4
  obtain ⟨w5, w5'⟩ := w5
  obtain ⟨w7, w7'⟩ := w7
  go_enter Try.func4, Try.ntmps4
  go_wp2_with fail
  refine (bytes13 _ _ _ _ _ _ _ _ _ _ _ _ _ _ _ h1 h2).mono ?_
  rintro e w1 ⟨b, rfl, hw⟩
  have q16 : D3 w1 w.heap.size y m d := by rw [hw]; refine ⟨?_, ?_, ?_, ?_⟩ <;> simp [go_sem]
  have q19 : D3 w1 (w.heap.size + 1) y' m' d' := by rw [hw]; refine ⟨?_, ?_, ?_, ?_⟩ <;> simp [go_sem]
  have hB : Below w.heap.size w w1 := by rw [hw]; go_grown
  clear hw
  cases b
  · go_wp2
    go_ret
    exact ⟨rfl, hB⟩
  unfold maxLen at h1 h2
  go_upto_region 7 with fail
  iterate 2 (go_ret; exact ⟨rfl, hB⟩)
  go_cut [54] (fun s wx => s = .bool (decide (0 < ch) && decide (9223372036854775807 - ch < used)) ∧ w1 = wx)
  case first =>
    by_cases g1 : 0 < ch
    · go_wp2
      all_goals (go_meet; exact ⟨by simp [*], rfl⟩)
    · go_wp2
      go_meet
      exact ⟨by simp; omega, rfl⟩
  case rest =>
  obtain ⟨rfl, rfl⟩ := hcut
  cases hg1 : (decide (0 < ch) && decide (9223372036854775807 - ch < used)) with
  | true =>
    go_wp2
    go_ret
    exact ⟨rfl, hB⟩
  | false =>
  have k1 : used + ch ≤ 9223372036854775807 := by simp at hg1; omega
  clear hg1
  go_upto_region 9 with fail
  go_cut [62] (fun s wx => s = .bool (decide (ch < 0) && decide (used < -9223372036854775808 - ch)) ∧ w1 = wx)
  case first =>
    by_cases g1 : ch < 0
    · go_wp2
      all_goals (go_meet; exact ⟨by simp [*], rfl⟩)
    · go_wp2
      go_meet
      exact ⟨by simp; omega, rfl⟩
  case rest =>
  obtain ⟨rfl, rfl⟩ := hcut
  cases hg1 : (decide (ch < 0) && decide (used < -9223372036854775808 - ch)) with
  | true =>
    go_wp2
    go_ret
    exact ⟨rfl, hB⟩
  | false =>
  have k2 : -9223372036854775808 ≤ used + ch := by simp at hg1; omega
  clear hg1
  go_upto_region 12 with fail
  obtain ⟨af, haf⟩ : ∃ af, used + ch = af := ⟨_, rfl⟩
  rw [haf] at k1 k2 ⊢
  have HAF : Hid (used + ch = af) := haf
  clear haf
  go_cut [77] (fun s wx => s = .bool ((decide (0 < total) && decide (used < 0)) && decide (9223372036854775807 + used < total)) ∧ w1 = wx)
  case first =>
    by_cases g1 : 0 < total
    · by_cases g2 : used < 0
      · go_wp2
        all_goals (go_meet; exact ⟨by simp [*], rfl⟩)
      · go_wp2
        go_meet
        exact ⟨by simp; omega, rfl⟩
    · go_wp2
      go_meet
      exact ⟨by simp; omega, rfl⟩
  case rest =>
  obtain ⟨rfl, rfl⟩ := hcut
  cases hg1 : ((decide (0 < total) && decide (used < 0)) && decide (9223372036854775807 + used < total)) with
  | true =>
    go_wp2
    go_ret
    exact ⟨rfl, hB⟩
  | false =>
  have hfr : Fair total used := by intro h; simp at hg1; constructor <;> omega
  clear hg1
  go_upto_region 14 with fail
  go_cut [89] (fun s wx => s = .bool ((decide (0 < total) && decide (af < 0)) && decide (9223372036854775807 + af < total)) ∧ w1 = wx)
  case first =>
    by_cases g1 : 0 < total
    · by_cases g2 : af < 0
      · go_wp2
        all_goals (go_meet; exact ⟨by simp [*], rfl⟩)
      · go_wp2
        go_meet
        exact ⟨by simp; omega, rfl⟩
    · go_wp2
      go_meet
      exact ⟨by simp; omega, rfl⟩
  case rest =>
  obtain ⟨rfl, rfl⟩ := hcut
  cases hg1 : ((decide (0 < total) && decide (af < 0)) && decide (9223372036854775807 + af < total)) with
  | true =>
    go_wp2
    go_ret
    exact ⟨rfl, hB⟩
  | false =>
  have hfa : Fair total af := by intro h; simp at hg1; constructor <;> omega
  clear hg1
  -- the time
  go_wp2_with fail
  refine (add_some rn _ w7 w7').mono ?_
  rintro e w2 ⟨W, E, rfl, hrn0, hbl⟩
  have hrn : Hid ((rn == 0) = (W == 0 && E == 0)) := hrn0
  replace q16 := q16.below hbl
  replace q19 := q19.below hbl
  replace hB := hB.trans (hbl.mono hB.size)
  clear hrn0 hbl
  go_wp2_with fail
  refine (payload_w _ _ _ _ _).mono ?_
  rintro e w3 ⟨rfl, rfl⟩
  obtain ⟨z16, a0, a1, a2⟩ := id q16
  have z16a : w.heap.size < w2.heap.size + 1 := by omega
  have z16b : w.heap.size < w2.heap.size + 1 + 1 := by omega
  go_wp2_with fail
  refine (date_any _ _ _ _).mono ?_
  rintro e w3 ⟨rfl, rfl⟩
  go_wp2_with fail
  refine (newState_any sn trust total daily used W E y m d an _ _).mono ?_
  rintro e w3 ⟨b1, rfl, hb0, hb1, hs1, hbl⟩
  have q22 : T3 w3 w2.heap.size W E := T3.below (by refine ⟨?_, ?_, ?_, ?_⟩ <;> simp [go_sem]) hbl
  have q23 : P9 w3 (w2.heap.size + 1 + 1) sn trust total daily (decide (0 < total)) := P9.below (by refine ⟨?_, ?_, ?_, ?_, ?_, ?_, ?_, ?_, ?_, ?_⟩ <;> simp [go_sem]) hbl
  have q24 : C4 w3 (w2.heap.size + 1 + 1 + 1 + 1 + 1) y m d an := C4.below (by refine ⟨?_, ?_, ?_, ?_, ?_⟩ <;> simp [go_sem]) hbl
  have hB3 : Below w2.heap.size w2 w3 := Below.trans (by go_grown) (hbl.mono (by simp; omega))
  replace q16 := q16.below hB3
  replace q19 := q19.below hB3
  replace hB := hB.trans (hB3.mono hB.size)
  clear hbl hB3 hb0 a0 a1 a2 z16 z16a z16b
  generalize w2.heap.size + 1 + 1 + 1 + 1 + 1 = n24 at *
  generalize w2.heap.size + 1 + 1 = n23 at *
  generalize w2.heap.size = n22 at *
  obtain ⟨z22, t0, t1, t2⟩ := id q22
  obtain ⟨z23, p0, p1, p2, p3, p4, p5, p6, p7, p8⟩ := id q23
  obtain ⟨z24, d0, d1, d2, d3⟩ := id q24
  go_wp2_with fail
  refine (newState_any sn trust total daily af W E y m d an _ _).mono ?_
  rintro e w4 ⟨b2, rfl, hb0, hb2, hs2, hbl⟩
  replace q16 := q16.below hbl
  replace q19 := q19.below hbl
  replace q22 := q22.below hbl
  replace hs1 := hs1.below hbl hb1
  replace hb1 : b1 < w4.heap.size := Nat.lt_of_lt_of_le hb1 hbl.size
  replace hB := hB.trans (hbl.mono hB.size)
  clear hbl hb0 q23 q24 z22 t0 t1 t2 z23 p0 p1 p2 p3 p4 p5 p6 p7 p8 z24 d0 d1 d2 d3
  -- the first status
  obtain ⟨z19, a0, a1, a2⟩ := id q19
  go_wp2_with fail
  refine (date_any _ _ _ _).mono ?_
  rintro e w5 ⟨rfl, rfl⟩
  go_wp2_with fail
  refine (zst_any b1 sn trust total daily used W E y m d an y' m' d' _ _ (hs1.below (B := w4.heap.size) (by go_grown) hb1) (by simp; omega) hfr).mono ?_
  rintro e w6 ⟨p1, rfl, hp1, hbl⟩
  have hB6 : Below w4.heap.size w4 w6 := Below.trans (by go_grown) (hbl.mono (by simp; omega))
  replace q16 := q16.below hB6
  replace q19 := q19.below hB6
  replace q22 := q22.below hB6
  replace hs2 := hs2.below hB6 hb2
  replace hb2 : b2 < w6.heap.size := Nat.lt_of_lt_of_le hb2 hB6.size
  replace hB := hB.trans (hB6.mono hB.size)
  replace hp1 : RepAt 0 w6 p1 W E := hp1.lower (Nat.zero_le _)
  clear hbl hB6 a0 a1 a2 z19 hs1 hb1
  -- the second
  obtain ⟨z19, a0, a1, a2⟩ := id q19
  go_wp2_with fail
  refine (date_any _ _ _ _).mono ?_
  rintro e w7 ⟨rfl, rfl⟩
  go_wp2_with fail
  refine (zst_any b2 sn trust total daily af W E y m d an y' m' d' _ _ (hs2.below (B := w6.heap.size) (by go_grown) hb2) (by simp; omega) hfa).mono ?_
  rintro e w8 ⟨p2, rfl, hp2, hbl⟩
  have q27 : S10 w8 w6.heap.size sn trust total daily used an (aft y' m' d' y m d) p1 := S10.below (by refine ⟨?_, ?_, ?_, ?_, ?_, ?_, ?_, ?_, ?_, ?_, ?_⟩ <;> simp [go_sem]) hbl
  have hB8 : Below w6.heap.size w6 w8 := Below.trans (by go_grown) (hbl.mono (by simp; omega))
  replace q16 := q16.below hB8
  replace q19 := q19.below hB8
  replace q22 := q22.below hB8
  replace hp1 := hp1.below hB8
  replace hB := hB.trans (hB8.mono hB.size)
  replace hp2 : RepAt 0 w8 p2 W E := hp2.lower (Nat.zero_le _)
  clear hbl hB8 a0 a1 a2 z19 hs2 hb2
  generalize w6.heap.size = n27 at *
  obtain ⟨z27, s0, s1, s2, s3, s4, s5, s6, s7, s8, s9⟩ := id q27
  obtain ⟨z16, a0, a1, a2⟩ := id q16
  obtain ⟨z19, c0, c1, c2⟩ := id q19
  obtain ⟨z22, b0, b1, b2⟩ := id q22
  go_wp2_with fail
  refine (fits_any 0 p1 sn trust total daily used W E y m d an rn y' m' d' _ (hp1.below (by go_grown)) hrn.out hfr).mono ?_
  rintro e w9 ⟨rfl, hbl⟩
  have q28 : S10 w9 w8.heap.size sn trust total daily af an (aft y' m' d' y m d) p2 := S10.below (by refine ⟨?_, ?_, ?_, ?_, ?_, ?_, ?_, ?_, ?_, ?_, ?_⟩ <;> simp [go_sem]) hbl
  have hB9 : Below w8.heap.size w8 w9 := Below.trans (by go_grown) (hbl.mono (by simp))
  replace q16 := q16.below hB9
  replace q19 := q19.below hB9
  replace q22 := q22.below hB9
  replace q27 := q27.below hB9
  replace hp2 := hp2.below hB9
  replace hB := hB.trans (hB9.mono hB.size)
  clear hbl hB9 z27 s0 s1 s2 s3 s4 s5 s6 s7 s8 s9 a0 a1 a2 z16 c0 c1 c2 z19 b0 b1 b2 z22 hp1
  generalize w8.heap.size = n28 at *
  obtain ⟨z28, s0, s1, s2, s3, s4, s5, s6, s7, s8, s9⟩ := id q28
  obtain ⟨z16, a0, a1, a2⟩ := id q16
  obtain ⟨z19, c0, c1, c2⟩ := id q19
  obtain ⟨z22, b0, b1, b2⟩ := id q22
  go_wp2_with fail
  refine (fits_any 0 p2 sn trust total daily af W E y m d an rn y' m' d' _ hp2 hrn.out hfa).mono ?_
  rintro e w10 ⟨rfl, hbl⟩
  replace q27 := q27.below hbl
  replace q28 := q28.below hbl
  replace hB := hB.trans (hbl.mono hB.size)
  clear hbl z28 s0 s1 s2 s3 s4 s5 s6 s7 s8 s9 a0 a1 a2 z16 c0 c1 c2 z19 b0 b1 b2 z22 hp2 q16 q19 q22 hrn
  by_cases ht : 0 < total
  · obtain ⟨z27, -, -, -, -, r4, r5, -⟩ := q27
    obtain ⟨z28, -, -, -, -, s4, s5, -⟩ := q28
    obtain ⟨f1, f2⟩ := hfr ht
    obtain ⟨f3, f4⟩ := hfa ht
    have eu : gUsed total used = used := if_pos ht
    have ea : gUsed total af = af := if_pos ht
    have eru : gRem total used = maxz (total - used) := if_pos ht
    have era : gRem total af = maxz (total - af) := if_pos ht
    rw [eu] at r4; rw [ea] at s4; rw [eru] at r5; rw [era] at s5
    clear eu ea eru era
    go_wp2_with fail
    go_region_held3 (fun w' => w'.cell? ⟨n27, 5, none⟩ = some (.int .i64 (maxz (total - used)))) (go_simp) (first | (go_at_call 14; refine (remaining_any _ _ _ f1 f2).mono ?_; rintro e w' ⟨rfl, rfl⟩))
    go_wp2_with fail
    go_region_held3 (fun w' => w'.cell? ⟨n28, 5, none⟩ = some (.int .i64 (maxz (total - af)))) (go_simp) (first | (go_at_call 14; refine (remaining_any _ _ _ f3 f4).mono ?_; rintro e w' ⟨rfl, rfl⟩))
    have x1 : (af - used != ch) = false := by have := HAF.out; simp; omega
    have x2 : -9223372036854775808 ≤ af - used := by have := HAF.out; omega
    have x3 : af - used ≤ 9223372036854775807 := by have := HAF.out; omega
    obtain ⟨m1, m2, m3⟩ := maxz_facts total used f2
    obtain ⟨m4, m5, m6⟩ := maxz_facts total af f4
    by_cases hc : 0 ≤ ch
    · obtain ⟨m7, m8⟩ := maxz_charge total used ch af HAF.out hc
      clear HAF f1 f2 f3 f4 m3 m6
      generalize maxz (total - used) = r1 at *
      generalize maxz (total - af) = r2 at *
      go_wp2
      go_ret
      exact ⟨rfl, hB.drew.drew⟩
    · clear HAF f1 f2 f3 f4 m3 m6
      generalize maxz (total - used) = r1 at *
      generalize maxz (total - af) = r2 at *
      go_wp2
      go_ret
      exact ⟨rfl, hB.drew.drew⟩
  · go_wp2
    go_ret
    exact ⟨rfl, hB⟩
end Go.Proofs.Qxb6613788a
