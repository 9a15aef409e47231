import Derived.Test.Qxb6613788aStatC
import Derived.Test.Qxb6613788aStatU
import Derived.Test.Qxb6613788aStatDa
import Derived.Test.Qxb6613788aStatDn
import Derived.Test.Qxb6613788aFits
namespace Go.Proofs.Qxb6613788a
open Go.RowKit

def gMode (t d : Int) : Int := if 0 < t then 2 else if 0 < d then 1 else 0
def gCM (t : Int) : Bool := decide (0 < t)
def gTot (t : Int) : Int := if 0 < t then t else 0
def gUsed (t u : Int) : Int := if 0 < t then u else 0
def gRem (t u : Int) : Int := if 0 < t then maxz (t - u) else 0
def gDaily (t d : Int) : Int := if 0 < t then 0 else if 0 < d then d else 0
def gToday (t d an : Int) (late : Bool) : Int := if 0 < t then 0 else if 0 < d then (if late then 0 else an) else 0

/-- The status as a value. -/
abbrev stv (sn trust : ByteArray) (total daily used an : Int) (late : Bool) (p : Option Addr) : Value :=
  .agg #[.string sn, .int .i64 (gMode total daily), .bool (gCM total), .int .i64 (gTot total), .int .i64 (gUsed total used), .int .i64 (gRem total used), .int .i64 (gDaily total daily), .int .i64 (gToday total daily an late), .string trust, .pointer p]

/-- In credits mode the difference does not go round. -/
def Fair (total used : Int) : Prop := 0 < total → -9223372036854775808 ≤ total - used ∧ total - used ≤ 9223372036854775807

theorem stv_c {sn trust : ByteArray} {total daily used an : Int} {late : Bool} {p : Option Addr} (h : 0 < total) : stv sn trust total daily used an late p = .agg #[.string sn, .int .i64 2, .bool true, .int .i64 total, .int .i64 used, .int .i64 (maxz (total - used)), .int .i64 0, .int .i64 0, .string trust, .pointer p] := by
  simp [stv, gMode, gCM, gTot, gUsed, gRem, gDaily, gToday, h]
theorem stv_u {sn trust : ByteArray} {total daily used an : Int} {late : Bool} {p : Option Addr} (h : ¬ 0 < total) (h' : ¬ 0 < daily) : stv sn trust total daily used an late p = .agg #[.string sn, .int .i64 0, .bool false, .int .i64 0, .int .i64 0, .int .i64 0, .int .i64 0, .int .i64 0, .string trust, .pointer p] := by
  simp only [stv, gMode, gCM, gTot, gUsed, gRem, gDaily, gToday, if_neg h, if_neg h', decide_eq_false h]
theorem stv_da {sn trust : ByteArray} {total daily used an : Int} {p : Option Addr} (h : ¬ 0 < total) (h' : 0 < daily) : stv sn trust total daily used an true p = .agg #[.string sn, .int .i64 1, .bool false, .int .i64 0, .int .i64 0, .int .i64 0, .int .i64 daily, .int .i64 0, .string trust, .pointer p] := by
  simp only [stv, gMode, gCM, gTot, gUsed, gRem, gDaily, gToday, if_neg h, if_pos h', decide_eq_false h, if_true]
theorem stv_dn {sn trust : ByteArray} {total daily used an : Int} {p : Option Addr} (h : ¬ 0 < total) (h' : 0 < daily) : stv sn trust total daily used an false p = .agg #[.string sn, .int .i64 1, .bool false, .int .i64 0, .int .i64 0, .int .i64 0, .int .i64 daily, .int .i64 an, .string trust, .pointer p] := by
  simp only [stv, gMode, gCM, gTot, gUsed, gRem, gDaily, gToday, if_neg h, if_pos h', decide_eq_false h, if_false, Bool.false_eq_true]

theorem status_any (b : Nat) (sn trust : ByteArray) (total daily used W E y m d an y' m' d' : Int) (c : Bool) (w : World) (hst : StAt w b sn trust total daily used W E y m d an c) (hb : b < w.heap.size) (hfr : Fair total used) :
    Calls Try.prog 19 #[.pointer (some ⟨b, 0, none⟩), .agg #[.int .i64 y', .int .i64 m', .int .i64 d']] w fun e w' =>
      ∃ p, e = .returned (stv sn trust total daily used an (aft y' m' d' y m d) p) ∧ RepAt w.heap.size w' p W E ∧ Below w.heap.size w w' := by
  by_cases hz : (W == 0 && E == 0) = true
  · obtain ⟨rfl, rfl⟩ : W = 0 ∧ E = 0 := by simpa using hz
    by_cases ht : 0 < total
    · refine (status_c0 b sn trust total daily used y m d an y' m' d' c w hst hb ht (hfr ht).1 (hfr ht).2).mono ?_
      rintro e w' ⟨rfl, hbl⟩
      exact ⟨none, by rw [stv_c ht], .inl ⟨rfl, rfl, rfl⟩, hbl⟩
    · by_cases hd : 0 < daily
      · cases ha : aft y' m' d' y m d with
        | true =>
          refine (status_d0a b sn trust total daily used y m d an y' m' d' c w hst hb ht hd ha).mono ?_
          rintro e w' ⟨rfl, hbl⟩
          exact ⟨none, by rw [stv_da ht hd], .inl ⟨rfl, rfl, rfl⟩, hbl⟩
        | false =>
          refine (status_d0n b sn trust total daily used y m d an y' m' d' c w hst hb ht hd ha).mono ?_
          rintro e w' ⟨rfl, hbl⟩
          exact ⟨none, by rw [stv_dn ht hd], .inl ⟨rfl, rfl, rfl⟩, hbl⟩
      · refine (status_u0 b sn trust total daily used y m d an y' m' d' c w hst hb ht hd).mono ?_
        rintro e w' ⟨rfl, hbl⟩
        exact ⟨none, by rw [stv_u ht hd], .inl ⟨rfl, rfl, rfl⟩, hbl⟩
  · have hz' : (W == 0 && E == 0) = false := by simpa using hz
    by_cases ht : 0 < total
    · refine (status_c1 b sn trust total daily used W E y m d an y' m' d' c w hst hb ht (hfr ht).1 (hfr ht).2 hz').mono ?_
      rintro e w' ⟨pb, rfl, h1, h2, h3, h4, h5, hbl⟩
      exact ⟨some ⟨pb, 0, none⟩, by rw [stv_c ht], .inr ⟨hz', pb, rfl, h1, h2, h3, h4, h5⟩, hbl⟩
    · by_cases hd : 0 < daily
      · cases ha : aft y' m' d' y m d with
        | true =>
          refine (status_d1a b sn trust total daily used W E y m d an y' m' d' c w hst hb ht hd hz' ha).mono ?_
          rintro e w' ⟨pb, rfl, h1, h2, h3, h4, h5, hbl⟩
          exact ⟨some ⟨pb, 0, none⟩, by rw [stv_da ht hd], .inr ⟨hz', pb, rfl, h1, h2, h3, h4, h5⟩, hbl⟩
        | false =>
          refine (status_d1n b sn trust total daily used W E y m d an y' m' d' c w hst hb ht hd hz' ha).mono ?_
          rintro e w' ⟨pb, rfl, h1, h2, h3, h4, h5, hbl⟩
          exact ⟨some ⟨pb, 0, none⟩, by rw [stv_dn ht hd], .inr ⟨hz', pb, rfl, h1, h2, h3, h4, h5⟩, hbl⟩
      · refine (status_u1 b sn trust total daily used W E y m d an y' m' d' c w hst hb ht hd hz').mono ?_
        rintro e w' ⟨pb, rfl, h1, h2, h3, h4, h5, hbl⟩
        exact ⟨some ⟨pb, 0, none⟩, by rw [stv_u ht hd], .inr ⟨hz', pb, rfl, h1, h2, h3, h4, h5⟩, hbl⟩

theorem fits_any (lo : Nat) (p : Option Addr) (sn trust : ByteArray) (total daily used W E y m d an rn y' m' d' : Int) (w : World) (hp : RepAt lo w p W E) (hrn : (rn == 0) = (W == 0 && E == 0)) (hfr : Fair total used) :
    Calls Try.prog 11 #[stv sn trust total daily used an (aft y' m' d' y m d) p,
       .string sn, .int .i64 total, .int .i64 daily, .string trust, .int .i64 used, .agg #[.int .i64 y, .int .i64 m, .int .i64 d], .int .i64 an, .int .i64 rn, .agg #[.int .u64 W, .int .i64 E, .pointer none], .agg #[.int .i64 y', .int .i64 m', .int .i64 d']] w fun e w' =>
      e = .returned (.bool true) ∧ Below w.heap.size w w' := by
  rcases hp with ⟨rfl, rfl, rfl⟩ | ⟨hz, pb, rfl, _, hpb, c0, c1, c2⟩
  · obtain rfl : rn = 0 := by simpa using hrn
    by_cases ht : 0 < total
    · rw [stv_c ht]
      by_cases hu : used < total
      · have e : maxz (total - used) = total - used := by unfold maxz; rw [if_pos (by omega)]
        rw [e]
        exact fits_cl0 sn trust total daily used y m d an y' m' d' w ht hu (hfr ht).2
      · have e : maxz (total - used) = 0 := by unfold maxz; rw [if_neg (by omega)]
        rw [e]
        exact fits_cg0 sn trust total daily used y m d an y' m' d' w ht hu
    · by_cases hd : 0 < daily
      · cases ha : aft y' m' d' y m d with
        | true => rw [stv_da ht hd]; exact fits_da0 sn trust total daily used y m d an y' m' d' w ht hd ha
        | false => rw [stv_dn ht hd]; exact fits_dn0 sn trust total daily used y m d an y' m' d' w ht hd ha
      · rw [stv_u ht hd]; exact fits_u0 sn trust total daily used y m d an y' m' d' w ht hd
  · have hrn' : (rn == 0) = false := hrn.trans hz
    by_cases ht : 0 < total
    · rw [stv_c ht]
      by_cases hu : used < total
      · have e : maxz (total - used) = total - used := by unfold maxz; rw [if_pos (by omega)]
        rw [e]
        exact fits_cl1 pb sn trust total daily used W E y m d an rn y' m' d' w ht hu (hfr ht).2 hrn' hpb c0 c1 c2
      · have e : maxz (total - used) = 0 := by unfold maxz; rw [if_neg (by omega)]
        rw [e]
        exact fits_cg1 pb sn trust total daily used W E y m d an rn y' m' d' w ht hu hrn' hpb c0 c1 c2
    · by_cases hd : 0 < daily
      · cases ha : aft y' m' d' y m d with
        | true => rw [stv_da ht hd]; exact fits_da1 pb sn trust total daily used W E y m d an rn y' m' d' w ht hd ha hrn' hpb c0 c1 c2
        | false => rw [stv_dn ht hd]; exact fits_dn1 pb sn trust total daily used W E y m d an rn y' m' d' w ht hd ha hrn' hpb c0 c1 c2
      · rw [stv_u ht hd]; exact fits_u1 pb sn trust total daily used W E y m d an rn y' m' d' w ht hd hrn' hpb c0 c1 c2

theorem RepAt.below {lo : Nat} {w w' : World} {p : Option Addr} {W E : Int} (h : RepAt lo w p W E) (hb : Below w.heap.size w w') : RepAt lo w' p W E := by
  rcases h with h | ⟨hz, pb, hp, hlo, hpb, c0, c1, c2⟩
  · exact .inl h
  · refine .inr ⟨hz, pb, hp, hlo, Nat.lt_of_lt_of_le hpb hb.size, ?_, ?_, ?_⟩
    · rw [hb.cell (p := ⟨pb, 0, none⟩) hpb]; exact c0
    · rw [hb.cell (p := ⟨pb, 1, none⟩) hpb]; exact c1
    · rw [hb.cell (p := ⟨pb, 2, none⟩) hpb]; exact c2

theorem RepAt.setCell {lo : Nat} {w : World} {p : Option Addr} {W E : Int} (h : RepAt lo w p W E) (a : Addr) (v : Value) (ha : a.block < lo) : RepAt lo (w.setCell a v) p W E := by
  rcases h with h | ⟨hz, pb, hp, hlo, hpb, c0, c1, c2⟩
  · exact .inl h
  · refine .inr ⟨hz, pb, hp, hlo, by simpa using hpb, ?_, ?_, ?_⟩
    · rw [World.cell?_setCell_far _ _ _ _ (by show a.block ≠ pb; omega)]; exact c0
    · rw [World.cell?_setCell_far _ _ _ _ (by show a.block ≠ pb; omega)]; exact c1
    · rw [World.cell?_setCell_far _ _ _ _ (by show a.block ≠ pb; omega)]; exact c2
theorem RepAt.lower {lo lo' : Nat} {w : World} {p : Option Addr} {W E : Int} (h : RepAt lo w p W E) (hl : lo' ≤ lo) : RepAt lo' w p W E := by
  rcases h with h | ⟨hz, pb, hp, hlo, hpb, c0, c1, c2⟩
  · exact .inl h
  · exact .inr ⟨hz, pb, hp, by omega, hpb, c0, c1, c2⟩

set_option maxHeartbeats 1000000 in
/-- client.ZZstatus. -/
theorem zst_any (b : Nat) (sn trust : ByteArray) (total daily used W E y m d an y' m' d' : Int) (c : Bool) (w : World) (hst : StAt w b sn trust total daily used W E y m d an c) (hb : b < w.heap.size) (hfr : Fair total used) :
    Calls Try.prog 10 #[.pointer (some ⟨b, 0, none⟩), .agg #[.int .i64 y', .int .i64 m', .int .i64 d']] w fun e w' =>
      ∃ p, e = .returned (stv sn trust total daily used an (aft y' m' d' y m d) p) ∧ RepAt w.heap.size w' p W E ∧ Below w.heap.size w w' := by
  go_enter Try.func10, Try.ntmps10
  go_wp2_with fail
  refine (status_any b sn trust total daily used W E y m d an y' m' d' c _ (hst.below (B := w.heap.size) (by go_grown) hb) (by simp; omega) hfr).mono ?_
  rintro e w1 ⟨p, rfl, hp, hbl⟩
  obtain ⟨hc, hf⟩ := bcell hbl
  have hz : w.heap.size + 1 < w1.heap.size := by have := hbl.size; simp at this; omega
  have hbw : Below w.heap.size w w1 := Below.trans (by go_grown) (hbl.mono (by simp; omega))
  simp only [World.size_alloc] at hp
  clear hbl hst
  go_wp2
  refine bodyPost_ret (v := stv sn trust total daily used an (aft y' m' d' y m d) p) (by simp [results, Try.results10, go_sem, hc]) rfl ⟨p, rfl, ?_, by go_grown⟩
  refine RepAt.lower (lo := w.heap.size + 1 + 1) ?_ (by omega)
  repeat (first | (with_reducible exact hp) | with_reducible refine RepAt.setCell ?_ _ _ (by simp))
end Go.Proofs.Qxb6613788a
