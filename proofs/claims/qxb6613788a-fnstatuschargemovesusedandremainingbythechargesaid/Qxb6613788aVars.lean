import Derived.Test.Qxb6613788aSame
namespace Go.Proofs.Qxb6613788a
open Go.RowKit

set_option maxHeartbeats 1000000 in
theorem bytes5 (sn trust : ByteArray) (total daily used an rn y m d y' m' d' : Int) (w : World) (h1 : sn.size ≤ maxLen) (h2 : trust.size ≤ maxLen) :
    Calls Try.prog 5 #[.string sn, .int .i64 total, .int .i64 daily, .string trust, .int .i64 used, .agg #[.int .i64 y, .int .i64 m, .int .i64 d], .int .i64 an, .int .i64 rn, .agg #[.int .i64 y', .int .i64 m', .int .i64 d']] w fun e w' =>
      ∃ b, e = .returned (.bool b) ∧ w' = (w.alloc (.cells #[.int .i64 y, .int .i64 m, .int .i64 d] 23)).alloc (.cells #[.int .i64 y', .int .i64 m', .int .i64 d'] 23) := by
  unfold maxLen at h1 h2
  go_enter Try.func5, Try.ntmps5
  go_wp2
  all_goals (go_ret; exact ⟨_, rfl, rfl⟩)

set_option maxHeartbeats 1000000 in
theorem bytes13 (sn trust : ByteArray) (total daily used ch an rn y m d y' m' d' : Int) (w : World) (h1 : sn.size ≤ maxLen) (h2 : trust.size ≤ maxLen) :
    Calls Try.prog 13 #[.string sn, .int .i64 total, .int .i64 daily, .string trust, .int .i64 used, .int .i64 ch, .agg #[.int .i64 y, .int .i64 m, .int .i64 d], .int .i64 an, .int .i64 rn, .agg #[.int .i64 y', .int .i64 m', .int .i64 d']] w fun e w' =>
      ∃ b, e = .returned (.bool b) ∧ w' = (w.alloc (.cells #[.int .i64 y, .int .i64 m, .int .i64 d] 23)).alloc (.cells #[.int .i64 y', .int .i64 m', .int .i64 d'] 23) := by
  unfold maxLen at h1 h2
  go_enter Try.func13, Try.ntmps13
  go_wp2
  all_goals (go_ret; exact ⟨_, rfl, rfl⟩)

/-- What 'open_int' hands over of an int64. -/
theorem i64_of_wf {x : Int} (h : (Lit.int .i64 x).wf = true) : -9223372036854775808 ≤ x ∧ x ≤ 9223372036854775807 := by
  simp [Lit.wf, IntKind.min, IntKind.max, IntKind.signed, IntKind.bits] at h
  exact ⟨by omega, by omega⟩

/-- A date in a variable; a time; a count; a status. -/
def D3 (w : World) (n : Nat) (y m d : Int) : Prop := n < w.heap.size ∧ w.cell? ⟨n, 0, none⟩ = some (.int .i64 y) ∧ w.cell? ⟨n, 1, none⟩ = some (.int .i64 m) ∧ w.cell? ⟨n, 2, none⟩ = some (.int .i64 d)
def T3 (w : World) (n : Nat) (W E : Int) : Prop := n < w.heap.size ∧ w.cell? ⟨n, 0, none⟩ = some (.int .u64 W) ∧ w.cell? ⟨n, 1, none⟩ = some (.int .i64 E) ∧ w.cell? ⟨n, 2, none⟩ = some (.pointer none)
def C4 (w : World) (n : Nat) (y m d an : Int) : Prop := n < w.heap.size ∧ w.cell? ⟨n, 0, none⟩ = some (.int .i64 y) ∧ w.cell? ⟨n, 1, none⟩ = some (.int .i64 m) ∧ w.cell? ⟨n, 2, none⟩ = some (.int .i64 d) ∧ w.cell? ⟨n, 3, none⟩ = some (.int .i64 an)
def S10 (w : World) (n : Nat) (sn trust : ByteArray) (total daily used an : Int) (late : Bool) (p : Option Addr) : Prop :=
  n < w.heap.size ∧ w.cell? ⟨n, 0, none⟩ = some (.string sn) ∧ w.cell? ⟨n, 1, none⟩ = some (.int .i64 (gMode total daily)) ∧ w.cell? ⟨n, 2, none⟩ = some (.bool (gCM total)) ∧ w.cell? ⟨n, 3, none⟩ = some (.int .i64 (gTot total)) ∧ w.cell? ⟨n, 4, none⟩ = some (.int .i64 (gUsed total used))
    ∧ w.cell? ⟨n, 5, none⟩ = some (.int .i64 (gRem total used)) ∧ w.cell? ⟨n, 6, none⟩ = some (.int .i64 (gDaily total daily)) ∧ w.cell? ⟨n, 7, none⟩ = some (.int .i64 (gToday total daily an late)) ∧ w.cell? ⟨n, 8, none⟩ = some (.string trust) ∧ w.cell? ⟨n, 9, none⟩ = some (.pointer p)

section
variable {w w' : World} {n : Nat}
theorem D3.below {y m d : Int} (h : D3 w n y m d) (hb : Below w.heap.size w w') : D3 w' n y m d := by
  obtain ⟨h0, h1, h2, h3⟩ := h
  exact ⟨Nat.lt_of_lt_of_le h0 hb.size, (hb.cell (p := ⟨n, 0, none⟩) h0).trans h1, (hb.cell (p := ⟨n, 1, none⟩) h0).trans h2, (hb.cell (p := ⟨n, 2, none⟩) h0).trans h3⟩
theorem T3.below {W E : Int} (h : T3 w n W E) (hb : Below w.heap.size w w') : T3 w' n W E := by
  obtain ⟨h0, h1, h2, h3⟩ := h
  exact ⟨Nat.lt_of_lt_of_le h0 hb.size, (hb.cell (p := ⟨n, 0, none⟩) h0).trans h1, (hb.cell (p := ⟨n, 1, none⟩) h0).trans h2, (hb.cell (p := ⟨n, 2, none⟩) h0).trans h3⟩
theorem C4.below {y m d an : Int} (h : C4 w n y m d an) (hb : Below w.heap.size w w') : C4 w' n y m d an := by
  obtain ⟨h0, h1, h2, h3, h4⟩ := h
  exact ⟨Nat.lt_of_lt_of_le h0 hb.size, (hb.cell (p := ⟨n, 0, none⟩) h0).trans h1, (hb.cell (p := ⟨n, 1, none⟩) h0).trans h2, (hb.cell (p := ⟨n, 2, none⟩) h0).trans h3, (hb.cell (p := ⟨n, 3, none⟩) h0).trans h4⟩
theorem S10.below {sn trust : ByteArray} {total daily used an : Int} {late : Bool} {p : Option Addr} (h : S10 w n sn trust total daily used an late p) (hb : Below w.heap.size w w') : S10 w' n sn trust total daily used an late p := by
  obtain ⟨h0, k0, k1, k2, k3, k4, k5, k6, k7, k8, k9⟩ := h
  exact ⟨Nat.lt_of_lt_of_le h0 hb.size, (hb.cell (p := ⟨n, 0, none⟩) h0).trans k0, (hb.cell (p := ⟨n, 1, none⟩) h0).trans k1, (hb.cell (p := ⟨n, 2, none⟩) h0).trans k2, (hb.cell (p := ⟨n, 3, none⟩) h0).trans k3, (hb.cell (p := ⟨n, 4, none⟩) h0).trans k4,
    (hb.cell (p := ⟨n, 5, none⟩) h0).trans k5, (hb.cell (p := ⟨n, 6, none⟩) h0).trans k6, (hb.cell (p := ⟨n, 7, none⟩) h0).trans k7, (hb.cell (p := ⟨n, 8, none⟩) h0).trans k8, (hb.cell (p := ⟨n, 9, none⟩) h0).trans k9⟩
end

/-- time.Time{}.Add: some time, the zero time just where nothing is added. -/
theorem add_some (d : Int) (w : World) (h1 : -9223372036854775808 ≤ d) (h2 : d ≤ 9223372036854775807) :
    Calls Try.prog 6 #[.agg #[.int .u64 0, .int .i64 0, .pointer none], .int .i64 d] w fun e w' => ∃ W E : Int, e = .returned (.agg #[.int .u64 W, .int .i64 E, .pointer none]) ∧ (d == 0) = (W == 0 && E == 0) ∧ Below w.heap.size w w' := by
  refine (add_any d w h1 h2).mono ?_
  rintro e w' ⟨rfl, hb⟩
  refine ⟨_, _, rfl, ?_, hb⟩
  rw [Bool.eq_iff_iff]
  simp
  omega


/-- zzSameButToday. -/
theorem same_any (lo : Nat) (p q : Option Addr) (sn trust : ByteArray) (mo t u r dl t1 t2 W E : Int) (cm : Bool) (w : World) (hp : RepAt lo w p W E) (hq : RepAt lo w q W E) (h : t2 = t1 ∨ t2 = 0) :
    Calls Try.prog 12 #[.agg #[.string sn, .int .i64 mo, .bool cm, .int .i64 t, .int .i64 u, .int .i64 r, .int .i64 dl, .int .i64 t1, .string trust, .pointer p],
        .agg #[.string sn, .int .i64 mo, .bool cm, .int .i64 t, .int .i64 u, .int .i64 r, .int .i64 dl, .int .i64 t2, .string trust, .pointer q]] w fun e w' =>
      e = .returned (.bool true) ∧ Below w.heap.size w w' := by
  rcases hp with ⟨rfl, rfl, rfl⟩ | ⟨hz, pb, rfl, _, hpb, c0, c1, c2⟩
  · rcases hq with ⟨_, _, rfl⟩ | ⟨hz', _⟩
    · exact same_0 sn trust mo t u r dl t1 t2 cm w h
    · exact absurd hz' (by decide)
  · rcases hq with ⟨rfl, rfl, _⟩ | ⟨_, qb, rfl, _, hqb, k0, k1, k2⟩
    · exact absurd hz (by decide)
    · exact same_1 pb qb sn trust mo t u r dl t1 t2 W E cm w h hpb c0 c1 c2 hqb k0 k1 k2
theorem today_or (total daily an y m d y' m' d' : Int) : gToday total daily an (aft y' m' d' y m d) = gToday total daily an (aft y m d y m d) ∨ gToday total daily an (aft y' m' d' y m d) = 0 := by
  have e : aft y m d y m d = false := by simp [aft]
  rw [e]
  unfold gToday
  cases aft y' m' d' y m d <;> simp

set_option maxHeartbeats 400000 in
/-- zzPayload, with the world behind it. -/
theorem payload_w (sn trust : ByteArray) (total daily : Int) (w : World) :
    Calls Try.prog 9 #[.string sn, .int .i64 total, .int .i64 daily, .string trust] w fun e w' => e = .returned (.agg #[.string sn, .int .i64 total, .int .i64 daily, .string trust, .int .i64 0, .bool (decide (0 < total)), .int .u64 0, .int .i64 0, .pointer none]) ∧
      w' = w.alloc (.cells #[.string sn, .int .i64 total, .int .i64 daily, .string trust, .int .i64 0, .bool (decide (0 < total)), .int .u64 0, .int .i64 0, .pointer none] 46) := by
  go_enter Try.func9, Try.ntmps9
  go_wp2
  go_returns
  exact ⟨rfl, rfl⟩
end Go.Proofs.Qxb6613788a
