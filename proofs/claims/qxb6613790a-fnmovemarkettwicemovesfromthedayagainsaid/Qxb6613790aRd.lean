import Derived.Test.Qxb6613790aMk
namespace Go.Proofs.Qxb6613790a
open Go.RowKit

/-- A slice value that reads as these numbers. -/
def IntsAt (w : World) (v : Value) (zs : List Int) : Prop :=
  ∃ a cap, v = .slice a zs.length cap ∧ ∀ j, j < zs.length → ∃ b o, a = some ⟨b, o, none⟩ ∧ w.cell? ⟨b, o + j, none⟩ = some (.int .i64 (zs.getD j 0))
/-- A slice value that reads as these rows of numbers. -/
def RowsAt (w : World) (v : Value) (rows : List (List Int)) : Prop :=
  ∃ a cap, v = .slice a rows.length cap ∧ ∀ i, i < rows.length → ∃ b o u, a = some ⟨b, o, none⟩ ∧ w.cell? ⟨b, o + i, none⟩ = some u ∧ IntsAt w u (rows.getD i [])

theorem cell_keep {w w' : World} {B : Nat} (hb : Below B w w') (hB : w.heap.size ≤ B) {a : Addr} {v : Value} (h : w.cell? a = some v) : w'.cell? a = some v :=
  (hb.cell (Nat.lt_of_lt_of_le (World.block_lt_of_cell? w a h) hB)).trans h
theorem IntsAt.keep {w w' : World} {v : Value} {zs : List Int} (h : IntsAt w v zs) (hb : Below w.heap.size w w') : IntsAt w' v zs := by
  obtain ⟨a, cap, rfl, hc⟩ := h
  refine ⟨a, cap, rfl, fun j hj => ?_⟩
  obtain ⟨b, o, rfl, h1⟩ := hc j hj
  exact ⟨b, o, rfl, cell_keep hb (Nat.le_refl _) h1⟩
theorem RowsAt.keep {w w' : World} {v : Value} {rows : List (List Int)} (h : RowsAt w v rows) (hb : Below w.heap.size w w') : RowsAt w' v rows := by
  obtain ⟨a, cap, rfl, hc⟩ := h
  refine ⟨a, cap, rfl, fun j hj => ?_⟩
  obtain ⟨b, o, u, rfl, h1, h2⟩ := hc j hj
  exact ⟨b, o, u, rfl, cell_keep hb (Nat.le_refl _) h1, h2.keep hb⟩

set_option maxHeartbeats 1000000 in
theorem bytes23 (x : Option Addr) (len cap : Nat) (v : Value) (rows : List (List Int)) (s1 s2 : Int) (w : World) (h1 : len ≤ maxLen) (h2 : rows.length ≤ maxLen) (h3 : ∀ i, i < rows.length → (rows.getD i []).length ≤ maxLen) (hr : RowsAt w v rows) :
    Calls Try.prog 23 #[.slice x len cap, v, .int .u64 s1, .int .u64 s2] w fun e w' => ∃ b, e = .returned (.bool b) ∧ w = w' := by
  obtain ⟨a, c, rfl, hc⟩ := hr
  have HC : Hid (∀ i, i < rows.length → ∃ b o u, a = some ⟨b, o, none⟩ ∧ w.cell? ⟨b, o + i, none⟩ = some u ∧ IntsAt w u (rows.getD i [])) := hc
  have H3 : Hid (∀ i, i < rows.length → (rows.getD i []).length ≤ maxLen) := h3
  clear hc h3
  unfold maxLen at h1 h2
  by_cases c1 : 1048576 < len
  · go_enter Try.func23, Try.ntmps23
    go_wp2
    go_ret
    exact ⟨_, rfl, rfl⟩
  by_cases c2 : 1048576 < rows.length
  · go_enter Try.func23, Try.ntmps23
    go_wp2
    go_ret
    exact ⟨_, rfl, rfl⟩
  by_cases c3 : 1048576 < len + rows.length
  · go_enter Try.func23, Try.ntmps23
    go_wp2
    go_ret
    exact ⟨_, rfl, rfl⟩
  have d1 : decide ((1048576 : Int) < (len : Int)) = false := by rw [decide_eq_false_iff_not]; omega
  have d2 : decide ((1048576 : Int) < (rows.length : Int)) = false := by rw [decide_eq_false_iff_not]; omega
  have d3 : decide ((1048576 : Int) < (len : Int) + (rows.length : Int)) = false := by rw [decide_eq_false_iff_not]; omega
  go_enter Try.func23, Try.ntmps23
  go_wp2
  go_loop [9, 10] (fun z i => ∃ (t : Nat) (q : Int), t ≤ rows.length ∧ i = .int .i64 t ∧ z = .int .i64 q ∧ 0 ≤ q ∧ q ≤ 1048576) (fun _ i => rows.length - (intOf i).toNat)
  case atStart => exact ⟨0, (len : Int) + (rows.length : Int), Nat.zero_le _, rfl, rfl, by omega, by omega⟩
  case round =>
    obtain ⟨t, q, ht, rfl, rfl, hq0, hq1⟩ := hrel
    by_cases hlt : t < rows.length
    · obtain ⟨b, o, u, rfl, hc1, hu⟩ := HC.out t hlt
      have h3 := H3.out t hlt
      obtain ⟨a', cap', rfl, -⟩ := hu
      unfold maxLen at h3
      generalize (rows.getD t []).length = l at *
      have j1 : (t : Int) < (rows.length : Int) := by omega
      by_cases c4 : 1048576 < l
      · go_wp2
        go_ret
        exact ⟨.inl rfl, rfl⟩
      · by_cases c5 : 1048576 < q + l
        · go_wp2
          go_ret
          exact ⟨.inl rfl, rfl⟩
        · go_wp2
          go_round
          case rel => exact ⟨t + 1, q + l, by omega, by go_num, rfl, by omega, by omega⟩
          case measure => simp [intOf]; omega
    · go_wp2
      go_ret
      exact ⟨.inr rfl, rfl⟩
end Go.Proofs.Qxb6613790a
namespace Go.Proofs.Qxb6613790a
open Go.RowKit

/-- One price fits. -/
def CellOk (p z : Int) : Prop := 1 ≤ z ∧ z ≤ 461168601842738790 ∧ z % stepZ p = 0
/-- One kind fits. -/
def KindOk (P : List Int) (R : List (List Int)) (i : Nat) : Prop := 0 ≤ P.getD i 0 ∧ P.getD i 0 ≤ 4 ∧ ∀ j, j < (R.getD i []).length → CellOk (P.getD i 0) ((R.getD i []).getD j 0)
/-- The market's domain. -/
def Dom (P : List Int) (R : List (List Int)) : Prop := P.length = R.length ∧ ∀ i, i < R.length → KindOk P R i

set_option maxHeartbeats 2000000 in
theorem domain_any (pv rv : Value) (P : List Int) (R : List (List Int)) (w : World) (hP : IntsAt w pv P) (hR : RowsAt w rv R) (h1 : P.length ≤ 65536) (h3 : ∀ i, i < R.length → (R.getD i []).length ≤ maxLen) :
    Calls Try.prog 16 #[pv, rv] w fun e w' => (e = .returned (.bool false) ∨ (e = .returned (.bool true) ∧ Dom P R)) ∧ w = w' := by
  obtain ⟨pa, pc, rfl, hpc⟩ := hP
  obtain ⟨ra, rc, rfl, hrc⟩ := hR
  have HP : Hid (∀ j, j < P.length → ∃ b o, pa = some ⟨b, o, none⟩ ∧ w.cell? ⟨b, o + j, none⟩ = some (.int .i64 (P.getD j 0))) := hpc
  have HR : Hid (∀ i, i < R.length → ∃ b o u, ra = some ⟨b, o, none⟩ ∧ w.cell? ⟨b, o + i, none⟩ = some u ∧ IntsAt w u (R.getD i [])) := hrc
  have H3 : Hid (∀ i, i < R.length → (R.getD i []).length ≤ maxLen) := h3
  clear hpc hrc h3
  by_cases hl : P.length = R.length
  · have HL : Hid (P.length = R.length) := hl
    have hb : ((P.length : Int) != (R.length : Int)) = false := by simp [hl]
    have l1 : P.length ≤ R.length := by omega
    have l2 : R.length ≤ P.length := by omega
    clear hl
    go_enter Try.func16, Try.ntmps16
    go_wp2
    go_loop [5] (fun i => ∃ t : Nat, t ≤ P.length ∧ i = .int .i64 t ∧ Hid (∀ i, i < t → KindOk P R i)) (fun i => P.length - (intOf i).toNat)
    case atStart => exact ⟨0, Nat.zero_le _, rfl, fun i hi => absurd hi (Nat.not_lt_zero _)⟩
    case round =>
      obtain ⟨t, ht, rfl, HK⟩ := hrel
      by_cases hlt : t < P.length
      · obtain ⟨b, o, rfl, hc1⟩ := HP.out t hlt
        obtain ⟨b2, o2, u, rfl, hc2, hu⟩ := HR.out t (by omega)
        obtain ⟨a', cap', rfl, hin⟩ := hu
        have HI : Hid (∀ j, j < (R.getD t []).length → ∃ b o, a' = some ⟨b, o, none⟩ ∧ w.cell? ⟨b, o + j, none⟩ = some (.int .i64 ((R.getD t []).getD j 0))) := hin
        have h3 := H3.out t (by omega)
        unfold maxLen at h3
        clear hin
        have j1 : (t : Int) < (P.length : Int) := by omega
        have j2 : (t : Int) < (R.length : Int) := by omega
        have HPe : Hid (P.getD t 0 = P.getD t 0) := rfl
        obtain ⟨p, hp⟩ : ∃ p, P.getD t 0 = p := ⟨_, rfl⟩
        rw [hp] at hc1
        have Hp : Hid (P.getD t 0 = p) := hp
        obtain ⟨l, hl⟩ : ∃ l, (R.getD t []).length = l := ⟨_, rfl⟩
        rw [hl] at hc2 h3
        have Hl : Hid ((R.getD t []).length = l) := hl
        clear hp hl HPe
        by_cases c1 : p < 0
        · go_wp2
          go_ret
          exact ⟨.inl rfl, rfl⟩
        by_cases c2 : 4 < p
        · go_wp2
          go_ret
          exact ⟨.inl rfl, rfl⟩
        have d1 : decide (p < 0) = false := by simp; omega
        have d2 : decide (4 < p) = false := by simp; omega
        obtain ⟨s1, s2⟩ := stepZ_bd p
        go_wp2_with (go_at_call 21; refine (stepOf_any _ _).mono ?_; rintro e w' ⟨rfl, hw⟩; subst hw)
        go_loop [7] (fun j => ∃ s : Nat, s ≤ l ∧ j = .int .i64 s ∧ Hid (∀ j, j < s → CellOk p ((R.getD t []).getD j 0))) (fun j => l - (intOf j).toNat)
        case atStart => exact ⟨0, Nat.zero_le _, rfl, fun i hi => absurd hi (Nat.not_lt_zero _)⟩
        case round =>
          obtain ⟨s, hs, rfl, HC⟩ := hrel
          by_cases hsl : s < l
          · obtain ⟨b3, o3, rfl, hc3⟩ := HI.out s (by rw [Hl.out]; exact hsl)
            obtain ⟨z, hz⟩ : ∃ z, (R.getD t []).getD s 0 = z := ⟨_, rfl⟩
            rw [hz] at hc3
            have Hz : Hid ((R.getD t []).getD s 0 = z) := hz
            clear hz
            have j3 : (s : Int) < (l : Int) := by omega
            by_cases e1 : z < 1
            · go_wp2
              go_ret
              exact ⟨.inl rfl, rfl⟩
            by_cases e2 : 461168601842738790 < z
            · go_wp2
              go_ret
              exact ⟨.inl rfl, rfl⟩
            obtain ⟨m, hm⟩ : ∃ m, z % stepZ p = m := ⟨_, rfl⟩
            have e3 : z.tmod (stepZ p) = m := by rw [Int.tmod_eq_emod_of_nonneg (by omega)]; exact hm
            have n1 : (stepZ p == 0) = false := by simp; omega
            have n2 : ¬ stepZ p = 0 := by omega
            have d3 : decide (z < 1) = false := by simp; omega
            have d4 : decide (461168601842738790 < z) = false := by rw [decide_eq_false_iff_not]; exact e2
            cases hm0 : (m != 0) with
            | true =>
              go_wp2
              go_ret
              exact ⟨.inl rfl, rfl⟩
            | false =>
              have Hm : Hid (z % stepZ p = 0) := hm.trans (by simpa using hm0)
              go_wp2
              go_round
              case rel =>
                refine ⟨s + 1, by omega, by go_num, fun j hj => ?_⟩
                by_cases hjs : j < s
                · exact HC.out j hjs
                · obtain rfl : j = s := by omega
                  rw [Hz.out]
                  exact ⟨by omega, by omega, Hm.out⟩
              case measure => simp [intOf]; omega
          · go_wp2
            go_round
            case rel =>
              refine ⟨t + 1, by omega, by go_num, fun i hi => ?_⟩
              by_cases hit : i < t
              · exact HK.out i hit
              · obtain rfl : i = t := by omega
                refine ⟨by rw [Hp.out]; omega, by rw [Hp.out]; omega, fun j hj => ?_⟩
                rw [Hp.out]
                exact HC.out j (by rw [Hl.out] at hj; omega)
            case measure => simp [intOf]; omega
      · go_wp2
        go_ret
        exact ⟨.inr ⟨rfl, HL.out, fun i hi => HK.out i (by omega)⟩, rfl⟩
  · have hb : ((P.length : Int) != (R.length : Int)) = true := by rw [bne_iff_ne]; omega
    go_enter Try.func16, Try.ntmps16
    go_wp2
    go_ret
    exact ⟨.inl rfl, rfl⟩
end Go.Proofs.Qxb6613790a
