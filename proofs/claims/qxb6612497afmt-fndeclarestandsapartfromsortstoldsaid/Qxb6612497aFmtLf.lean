import Derived.Test.Qxb6612497aFmtMp
import Derived.RowKit3
import Derived.Handy
import Derived.Deep.RegionHeld3
import Derived.BigQuiet
import Derived.Deep.QuietTactic
import Derived.Deep.DeepCutAuto
namespace Go.Proofs.Qxb6612497aFmt
open Go.RowKit

/-- A slice value that reads as these strings. -/
def StrsAt (w : World) (v : Value) (S : List ByteArray) : Prop :=
  ∃ a cap, v = .slice a S.length cap ∧ ∀ j, j < S.length → ∃ b o, a = some ⟨b, o, none⟩ ∧ w.cell? ⟨b, o + j, none⟩ = some (.string (S.getD j ByteArray.empty))
theorem cell_keep {w w' : World} {B : Nat} (hb : Below B w w') (hB : w.heap.size ≤ B) {a : Addr} {v : Value} (h : w.cell? a = some v) : w'.cell? a = some v :=
  (hb.cell (Nat.lt_of_lt_of_le (World.block_lt_of_cell? w a h) hB)).trans h
theorem StrsAt.keep {w w' : World} {v : Value} {S : List ByteArray} (h : StrsAt w v S) (hb : Below w.heap.size w w') : StrsAt w' v S := by
  obtain ⟨a, cap, rfl, hc⟩ := h
  refine ⟨a, cap, rfl, fun j hj => ?_⟩
  obtain ⟨b, o, rfl, h1⟩ := hc j hj
  exact ⟨b, o, rfl, cell_keep hb (Nat.le_refl _) h1⟩

set_option maxHeartbeats 1000000 in
theorem bytes4 (v : Value) (S : List ByteArray) (l c : Int) (w : World) (h1 : S.length ≤ maxLen) (h2 : ∀ i, i < S.length → (S.getD i ByteArray.empty).size ≤ maxLen) (hr : StrsAt w v S) :
    Calls Tryf.prog 4 #[v, .int .i64 l, .int .i64 c] w fun e w' => (e = .returned (.bool false) ∨ e = .returned (.bool true)) ∧ w = w' := by
  obtain ⟨a, cp, rfl, hc⟩ := hr
  have HC : Hid (∀ j, j < S.length → ∃ b o, a = some ⟨b, o, none⟩ ∧ w.cell? ⟨b, o + j, none⟩ = some (.string (S.getD j ByteArray.empty))) := hc
  have H2 : Hid (∀ i, i < S.length → (S.getD i ByteArray.empty).size ≤ maxLen) := h2
  clear hc h2
  unfold maxLen at h1
  by_cases c1 : 1048576 < S.length
  · go_enter Tryf.func4, Tryf.ntmps4
    go_wp2
    go_ret
    exact ⟨.inl rfl, rfl⟩
  have d1 : decide ((1048576 : Int) < (S.length : Int)) = false := by rw [decide_eq_false_iff_not]; omega
  go_enter Tryf.func4, Tryf.ntmps4
  go_wp2
  go_loop [7, 8] (fun z i => ∃ (t : Nat) (q : Int), t ≤ S.length ∧ i = .int .i64 t ∧ z = .int .i64 q ∧ 0 ≤ q ∧ q ≤ 1048576) (fun _ i => S.length - (intOf i).toNat)
  case atStart => exact ⟨0, (S.length : Int), Nat.zero_le _, rfl, rfl, by omega, by omega⟩
  case round =>
    obtain ⟨t, q, ht, rfl, rfl, hq0, hq1⟩ := hrel
    by_cases hlt : t < S.length
    · obtain ⟨b, o, rfl, hc1⟩ := HC.out t hlt
      have h3 := H2.out t hlt
      unfold maxLen at h3
      generalize S.getD t ByteArray.empty = s at *
      obtain ⟨n, hn⟩ : ∃ n, s.size = n := ⟨_, rfl⟩
      rw [hn] at h3
      have j1 : (t : Int) < (S.length : Int) := by omega
      by_cases c4 : 1048576 < n
      · go_wp2
        go_ret
        exact ⟨.inl rfl, rfl⟩
      · by_cases c5 : 1048576 < q + n
        · go_wp2
          go_ret
          exact ⟨.inl rfl, rfl⟩
        · go_wp2
          go_round
          case rel => exact ⟨t + 1, q + n, by omega, by go_num, rfl, by omega, by omega⟩
          case measure => simp [intOf]; omega
    · go_wp2
      go_ret
      exact ⟨.inr rfl, rfl⟩

set_option maxHeartbeats 1000000 in
theorem size5 (v : Value) (S : List ByteArray) (w : World) (h1 : S.length ≤ 65536) (h2 : ∀ i, i < S.length → (S.getD i ByteArray.empty).size ≤ maxLen) (hr : StrsAt w v S) :
    Calls Tryf.prog 5 #[v] w fun e w' => (∃ z b, e = .returned (.tuple #[.int .i64 z, .bool b])) ∧ w = w' := by
  obtain ⟨a, cp, rfl, hc⟩ := hr
  have HC : Hid (∀ j, j < S.length → ∃ b o, a = some ⟨b, o, none⟩ ∧ w.cell? ⟨b, o + j, none⟩ = some (.string (S.getD j ByteArray.empty))) := hc
  have H2 : Hid (∀ i, i < S.length → (S.getD i ByteArray.empty).size ≤ maxLen) := h2
  clear hc h2
  have d1 : decide ((65536 : Int) < (S.length : Int)) = false := by rw [decide_eq_false_iff_not]; omega
  go_enter Tryf.func5, Tryf.ntmps5
  go_wp2
  go_loop [4, 5] (fun z i => ∃ (t : Nat) (q : Int), t ≤ S.length ∧ i = .int .i64 t ∧ z = .int .i64 q ∧ 0 ≤ q ∧ q ≤ 1048576) (fun _ i => S.length - (intOf i).toNat)
  case atStart => exact ⟨0, 16 * (S.length : Int), Nat.zero_le _, rfl, rfl, by omega, by omega⟩
  case round =>
    obtain ⟨t, q, ht, rfl, rfl, hq0, hq1⟩ := hrel
    by_cases hlt : t < S.length
    · obtain ⟨b, o, rfl, hc1⟩ := HC.out t hlt
      have h3 := H2.out t hlt
      unfold maxLen at h3
      generalize S.getD t ByteArray.empty = s at *
      obtain ⟨n, hn⟩ : ∃ n, s.size = n := ⟨_, rfl⟩
      rw [hn] at h3
      have j1 : (t : Int) < (S.length : Int) := by omega
      by_cases c4 : 1048576 < n
      · go_wp2
        go_ret2
        exact ⟨⟨_, .inl rfl⟩, rfl⟩
      · by_cases c5 : 1048576 < q + n
        · go_wp2
          go_ret2
          exact ⟨⟨_, .inl rfl⟩, rfl⟩
        · go_wp2
          go_round
          case rel => exact ⟨t + 1, q + n, by omega, by go_num, rfl, by omega, by omega⟩
          case measure => simp [intOf]; omega
    · go_wp2
      go_ret2
      exact ⟨⟨_, .inr rfl⟩, rfl⟩
end Go.Proofs.Qxb6612497aFmt
