/-
  THE ROW's STEP for 'Rows.FnMoveMarketTwiceMovesFromTheDayAgainSaid': the tool's frame turned to a slice of ints and a slice of slices; the walk lies in Qxb6613790aLaw6.
-/
import Derived.Test.Qxb6613790aLaw6
import Derived.WalkKit
import Derived.ProofKit
import Derived.OpenShut
import Derived.ShutString
import Derived.ChangeOld
import Derived.Below
import Derived.DataReads
import Derived.Deep.Slices
namespace Go.Proofs.Qxb6613790a.fnMoveMarketTwiceMovesFromTheDayAgain
open Go.ChangeShapes Go.WideShapes Go.ChangeAt Go.RowKit
open Go.ChangeMaps (open_string shut_string)
set_option linter.unusedVariables false

theorem own : ownKnob Try.prog.godebug = none := by kernel_rfl
theorem laidOut : laidOutB Try.prog = true := by kernel_rfl

theorem add_of {a : Addr} (h : a.spot = none) (j : Nat) : a.add j = ⟨a.block, a.off + j, none⟩ := by
  obtain ⟨b, o, s⟩ := a
  obtain rfl : s = none := h
  unfold Addr.add
  split
  · subst j; rfl
  · rfl
theorem ints_of {w : World} {x : Addr} {cap : Nat} {zs : List Int} (hc : ∀ i, i < zs.length → w.cell? (x.add i) = some (.int .i64 (zs.getD i 0))) : IntsAt w (.slice (some x) zs.length cap) zs := by
  refine ⟨_, _, rfl, fun j hj => ?_⟩
  have h0 := hc 0 (by omega)
  have hs : x.spot = none := World.cell?_spot (w := w) (a := x) h0
  have := hc j hj
  rw [add_of hs] at this
  refine ⟨x.block, x.off, ?_, this⟩
  obtain ⟨b, o, s⟩ := x
  obtain rfl : s = none := hs
  rfl
theorem rows_of {w : World} {x : Addr} {len cap : Nat} {V : Nat → Value} {Z : Nat → List Int} (hc : ∀ i, i < len → w.cell? (x.add i) = some (V i)) (hi : ∀ i, i < len → IntsAt w (V i) (Z i)) : RowsAt w (.slice (some x) len cap) ((List.range len).map Z) := by
  refine ⟨_, _, by rw [List.length_map, List.length_range], fun j hj => ?_⟩
  rw [List.length_map, List.length_range] at hj
  have h0 := hc 0 (by omega)
  have hs : x.spot = none := World.cell?_spot (w := w) (a := x) h0
  have := hc j hj
  rw [add_of hs] at this
  refine ⟨x.block, x.off, V j, ?_, this, ?_⟩
  · obtain ⟨b, o, s⟩ := x
    obtain rfl : s = none := hs
    rfl
  · have e : ((List.range len).map Z).getD j [] = Z j := by simp [List.getD_eq_getElem?_getD, hj]
    rw [e]; exact hi j hj

/-! ### THE ROW's STEP -/
set_option maxRecDepth 100000 in
theorem lifted (os : Os) (started : os.Started) (H : Type) (enc : TypeId × Value → H) :
    ReturnsInHanded {} Try.checked os 6 .any (Rows.fnMoveMarketTwiceMovesFromTheDayAgainSpec.pre6 enc Try.prog Try.f6 Rows.fnMoveMarketTwiceMovesFromTheDayAgainRow.domain false) (Rows.fnMoveMarketTwiceMovesFromTheDayAgainSpec.post enc Try.prog Try.f6 false true false false) := by
  refine returnsInHanded_of_change (C := Try.checked) own started (by kernel_rfl) Try.func6
    (ChangeSpec.witness6 (enc := enc) (C := Try.checked) false ⟨#[], #[.slice none 0 0, .slice none 0 0, .int .u64 0, .int .u64 0], []⟩ 8 (by kernel_rfl) (by kernel_rfl) (by kernel_rfl) (by kernel_rfl)) ?_
  intro W base args ds gs before hval0 hW hcnd _
  have hval : ∀ (j : Nat) t v, Try.f6.params[j]? = some t → args[j]? = some v → Value.okWide Try.prog W .any base t v := hval0
  have hW' := hW
  obtain ⟨p, q, hA0, hV, rfl, hfz, hnd⟩ := hW
  have hA : DataW.TrodAll enc Try.prog W 0 (fun _ => true) true Try.f6.params.toList args.toList ds p := hA0
  rw [Try.params6] at hA hval
  obtain ⟨v0, vs0, d0, ds0, p0, q0, hargs, rfl, rfl, h0, r0⟩ := trodAll_cons hA
  obtain ⟨v1, vs1, d1, ds1, p1, q1, rfl, rfl, rfl, h1, r1⟩ := trodAll_cons r0
  obtain ⟨v2, vs2, d2, ds2, p2, q2, rfl, rfl, rfl, h2, r2⟩ := trodAll_cons r1
  obtain ⟨v3, vs3, d3, ds3, p3, q3, rfl, rfl, rfl, h3, r3⟩ := trodAll_cons r2
  obtain ⟨rfl, rfl, rfl⟩ := trodAll_nil r3
  obtain rfl : args = #[v0, v1, v2, v3] := by cases args; simp_all
  obtain ⟨rfl, rfl⟩ := trodVars_none hV
  obtain ⟨a0, len0, cap0, rfl⟩ := okWide_slice Try.underlying22 (hval 0 22 v0 rfl rfl)
  have k0 := h0
  have lt0 : ∀ x ∈ p0, x.block < W.heap.size := by obtain ⟨m, hm⟩ := k0; exact DataW.trod_lt m _ _ _ hm
  obtain ⟨P, hP, hPl⟩ : ∃ P, IntsAt W (.slice a0 len0 cap0) P ∧ P.length ≤ maxLen := by
    obtain ⟨fuel, hf⟩ := h0
    rcases open_ints Try.underlying22 Try.underlying3 (by kernel_rfl) hf with ⟨hcs, _⟩ | ⟨x, l, c, zs, hcs, _, hl, hm, hz, _, hcell, hwz⟩
    · simp [Value.cells] at hcs
      obtain ⟨rfl, rfl, rfl⟩ := hcs
      exact ⟨[], ⟨_, _, rfl, fun j hj => absurd hj (Nat.not_lt_zero _)⟩, Nat.zero_le _⟩
    · simp [Value.cells] at hcs
      obtain ⟨rfl, rfl, rfl⟩ := hcs
      have hz' : zs.length = cap0 := by simpa using hz
      have hlt : (zs.take len0).length = len0 := by rw [List.length_take]; omega
      have := ints_of (w := W) (x := x) (cap := cap0) (zs := zs.take len0) (fun i hi => by
        rw [hlt] at hi
        rw [hcell i (by omega)]
        simp [List.getD_eq_getElem?_getD, hi])
      rw [hlt] at this
      exact ⟨zs.take len0, this, by rw [hlt]; omega⟩
  obtain ⟨a1, len1, cap1, rfl⟩ := okWide_slice Try.underlying32 (hval 1 32 v1 rfl rfl)
  have k1 := h1
  have lt1 : ∀ x ∈ p1, x.block < W.heap.size := by obtain ⟨m, hm⟩ := k1; exact DataW.trod_lt m _ _ _ hm
  obtain ⟨R, hR, hRl, hRi⟩ : ∃ R, RowsAt W (.slice a1 len1 cap1) R ∧ R.length ≤ maxLen ∧ ∀ i, i < R.length → (R.getD i []).length ≤ maxLen := by
    obtain ⟨fuel, hf⟩ := h1
    rcases Go.Deep.open_slice1 Try.underlying32 (by kernel_rfl) hf with ⟨hcs, _⟩ | ⟨x, l, c, m, n, V, D, Pl, hcs, _, hl, hm, hmm, _, hel⟩
    · simp [Value.cells] at hcs
      obtain ⟨rfl, rfl, rfl⟩ := hcs
      exact ⟨[], ⟨_, _, rfl, fun j hj => absurd hj (Nat.not_lt_zero _)⟩, Nat.zero_le _, fun i hi => absurd hi (Nat.not_lt_zero _)⟩
    · simp [Value.cells] at hcs
      obtain ⟨rfl, rfl, rfl⟩ := hcs
      have hmm' : m = cap1 := by simpa using hmm
      have hone : ∀ i, i < len1 → ∃ zs, IntsAt W (V i) zs ∧ zs.length ≤ maxLen := by
        intro i hi
        obtain ⟨hci, hti⟩ := hel i (by omega)
        rcases open_ints Try.underlying34 Try.underlying2 (by kernel_rfl) hti with ⟨hcs, _⟩ | ⟨x', l', c', zs, hcs, _, hl', hm', hz, _, hcell, hwz⟩
        · rw [List.cons.inj hcs |>.1]
          exact ⟨[], ⟨_, _, rfl, fun j hj => absurd hj (Nat.not_lt_zero _)⟩, Nat.zero_le _⟩
        · rw [List.cons.inj hcs |>.1]
          have hz' : zs.length = c' := by simpa using hz
          have hlt : (zs.take l').length = l' := by rw [List.length_take]; omega
          have := ints_of (w := W) (x := x') (cap := c') (zs := zs.take l') (fun i hi => by
            rw [hlt] at hi
            rw [hcell i (by omega)]
            simp [List.getD_eq_getElem?_getD, hi])
          rw [hlt] at this
          exact ⟨zs.take l', this, by rw [hlt]; omega⟩
      have hch : ∀ i, ∃ zs, i < len1 → IntsAt W (V i) zs ∧ zs.length ≤ maxLen := by
        intro i
        by_cases hi : i < len1
        · obtain ⟨zs, hzs⟩ := hone i hi; exact ⟨zs, fun _ => hzs⟩
        · exact ⟨[], fun h => absurd h hi⟩
      obtain ⟨Z, hZ⟩ := Classical.axiomOfChoice hch
      refine ⟨(List.range len1).map Z, rows_of (fun i hi => (hel i (by omega)).1) (fun i hi => (hZ i hi).1), by rw [List.length_map, List.length_range]; omega, fun i hi => ?_⟩
      rw [List.length_map, List.length_range] at hi
      have e : ((List.range len1).map Z).getD i [] = Z i := by simp [List.getD_eq_getElem?_getD, hi]
      rw [e]; exact (hZ i hi).2
  obtain ⟨a2, rfl, rfl, rfl, w2⟩ := open_int Try.underlying23 (hval 2 23 v2 rfl rfl) h2
  obtain ⟨a3, rfl, rfl, rfl, w3⟩ := open_int Try.underlying23 (hval 3 23 v3 rfl rfl) h3
  clear hA0 hval0
  refine (law6_any (.slice a0 len0 cap0) (.slice a1 len1 cap1) P R a2 a3 W hP hR hPl hRl hRi).mono fun e W' ⟨he, bel⟩ => ?_
  subst he
  exact ⟨_, rfl, _, _, _, [], _, [], hW', trodAll_mk1 (shut_bool Try.underlying4 _), (trodAll_cons_mk (Below.trod laidOut (by kernel_rfl) (of_decide_eq_true (by kernel_rfl)) k0 bel lt0) (trodAll_cons_mk (Below.trod laidOut (by kernel_rfl) (of_decide_eq_true (by kernel_rfl)) k1 bel lt1) (trodAll_cons_mk (shut_int Try.underlying23 w2) (trodAll_cons_mk (shut_int Try.underlying23 w3) trodAll_mk0)))), rfl, bel.frame _, fun h => by cases h⟩

theorem over : Rows.fnMoveMarketTwiceMovesFromTheDayAgainRow.holds Try.pinned (OpenSpec.ofChange Rows.fnMoveMarketTwiceMovesFromTheDayAgainSpec) :=
  OpenClaim.holds_of_wide 6 Try.f6 rfl rfl rfl rfl rfl rfl rfl ⟨rfl, rfl, rfl, rfl, rfl⟩ rfl rfl rfl rfl rfl (by kernel_rfl) Try.func6 (by kernel_rfl)
    (of_decide_eq_true (by kernel_rfl)) (by unfold Func.isWrapper; first | (rw [if_pos (by decide +kernel)]; kernel_rfl) | (rw [if_neg (by decide +kernel)]; exact ⟨rfl, rfl⟩))
    (fun os started H enc _ => lifted os started H enc)

/-- THE STATEMENT -/
theorem proved : Rows.FnMoveMarketTwiceMovesFromTheDayAgainSaid := over
end Go.Proofs.Qxb6613790a.fnMoveMarketTwiceMovesFromTheDayAgain
