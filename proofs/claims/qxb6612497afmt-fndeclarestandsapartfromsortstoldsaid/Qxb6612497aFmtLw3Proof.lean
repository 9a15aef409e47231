/-
  THE ROW's STEP AND THE CARD for 'Rows.FnDeclareStandsApartFromSortsToldSaid': after the guide's CheckedsumT and Port; the walk lies in Qxb6612497aFmtLw.
-/
import Derived.Test.Qxb6612497aFmtLw
import Derived.Test.Qxb6612497aFmtTie
import Derived.Test.Qxb6612497aFmtCards
import Derived.ProofKit
import Derived.WideKeyArgs
import Derived.WideKeyElems4
import Derived.Stop.JoinedAt
import Derived.Stop.Texts
import Derived.Stop.ErrReads
import Derived.Stop.LaidErr
import Derived.OpenShut
import Derived.SevenTold
import Derived.SevenToldRow
import Derived.SevenTiedAt
import Derived.DataReads
import Derived.Deep.Strs
import Derived.Lib.SmallJoins
namespace Go.Proofs.Qxb6612497aFmt.fnDeclareStandsApartFromSorts
open Go.ChangeShapes Go.WideShapes Go.ChangeAt Go.RowKit Go.Kit
open Go.Extern.Stop Go.Stop Go.Extern

theorem own : ownKnob Tryf.prog.godebug = none := by kernel_rfl
theorem laidOut : laidOutB Tryf.pinned.checked.prog = true := by kernel_rfl
theorem stops : Tryf.pinned.checked.prog.stops = ["fmt.errorf, its operands' methods called", "fmt.Sprintf"] := by kernel_rfl
theorem stopKnobs : Tryf.pinned.checked.prog.stopKnobs = [] := by kernel_rfl
theorem quiet (os : Os) : Stop.quiet Tryf.pinned.checked.prog os := by
  intro k hk
  rw [stopKnobs] at hk
  cases hk
theorem gO : Tryf.prog.globalNamed "example.com/ballotproof/ballotproof/internal/model.ErrRedeclared" = some 0 := by kernel_rfl
theorem gOType : (Tryf.prog.globals[0]?).map (·.type) = some 64 := by kernel_rfl
theorem cells76 : Tryf.prog.cellsOf 76 = 1 := by kernel_rfl
theorem cells9 : Tryf.prog.cellsOf 9 = 1 := by kernel_rfl
theorem star : "*" ++ "errors.errorString" = "*errors.errorString" := by decide
theorem row74 (u : TypeId) (h : Tryf.prog.typeName? 3 u = some "*errors.errorString") : u = 74 :=
  typeName_ptr_named (nm := "errors.errorString") (by rw [star]; kernel_rfl) (by kernel_rfl) (by decide) u (by rw [star]; exact h)
abbrev overS : ByteArray := { data := #[114, 101, 100, 101, 99, 108, 97, 114, 101, 100] }
noncomputable def low : Nat := (World.holding Tryf.prog default ⟨#[], #[], []⟩).heap.size
noncomputable def laidWorld (os : Os) (g : Nat) (s : ByteArray) : World :=
  let w0 := World.holding Tryf.prog os ⟨#[.cells #[.string s] 76], #[], []⟩
  { w0 with heap := w0.heap.modify g fun
      | .cells _ t frozen => .cells #[.iface 74 (.pointer (some ⟨low, 0, none⟩))] t frozen
      | o => o }
theorem laidO_met (os : Os) (args : Array Value) : laidMet Tryf.prog Rows.fnDeclareStandsApartFromSortsRow.laid ((laidWorld os 0 overS).forCall (fun _ _ => 0) ⟨#[], args, []⟩).memory :=
  laidMet_of_run (ps := [.cell 0 0, .cell low 0]) 8 (by kernel_rfl) (by kernel_rfl) (by kernel_rfl)

theorem add_of {a : Addr} (h : a.spot = none) (j : Nat) : a.add j = ⟨a.block, a.off + j, none⟩ := by
  obtain ⟨b, o, s⟩ := a
  obtain rfl : s = none := h
  unfold Addr.add
  split
  · subst j; rfl
  · rfl
theorem strs_of {w : World} {x : Addr} {len cap : Nat} {Sx : Nat → ByteArray} (hc : ∀ i, i < len → w.cell? (x.add i) = some (.string (Sx i))) : StrsAt w (.slice (some x) len cap) ((List.range len).map Sx) := by
  refine ⟨_, _, by rw [List.length_map, List.length_range], fun j hj => ?_⟩
  rw [List.length_map, List.length_range] at hj
  have h0 := hc 0 (by omega)
  have hs : x.spot = none := World.cell?_spot (w := w) (a := x) h0
  have := hc j hj
  rw [add_of hs] at this
  refine ⟨x.block, x.off, ?_, ?_⟩
  · obtain ⟨b, o, s⟩ := x
    obtain rfl : s = none := hs
    rfl
  · have e : ((List.range len).map Sx).getD j ByteArray.empty = Sx j := by simp [List.getD_eq_getElem?_getD, hj]
    rw [e]; exact this

set_option maxRecDepth 100000 in
set_option maxHeartbeats 4000000 in
theorem lifted (os : Os) (started : os.Started) (H : Type) (enc : TypeId × Value → H) :
    ReturnsInTold none {} Tryf.checked os 3 .any Input.okWide ((OpenSpec.ofChange Rows.fnDeclareStandsApartFromSortsSpec).preRow enc Tryf.prog Tryf.f3 Rows.fnDeclareStandsApartFromSortsRow.domain false Rows.fnDeclareStandsApartFromSortsRow.laid) (fun F => ((OpenSpec.ofChange Rows.fnDeclareStandsApartFromSortsSpec).at F).post enc Tryf.prog Tryf.f3 false true false false) (aloneAtReturn Tryf.prog) nothingAlways := by
  refine returnsInTold_of_row (C := Tryf.checked) (s := OpenSpec.ofChange Rows.fnDeclareStandsApartFromSortsSpec) (by kernel_rfl) own started (by kernel_rfl) Tryf.func3
    (OpenSpec.witness_stopped_at (enc := enc) (C := Tryf.checked) false (laidWorld os 0 overS) #[.slice none 0 0, .int .i64 0, .int .i64 0] rfl (by kernel_rfl) (by kernel_rfl) (by kernel_rfl)
      (OpenSpec.preRow_of_B rfl 8 (by kernel_rfl) (by kernel_rfl) (laidO_met os _))) ?_
  intro F W base args ds gs before _ hF hval0 hW _ _ _ hL _
  have hval : ∀ (j : Nat) t v, Tryf.f3.params[j]? = some t → args[j]? = some v → Value.okWide Tryf.prog W .any base t v := hval0
  have hW' := hW
  obtain ⟨p, q, hA0, hV0, rfl, hfz, hnd⟩ := hW
  have hA : DataW.TrodAll enc Tryf.prog W 0 (fun _ => true) true Tryf.f3.params.toList args.toList ds p := hA0
  have hV : DataW.TrodVars enc Tryf.prog W (fun _ => true) ["example.com/ballotproof/ballotproof/internal/model.ErrRedeclared"] gs q := hV0
  rw [Tryf.params3] at hA hval
  obtain ⟨v0, vs0, d0, ds0, p0, q0, hargs, rfl, rfl, h0, r0⟩ := trodAll_cons hA
  obtain ⟨v1, vs1, d1, ds1, p1, q1, rfl, rfl, rfl, h1, r1⟩ := trodAll_cons r0
  obtain ⟨v2, vs2, d2, ds2, p2, q2, rfl, rfl, rfl, h2, r2⟩ := trodAll_cons r1
  obtain ⟨rfl, rfl, rfl⟩ := trodAll_nil r2
  obtain rfl : args = #[v0, v1, v2] := by cases args; simp_all
  obtain ⟨a1, s1, hv1, hc1, hs1, hz1⟩ := laid_sentinel hL gO gOType Tryf.underlying64 row74 Tryf.underlying74 Tryf.underlying76 rfl rfl Tryf.underlying9 cells76 cells9
  obtain ⟨rfl, rfl⟩ := hV.unique (vars_read1 enc gO gOType Tryf.underlying64 hv1 trivial _)
  obtain ⟨a0, len0, cap0, rfl⟩ := okWide_slice Tryf.underlying22 (hval 0 22 v0 rfl rfl)
  have k0 := h0
  have lt0 : ∀ x ∈ p0, x.block < W.heap.size := by obtain ⟨m, hm⟩ := k0; exact DataW.trod_lt m _ _ _ hm
  obtain ⟨S, hS, hSl, hSi⟩ : ∃ S, StrsAt W (.slice a0 len0 cap0) S ∧ S.length ≤ maxLen ∧ ∀ i, i < S.length → (S.getD i ByteArray.empty).size ≤ maxLen := by
    obtain ⟨fuel, hf⟩ := h0
    rcases Go.Deep.open_strs Tryf.underlying22 Tryf.underlying9 cells9 hf with ⟨hcs, _⟩ | ⟨x, l, c, m, Sx, hcs, _, hl, hm, hmm, _, hel⟩
    · simp [Value.cells] at hcs
      obtain ⟨rfl, rfl, rfl⟩ := hcs
      exact ⟨[], ⟨_, _, rfl, fun j hj => absurd hj (Nat.not_lt_zero _)⟩, Nat.zero_le _, fun i hi => absurd hi (Nat.not_lt_zero _)⟩
    · simp [Value.cells] at hcs
      obtain ⟨rfl, rfl, rfl⟩ := hcs
      have hmm' : m = cap0 := by simpa using hmm
      refine ⟨(List.range len0).map Sx, strs_of (fun i hi => (hel i (by omega)).1), by rw [List.length_map, List.length_range]; omega, fun i hi => ?_⟩
      rw [List.length_map, List.length_range] at hi
      have e : ((List.range len0).map Sx).getD i ByteArray.empty = Sx i := by simp [List.getD_eq_getElem?_getD, hi]
      rw [e]; exact (hel i (by omega)).2
  obtain ⟨l, rfl, rfl, rfl, wl⟩ := open_int Tryf.underlying3 (hval 1 3 v1 rfl rfl) h1
  obtain ⟨c, rfl, rfl, rfl, wc⟩ := open_int Tryf.underlying3 (hval 2 3 v2 rfl rfl) h2
  clear hA0 hV0 hval0
  refine (law3_any (.slice a0 len0 cap0) S l c W hS hSl hSi).mono fun e W' ⟨he, bel⟩ => ?_
  subst he
  have hv1' : W'.var? Tryf.prog "example.com/ballotproof/ballotproof/internal/model.ErrRedeclared" = some #[.iface 74 (.pointer (some a1))] := Go.Joins.var_stays gO hv1 bel (Nat.le_refl _)
  exact ⟨_, rfl, _, _, _, [], _, [.cell 0 0], hW', trodAll_mk1 (shut_bool Tryf.underlying4 _), (trodAll_cons_mk (Below.trod laidOut (by kernel_rfl) (of_decide_eq_true (by kernel_rfl)) k0 bel lt0) (trodAll_cons_mk (shut_int Tryf.underlying3 wl) (trodAll_cons_mk (shut_int Tryf.underlying3 wc) trodAll_mk0))), vars_read1 enc gO gOType Tryf.underlying64 hv1' trivial _, bel.frame _, fun h => by cases h⟩

set_option maxRecDepth 100000 in
theorem proved : Rows.FnDeclareStandsApartFromSortsToldSaid :=
  Claim7.holds_of_told_tied_any_at .later 3 Tryf.f3 "fmt.errorf, its operands' methods called" ["fmt.Sprintf"] [] _ _ _ _ _ (by kernel_rfl) rfl rfl rfl laidOut (by kernel_rfl) rfl ⟨rfl, rfl, rfl, rfl, rfl, rfl, rfl⟩ rfl rfl (by kernel_rfl) (by kernel_rfl) Tryf.func3 (by kernel_rfl)
    (of_decide_eq_true (by kernel_rfl)) (of_decide_eq_true (by kernel_rfl)) stops.symm rfl stopKnobs.symm (by kernel_rfl)
    (by kernel_rfl) (by kernel_rfl) (by kernel_rfl) (by kernel_rfl) (by kernel_rfl) (by kernel_rfl) (by kernel_rfl) (by kernel_rfl) (by kernel_rfl) rfl (by kernel_rfl) rfl rfl
    rfl rfl
    rfl (by kernel_rfl) (by kernel_rfl) (by kernel_rfl) (by decide) (by kernel_rfl) fnDeclareStandsApartFromSorts_row_tie
    (OpenClaim.moreEntering_of (by kernel_rfl) (by kernel_rfl) (by kernel_rfl) (by kernel_rfl) (by kernel_rfl) (by kernel_rfl) (by kernel_rfl) (by kernel_rfl) (by kernel_rfl) (by kernel_rfl))
    ⟨_, WideRow.started_initial, quiet _⟩
    (fun os started _ H enc _ => lifted os started H enc)
end Go.Proofs.Qxb6612497aFmt.fnDeclareStandsApartFromSorts
