/-
  THE ROW's STEP for 'Rows.FnStatusChargeMovesUsedAndRemainingByTheChargeSaid': the guide's frame, the struct arguments opened and shut by 'open_agg3', 'shut_agg3'.
-/
import Derived.Test.Qxb6613788aLaw4
import Derived.ProofKit
import Derived.OpenShut
import Derived.ShutString
import Derived.Lib.SmallJoins
namespace Go.Proofs.Qxb6613788a.fnStatusChargeMovesUsedAndRemainingByTheCharge
open Go.ChangeShapes Go.WideShapes Go.ChangeAt Go.RowKit Go.Joins
open Go.ChangeMaps (open_string shut_string)
set_option linter.unusedVariables false

theorem own : ownKnob Try.prog.godebug = none := by kernel_rfl
theorem cells23 : Try.prog.cellsOf 23 = 3 := by kernel_rfl

set_option maxRecDepth 100000 in
theorem lifted (os : Os) (started : os.Started) (H : Type) (enc : TypeId × Value → H) :
    ReturnsInHanded {} Try.checked os 4 .any (Rows.fnStatusChargeMovesUsedAndRemainingByTheChargeSpec.pre6 enc Try.prog Try.f4 Rows.fnStatusChargeMovesUsedAndRemainingByTheChargeRow.domain false) (Rows.fnStatusChargeMovesUsedAndRemainingByTheChargeSpec.post enc Try.prog Try.f4 false true false false) := by
  refine returnsInHanded_of_change (C := Try.checked) own started (by kernel_rfl) Try.func4
    (ChangeSpec.witness6 (enc := enc) (C := Try.checked) false ⟨#[], #[.string ⟨#[]⟩, .int .i64 0, .int .i64 0, .string ⟨#[]⟩, .int .i64 0, .int .i64 0, .agg #[.int .i64 0, .int .i64 0, .int .i64 0], .int .i64 0, .int .i64 0, .agg #[.int .i64 0, .int .i64 0, .int .i64 0]], []⟩ 8 (by kernel_rfl) (by kernel_rfl) (by kernel_rfl) (by kernel_rfl)) ?_
  intro W base args ds gs before hval0 hW hcnd _
  have hval : ∀ (j : Nat) t v, Try.f4.params[j]? = some t → args[j]? = some v → Value.okWide Try.prog W .any base t v := hval0
  have hW' := hW
  obtain ⟨p, q, hA0, hV, rfl, hfz, hnd⟩ := hW
  have hA : DataW.TrodAll enc Try.prog W 0 (fun _ => true) true Try.f4.params.toList args.toList ds p := hA0
  rw [Try.params4] at hA hval
  obtain ⟨v0, vs0, d0, ds0, p0, q0, hargs, rfl, rfl, h0, r0⟩ := trodAll_cons hA
  obtain ⟨v1, vs1, d1, ds1, p1, q1, rfl, rfl, rfl, h1, r1⟩ := trodAll_cons r0
  obtain ⟨v2, vs2, d2, ds2, p2, q2, rfl, rfl, rfl, h2, r2⟩ := trodAll_cons r1
  obtain ⟨v3, vs3, d3, ds3, p3, q3, rfl, rfl, rfl, h3, r3⟩ := trodAll_cons r2
  obtain ⟨v4, vs4, d4, ds4, p4, q4, rfl, rfl, rfl, h4, r4⟩ := trodAll_cons r3
  obtain ⟨v5, vs5, d5, ds5, p5, q5, rfl, rfl, rfl, h5, r5⟩ := trodAll_cons r4
  obtain ⟨v6, vs6, d6, ds6, p6, q6, rfl, rfl, rfl, h6, r6⟩ := trodAll_cons r5
  obtain ⟨v7, vs7, d7, ds7, p7, q7, rfl, rfl, rfl, h7, r7⟩ := trodAll_cons r6
  obtain ⟨v8, vs8, d8, ds8, p8, q8, rfl, rfl, rfl, h8, r8⟩ := trodAll_cons r7
  obtain ⟨v9, vs9, d9, ds9, p9, q9, rfl, rfl, rfl, h9, r9⟩ := trodAll_cons r8
  obtain ⟨rfl, rfl, rfl⟩ := trodAll_nil r9
  obtain rfl : args = #[v0, v1, v2, v3, v4, v5, v6, v7, v8, v9] := by cases args; simp_all
  obtain ⟨rfl, rfl⟩ := trodVars_none hV
  obtain ⟨a0, rfl, rfl, rfl, w0⟩ := open_string Try.underlying9 (hval 0 9 v0 rfl rfl) h0
  obtain ⟨a1, rfl, rfl, rfl, w1⟩ := open_int Try.underlying2 (hval 1 2 v1 rfl rfl) h1
  obtain ⟨a2, rfl, rfl, rfl, w2⟩ := open_int Try.underlying2 (hval 2 2 v2 rfl rfl) h2
  obtain ⟨a3, rfl, rfl, rfl, w3⟩ := open_string Try.underlying9 (hval 3 9 v3 rfl rfl) h3
  obtain ⟨a4, rfl, rfl, rfl, w4⟩ := open_int Try.underlying2 (hval 4 2 v4 rfl rfl) h4
  obtain ⟨a5, rfl, rfl, rfl, w5⟩ := open_int Try.underlying2 (hval 5 2 v5 rfl rfl) h5
  obtain ⟨c60, c61, c62, y60, y61, y62, m6, rfl, rfl, rfl, hy60, hy61, hy62⟩ := open_agg3 Try.underlying23 (by kernel_rfl) cells23 (hval 6 23 v6 rfl rfl) h6
  obtain ⟨a60, e60, rfl, w60⟩ := DataW.trod_int Try.underlying3 hy60
  obtain ⟨a61, e61, rfl, w61⟩ := DataW.trod_int Try.underlying3 hy61
  obtain ⟨a62, e62, rfl, w62⟩ := DataW.trod_int Try.underlying3 hy62
  simp at e60 e61 e62
  subst e60 e61 e62
  have reads6 : ∀ (W' : World) (sp : Nat → Bool), DataW.Trod enc Try.prog W' 0 sp true 23 (.agg #[.int .i64 a60, .int .i64 a61, .int .i64 a62]) (.agg [.lit (.int .i64 a60), .lit (.int .i64 a61), .lit (.int .i64 a62)]) [] := fun W' sp =>
    shut_agg3 (y0 := (.lit (.int .i64 a60), [])) (y1 := (.lit (.int .i64 a61), [])) (y2 := (.lit (.int .i64 a62), [])) Try.underlying23 (by kernel_rfl) cells23 ⟨1, by simp [DataW.trod, Try.underlying3, w60]⟩ ⟨1, by simp [DataW.trod, Try.underlying3, w61]⟩ ⟨1, by simp [DataW.trod, Try.underlying3, w62]⟩
  obtain ⟨a7, rfl, rfl, rfl, w7⟩ := open_int Try.underlying2 (hval 7 2 v7 rfl rfl) h7
  obtain ⟨a8, rfl, rfl, rfl, w8⟩ := open_int Try.underlying2 (hval 8 2 v8 rfl rfl) h8
  obtain ⟨c90, c91, c92, y90, y91, y92, m9, rfl, rfl, rfl, hy90, hy91, hy92⟩ := open_agg3 Try.underlying23 (by kernel_rfl) cells23 (hval 9 23 v9 rfl rfl) h9
  obtain ⟨a90, e90, rfl, w90⟩ := DataW.trod_int Try.underlying3 hy90
  obtain ⟨a91, e91, rfl, w91⟩ := DataW.trod_int Try.underlying3 hy91
  obtain ⟨a92, e92, rfl, w92⟩ := DataW.trod_int Try.underlying3 hy92
  simp at e90 e91 e92
  subst e90 e91 e92
  have reads9 : ∀ (W' : World) (sp : Nat → Bool), DataW.Trod enc Try.prog W' 0 sp true 23 (.agg #[.int .i64 a90, .int .i64 a91, .int .i64 a92]) (.agg [.lit (.int .i64 a90), .lit (.int .i64 a91), .lit (.int .i64 a92)]) [] := fun W' sp =>
    shut_agg3 (y0 := (.lit (.int .i64 a90), [])) (y1 := (.lit (.int .i64 a91), [])) (y2 := (.lit (.int .i64 a92), [])) Try.underlying23 (by kernel_rfl) cells23 ⟨1, by simp [DataW.trod, Try.underlying3, w90]⟩ ⟨1, by simp [DataW.trod, Try.underlying3, w91]⟩ ⟨1, by simp [DataW.trod, Try.underlying3, w92]⟩
  clear hA0 hval0
  refine (law4_in a0 a3 a1 a2 a4 a5 a7 a8 a60 a61 a62 a90 a91 a92 W w0 w3 (i64_of_wf w1) (i64_of_wf w4) (i64_of_wf w5) (i64_of_wf w8)).mono fun e W' ⟨he, bel⟩ => ?_
  subst he
  exact ⟨_, rfl, _, _, _, [], _, [], hW', trodAll_mk1 (shut_bool Try.underlying4 _), (trodAll_cons_mk (shut_string Try.underlying9 w0) (trodAll_cons_mk (shut_int Try.underlying2 w1) (trodAll_cons_mk (shut_int Try.underlying2 w2) (trodAll_cons_mk (shut_string Try.underlying9 w3) (trodAll_cons_mk (shut_int Try.underlying2 w4) (trodAll_cons_mk (shut_int Try.underlying2 w5) (trodAll_cons_mk (reads6 _ _) (trodAll_cons_mk (shut_int Try.underlying2 w7) (trodAll_cons_mk (shut_int Try.underlying2 w8) (trodAll_cons_mk (reads9 _ _) trodAll_mk0)))))))))), rfl, bel.frame _, fun h => by cases h⟩

theorem over : Rows.fnStatusChargeMovesUsedAndRemainingByTheChargeRow.holds Try.pinned (OpenSpec.ofChange Rows.fnStatusChargeMovesUsedAndRemainingByTheChargeSpec) :=
  OpenClaim.holds_of_wide 4 Try.f4 rfl rfl rfl rfl rfl rfl rfl ⟨rfl, rfl, rfl, rfl, rfl⟩ rfl rfl rfl rfl rfl (by kernel_rfl) Try.func4 (by kernel_rfl)
    (of_decide_eq_true (by kernel_rfl)) (by unfold Func.isWrapper; first | (rw [if_pos (by decide +kernel)]; kernel_rfl) | (rw [if_neg (by decide +kernel)]; exact ⟨rfl, rfl⟩))
    (fun os started H enc _ => lifted os started H enc)

/-- THE STATEMENT -/
theorem proved : Rows.FnStatusChargeMovesUsedAndRemainingByTheChargeSaid :=
  over
end Go.Proofs.Qxb6613788a.fnStatusChargeMovesUsedAndRemainingByTheCharge
