import Derived.Test.Qxb6613790aTab
import Derived.Laws.IdiomCopy
namespace Go.Proofs.Qxb6613790a
open Go.RowKit

theorem below_setCells {B : Nat} {a : World} (b : Nat) (hb : B ≤ b) : ∀ (vs : List Value) (o : Nat) (w : World), Below B a w → Below B a (w.setCells b o vs)
  | [], _, _, h => h
  | v :: r, o, _, h => below_setCells b hb r (o + 1) _ (h.setCell (p := ⟨b, o, none⟩) hb v)


/-- places copied. -/
theorem copied (a : Addr) (cap : Nat) (P : List Int) (w : World) (hP : IntsAt w (.slice (some a) P.length cap) P) :
    ∃ W, (Builtin.copy_ #[22, 22] 3 #[.slice (some ⟨w.heap.size, 0, none⟩) P.length P.length, .slice (some a) P.length cap]).run Try.prog (w.alloc (.cells (madeCells #[.int .i64 0] P.length) 3)) = .ok (goInt P.length) W ∧
      IntsAt W (.slice (some ⟨w.heap.size, 0, none⟩) P.length P.length) P ∧ Below w.heap.size w W := by
  have hm := open_made w (.int .i64 0) P.length 3
  obtain ⟨a', cap', e, hc⟩ := hP
  obtain ⟨rfl, -, rfl⟩ := Value.slice.inj e
  have hlen : (P.map (fun z => Value.int .i64 z)).length = P.length := List.length_map _
  have hcell : ∀ j, j < P.length → ((w.alloc (.cells (madeCells #[.int .i64 0] P.length) 3)).cell? ⟨w.heap.size, 0 + j, none⟩).isSome = true := by
    intro j hj
    obtain ⟨⟨u, hu⟩, -⟩ := hm j hj
    rw [Nat.zero_add, hu]; rfl
  have hB : Below w.heap.size w (w.alloc (.cells (madeCells #[.int .i64 0] P.length) 3)) := (Below.refl _ _).alloc (Nat.le_refl _) _
  refine ⟨(w.alloc (.cells (madeCells #[.int .i64 0] P.length) 3)).setCells w.heap.size 0 (P.map (fun z => Value.int .i64 z)), ?_, ?_, ?_⟩
  · have := run_copy_cells (P := Try.prog) (w.alloc (.cells (madeCells #[.int .i64 0] P.length) 3)) 22 22 3 3 w.heap.size 0 P.length P.length a P.length cap (P.map (fun z => Value.int .i64 z)) Try.underlying22 (by have := Try.info3; cases h : Try.prog.info? 3 <;> simp_all)
      (by rw [hlen]; exact (Nat.min_self _).symm) ?_ (fun j hj => hcell j (by omega)) (fun j hj => by rw [Nat.zero_add]; exact (hm j (by omega)).2) (fun v hv => by obtain ⟨z, -, rfl⟩ := List.mem_map.1 hv; rfl)
    · rw [hlen] at this; exact this
    · intro j v hv
      rw [List.getElem?_map] at hv
      obtain ⟨z, hz, rfl⟩ := Option.map_eq_some_iff.1 hv
      have hj : j < P.length := (List.getElem?_eq_some_iff.1 hz).1
      obtain ⟨b, o, ea, hcj⟩ := hc j hj
      cases ea
      have hd : P.getD j 0 = z := by rw [List.getD_eq_getElem?_getD, hz]; rfl
      rw [hd] at hcj
      have hadd : (⟨b, o, none⟩ : Addr).add j = ⟨b, o + j, none⟩ := by unfold Addr.add; split <;> simp_all
      rw [hadd]
      exact (hB.cell (p := ⟨b, o + j, none⟩) (World.block_lt_of_cell? w _ hcj)).trans hcj
  · refine ⟨_, _, rfl, fun j hj => ⟨_, _, rfl, ?_⟩⟩
    rw [World.cell?_setCells_in _ _ _ _ (fun j hj => hcell j (by omega)) j (by omega), List.getElem_map, List.getD_eq_getElem?_getD, List.getElem?_eq_getElem hj]
    rfl
  · exact below_setCells _ (Nat.le_refl _) _ _ _ hB
set_option maxHeartbeats 1000000 in
theorem bytes23b (x : Option Addr) (len cap : Nat) (v : Value) (rows : List (List Int)) (s1 s2 : Int) (w : World) (h1 : len ≤ maxLen) (h2 : rows.length ≤ maxLen) (h3 : ∀ i, i < rows.length → (rows.getD i []).length ≤ maxLen) (hr : RowsAt w v rows) :
    Calls Try.prog 23 #[.slice x len cap, v, .int .u64 s1, .int .u64 s2] w fun e w' => (e = .returned (.bool false) ∨ (e = .returned (.bool true) ∧ ∀ i, i < rows.length → (rows.getD i []).length ≤ 1048576)) ∧ w = w' := by
  obtain ⟨a, c, rfl, hc⟩ := hr
  have HC : Hid (∀ i, i < rows.length → ∃ b o u, a = some ⟨b, o, none⟩ ∧ w.cell? ⟨b, o + i, none⟩ = some u ∧ IntsAt w u (rows.getD i [])) := hc
  have H3 : Hid (∀ i, i < rows.length → (rows.getD i []).length ≤ maxLen) := h3
  clear hc h3
  unfold maxLen at h1 h2
  by_cases c1 : 1048576 < len
  · go_enter Try.func23, Try.ntmps23
    go_wp2
    go_ret
    exact ⟨.inl rfl, rfl⟩
  by_cases c2 : 1048576 < rows.length
  · go_enter Try.func23, Try.ntmps23
    go_wp2
    go_ret
    exact ⟨.inl rfl, rfl⟩
  by_cases c3 : 1048576 < len + rows.length
  · go_enter Try.func23, Try.ntmps23
    go_wp2
    go_ret
    exact ⟨.inl rfl, rfl⟩
  have d1 : decide ((1048576 : Int) < (len : Int)) = false := by rw [decide_eq_false_iff_not]; omega
  have d2 : decide ((1048576 : Int) < (rows.length : Int)) = false := by rw [decide_eq_false_iff_not]; omega
  have d3 : decide ((1048576 : Int) < (len : Int) + (rows.length : Int)) = false := by rw [decide_eq_false_iff_not]; omega
  go_enter Try.func23, Try.ntmps23
  go_wp2
  go_loop [9, 10] (fun z i => ∃ (t : Nat) (q : Int), t ≤ rows.length ∧ i = .int .i64 t ∧ z = .int .i64 q ∧ 0 ≤ q ∧ q ≤ 1048576 ∧ Hid (∀ i, i < t → (rows.getD i []).length ≤ 1048576)) (fun _ i => rows.length - (intOf i).toNat)
  case atStart => exact ⟨0, (len : Int) + (rows.length : Int), Nat.zero_le _, rfl, rfl, by omega, by omega, fun i hi => absurd hi (Nat.not_lt_zero _)⟩
  case round =>
    obtain ⟨t, q, ht, rfl, rfl, hq0, hq1, HQ⟩ := hrel
    by_cases hlt : t < rows.length
    · obtain ⟨b, o, u, rfl, hc1, hu⟩ := HC.out t hlt
      have h3 := H3.out t hlt
      obtain ⟨a', cap', rfl, -⟩ := hu
      unfold maxLen at h3
      obtain ⟨l, hl⟩ : ∃ l, (rows.getD t []).length = l := ⟨_, rfl⟩
      have Hl : Hid ((rows.getD t []).length = l) := hl
      rw [hl] at h3 hc1
      clear hl
      have j1 : (t : Int) < (rows.length : Int) := by omega
      by_cases c4 : 1048576 < l
      · go_wp2
        go_ret
        exact ⟨.inl rfl, rfl⟩
      · by_cases c5 : 1048576 < q + l
        · go_wp2
          go_ret
          exact ⟨.inl rfl, rfl⟩
        · go_wp2
          go_round
          case rel => exact ⟨t + 1, q + l, by omega, by go_num, rfl, by omega, by omega, fun i hi => by
            by_cases e : i = t
            · subst e; rw [Hl.out]; omega
            · exact HQ.out i (by omega)⟩
          case measure => simp [intOf]; omega
    · obtain rfl : t = rows.length := by omega
      go_wp2
      go_ret
      exact ⟨.inr ⟨rfl, HQ.out⟩, rfl⟩

theorem MarketAt.congr {w : World} {g pb h0 : Nat} {st : Int × Int} {P : List Int} {R : List (List Int)} {nt nt' : Nat → Nat → Int} (h : MarketAt w g pb h0 st P R nt) (e : ∀ i j, i < R.length → j < (R.getD i []).length → nt i j = nt' i j) : MarketAt w g pb h0 st P R nt' := by
  obtain ⟨h1, h2, h3, h4, h5, h6⟩ := h
  exact ⟨h1, h2, h3, h4, h5, fun i hi => (h6 i hi).congr (fun j hj => e i j hi hj)⟩
theorem MarketAt.draw {w : World} {g pb h0 : Nat} {st : Int × Int} {P : List Int} {R : List (List Int)} {nt : Nat → Nat → Int} (h : MarketAt w g pb h0 st P R nt) : MarketAt (drawW w pb st.1 st.2) g pb h0 (stp st) P R nt := by
  obtain ⟨h1, h2, h3, h4, h5, h6⟩ := h
  exact ⟨h1.draw, by rw [drawW_cell _ _ _ _ _ _ h1.2.2.1]; exact h2, h3, h4, by rw [drawW_size]; exact h5, fun i hi => (h6 i hi).draw h4 _ _⟩

theorem newMarket_ex (s1 s2 : Int) (pv rv : Value) (P : List Int) (R : List (List Int)) (w : World) (hP : IntsAt w pv P) (hR : RowsAt w rv R) (hl : P.length = R.length) (h2 : R.length ≤ 65536) (h3 : ∀ i, i < R.length → (R.getD i []).length ≤ 131072) :
    Calls Try.prog 17 #[.int .u64 s1, .int .u64 s2, pv, rv] w fun e w' => ∃ g pb h0, e = .returned (.pointer (some ⟨g, 0, none⟩)) ∧ MarketAt w' g pb h0 (s1, s2) P R (fun _ _ => 0) ∧ w.heap.size ≤ pb ∧ w.heap.size ≤ g ∧ Below w.heap.size w w' := by
  refine (newMarket_any s1 s2 pv rv P R w hP hR hl h2 h3).mono ?_
  rintro e w' ⟨rfl, h1, h2⟩
  exact ⟨_, _, _, rfl, h1, Nat.le_refl _, Nat.le_succ _, h2⟩
theorem move_ex (B g pb h0 : Nat) (st : Int × Int) (P : List Int) (R : List (List Int)) (old : Nat → Nat → Int) (w : World) (hM : MarketAt w g pb h0 st P R old) (hD : Dom P R) (h1 : B ≤ pb) (h2 : R.length ≤ 65536) (h3 : ∀ i, i < R.length → (R.getD i []).length ≤ 131072) :
    Calls Try.prog 18 #[.pointer (some ⟨g, 0, none⟩)] w fun e w' => e = .returned (.tuple #[]) ∧ MarketAt w' g pb h0 (stpN st (sumL R R.length)) P R (newN st P R) ∧ w'.heap.size = w.heap.size ∧ Below B w w' := by
  refine (zzMove_any B g pb h0 st P R old w hM hD h1 h2 h3).mono ?_
  rintro e w' ⟨rfl, h4, h5, h6⟩
  refine ⟨rfl, h4.congr (fun i j hi hj => ?_), h5, h6⟩
  unfold nk
  have := sumL_mono R (show i + 1 ≤ R.length by omega)
  rw [sumL] at this
  rw [if_pos (by omega)]

/-- What stands when the tables are compared. -/
def Cmp (w wz : World) (D1 D2 D3 g1 pb1 g2 pb2 : Nat) (pv rv : Value) (st : Int × Int) (P : List Int) (R : List (List Int)) : Prop :=
  Tab wz D1 R (newN (stpN st (sumL R R.length)) P R) ∧ Tab wz D2 R (fun i j => (R.getD i []).getD j 0) ∧ Tab wz D3 R (newN (stpN st (sumL R R.length)) P R) ∧ IntsAt wz pv P ∧ RowsAt wz rv R ∧
    GenAt wz g1 pb1 (stpN (stpN st (sumL R R.length)) (sumL R R.length)).1 (stpN (stpN st (sumL R R.length)) (sumL R R.length)).2 ∧ GenAt wz g2 pb2 (stpN (stpN st (sumL R R.length)) (sumL R R.length)).1 (stpN (stpN st (sumL R R.length)) (sumL R R.length)).2 ∧
    w.heap.size ≤ pb1 ∧ w.heap.size ≤ pb2 ∧ pb1 ≠ g2 ∧ pb1 ≠ pb2 ∧ Below w.heap.size w wz
theorem Cmp.keep {w wz wy : World} {D1 D2 D3 g1 pb1 g2 pb2 : Nat} {pv rv : Value} {st : Int × Int} {P : List Int} {R : List (List Int)} (h : Cmp w wz D1 D2 D3 g1 pb1 g2 pb2 pv rv st P R) (hb : Below wz.heap.size wz wy) : Cmp w wy D1 D2 D3 g1 pb1 g2 pb2 pv rv st P R := by
  obtain ⟨a1, a2, a3, a4, a5, a6, a7, a8, a9, a10, a11, a12⟩ := h
  exact ⟨a1.keep hb, a2.keep hb, a3.keep hb, a4.keep hb, a5.keep hb, a6.keep hb, a7.keep hb, a8, a9, a10, a11, a12.trans (hb.mono a12.size)⟩

/-- What the inner round asks of one security. -/
theorem cell_facts (p z o : Int) (h1 : 1 ≤ z) (h2 : z ≤ 461168601842738790) (h3 : z % stepZ p = 0) :
    stepZ p ≤ nightZ p z o ∧ wrap64 (nightZ p z o - z) = moveZ p z o ∧ (moveZ p z o).tmod (stepZ p) = 0 ∧ wrap64 (-moveZ p z o) = -moveZ p z o ∧ wrap64 (z.tdiv 50) = z / 50 ∧ moveZ p z o ≤ z / 50 ∧ -moveZ p z o ≤ z / 50 := by
  obtain ⟨f1, f2, f3, f4, f5, f6, f7, f8, f9, f10⟩ := move_facts p z o h1 h2 h3
  rw [night_eq p z o h1 h2 h3]
  have e : z.tdiv 50 = z / 50 := Int.tdiv_eq_ediv_of_nonneg (by omega)
  refine ⟨f5, ?_, Int.tmod_eq_zero_of_dvd (Int.dvd_of_emod_eq_zero f6), wrap64_id _ (by omega) (by omega), by rw [e]; exact wrap64_id _ (by omega) (by omega), f4, by omega⟩
  rw [show z + moveZ p z o - z = moveZ p z o by omega]
  exact wrap64_id _ (by omega) (by omega)
theorem below_drewN {B : Nat} {a w : World} (h : Below B a w) (n : Nat) : Below B a (w.drewN n) := ⟨h.os, h.tape, h.output, h.size, h.block⟩

set_option maxRecDepth 100000 in
set_option maxHeartbeats 4000000 in
theorem law6_any (pv rv : Value) (P : List Int) (R : List (List Int)) (s1 s2 : Int) (w : World) (hP : IntsAt w pv P) (hR : RowsAt w rv R) (h1 : P.length ≤ maxLen) (h2 : R.length ≤ maxLen) (h3 : ∀ i, i < R.length → (R.getD i []).length ≤ maxLen) :
    Calls Try.prog 6 #[pv, rv, .int .u64 s1, .int .u64 s2] w fun e w' => e = .returned (.bool true) ∧ Below w.heap.size w w' := by
  have HP : Hid (IntsAt w pv P) := hP
  have HR : Hid (RowsAt w rv R) := hR
  have H3 : Hid (∀ i, i < R.length → (R.getD i []).length ≤ maxLen) := h3
  have HH : Hid (P.length ≤ maxLen ∧ R.length ≤ maxLen) := ⟨h1, h2⟩
  obtain ⟨pa, pc, rfl, -⟩ := hP
  obtain ⟨ra, rc, rfl, -⟩ := hR
  unfold maxLen at h1 h2
  clear h3
  go_enter Try.func6, Try.ntmps6
  go_wp2_with fail
  refine (bytes23b _ _ _ _ R s1 s2 w HH.out.1 HH.out.2 H3.out HR.out).mono ?_
  rintro e w1 ⟨rfl | ⟨rfl, HL⟩, rfl⟩
  · go_wp2
    go_ret
    exact ⟨rfl, Below.refl _ _⟩
  have H3 : Hid (∀ i, i < R.length → (R.getD i []).length ≤ 1048576) := HL
  clear HL
  by_cases c1 : 65536 < P.length
  · go_wp2
    go_ret
    exact ⟨rfl, Below.refl _ _⟩
  by_cases c2 : 65536 < R.length
  · go_wp2
    go_ret
    exact ⟨rfl, Below.refl _ _⟩
  have l1 : P.length ≤ 65536 := by omega
  have l2 : R.length ≤ 65536 := by omega
  have d1 : decide ((65536 : Int) < (P.length : Int)) = false := by rw [decide_eq_false_iff_not]; omega
  have d2 : decide ((65536 : Int) < (R.length : Int)) = false := by rw [decide_eq_false_iff_not]; omega
  clear h1 h2 c1 c2
  go_upto_if 41 with fail
  go_cut [0] (fun s wx => ∃ a c, s = .slice a P.length c ∧ IntsAt wx (.slice a P.length c) P ∧ Below w.heap.size w wx)
  case first =>
    cases pa with
    | none =>
      go_wp2
      go_meet
      exact ⟨none, pc, rfl, HP.out, Below.refl _ _⟩
    | some a =>
      have hmk := run_make_row' (P := Try.prog) 22 3 (.int .i64 0) 8 Try.underlying22 Try.info3 rfl .i64 .i64 P.length (by omega) (by omega)
      obtain ⟨W, hcp, hi, hb⟩ := copied a pc P w HP.out
      have HI : Hid (IntsAt W (.slice (some ⟨w.heap.size, 0, none⟩) P.length P.length) P ∧ Below w.heap.size w W) := ⟨hi, hb⟩
      clear hi hb
      go_wp2
      go_meet
      exact ⟨_, _, rfl, HI.out.1, HI.out.2⟩
  case rest =>
  obtain ⟨pa', pc', rfl, hi, hB⟩ := hcut
  have HP' : Hid (IntsAt wc (.slice pa' P.length pc') P) := hi
  have HR' : Hid (RowsAt wc (.slice ra R.length rc) R) := HR.out.keep hB
  have HB : Hid (Below w.heap.size w wc) := hB
  clear hi hB HP HR d1 d2
  go_wp2
  go_loop [10, 11] (fun z i => ∃ t : Nat, t ≤ R.length ∧ i = .int .i64 t ∧ z = .int .i64 ((8 * (P.length + sumL R t) : Nat) : Int) ∧ 8 * (P.length + sumL R t) ≤ 1048576) (fun _ i => R.length - (intOf i).toNat)
  case atStart => exact ⟨0, Nat.zero_le _, rfl, by simp [sumL], by rw [sumL]; omega⟩
  case round =>
    obtain ⟨t, ht, rfl, rfl, hq1⟩ := hrel
    have HQ : Hid (8 * (P.length + sumL R t) ≤ 1048576) := hq1
    by_cases hlt : t < R.length
    · obtain ⟨ra', rc', er, hrc⟩ := HR'.out
      obtain ⟨rfl, -, rfl⟩ := Value.slice.inj er
      obtain ⟨b2, o2, u, rfl, hc2, hu⟩ := hrc t hlt
      obtain ⟨a', cap', rfl, -⟩ := hu
      clear hrc er
      have h3 := H3.out t hlt
      obtain ⟨l, hl⟩ : ∃ l, (R.getD t []).length = l := ⟨_, rfl⟩
      have Hl : Hid ((R.getD t []).length = l) := hl
      rw [hl] at h3 hc2
      clear hl
      obtain ⟨q, hq⟩ : ∃ q, 8 * (P.length + sumL R t) = q := ⟨_, rfl⟩
      have Hq : Hid (8 * (P.length + sumL R t) = q) := hq
      rw [hq] at hq1 ⊢
      clear hq
      have j2 : (t : Int) < (R.length : Int) := by omega
      by_cases c : 1048576 < q + 8 * l
      · go_wp2
        go_ret
        exact ⟨rfl, HB.out⟩
      · go_wp2
        go_round
        case rel => exact ⟨t + 1, by omega, by go_num, by rw [sumL, Hl.out]; congr 1; have := Hq.out; omega, by rw [sumL, Hl.out]; have := Hq.out; omega⟩
        case measure => simp [intOf]; omega
    · obtain rfl : t = R.length := by omega
      have H131 : Hid (∀ i, i < R.length → (R.getD i []).length ≤ 131072) := by
        intro i hi
        have h1 := sumL_mono R (show i + 1 ≤ R.length by omega)
        have h2 := HQ.out
        rw [sumL] at h1
        omega
      have HS : Hid (sumL R R.length ≤ 131072) := by have h2 := HQ.out; show sumL R R.length ≤ 131072; omega
      obtain ⟨q, hq⟩ : ∃ q, 8 * (P.length + sumL R R.length) = q := ⟨_, rfl⟩
      rw [hq] at hq1 ⊢
      clear hq
      have dq : decide ((1048576 : Int) < (q : Int)) = false := by rw [decide_eq_false_iff_not]; omega
      go_wp2_with fail
      refine (domain_any _ _ P R wc HP'.out HR'.out l1 (fun i hi => Nat.le_trans (H3.out i hi) (by unfold maxLen; decide))).mono ?_
      rintro e w1 ⟨rfl | ⟨rfl, hdom⟩, rfl⟩
      · go_wp2
        go_ret
        exact ⟨rfl, HB.out⟩
      have HDm : Hid (Dom P R) := hdom
      clear hdom dq hq1
      go_wp2
      go_loop [12, 13] (fun z i => ∃ t : Nat, t ≤ R.length ∧ i = .int .i64 t ∧ z = .int .i64 ((sumL R t : Nat) : Int)) (fun _ i => R.length - (intOf i).toNat)
      case atStart => exact ⟨0, Nat.zero_le _, rfl, rfl⟩
      case round =>
        obtain ⟨t, ht, rfl, rfl⟩ := hrel
        by_cases hlt : t < R.length
        · obtain ⟨ra', rc', er, hrc⟩ := HR'.out
          obtain ⟨rfl, -, rfl⟩ := Value.slice.inj er
          obtain ⟨b2, o2, u, rfl, hc2, hu⟩ := hrc t hlt
          obtain ⟨a', cap', rfl, -⟩ := hu
          clear hrc er
          have h3 := H131.out t hlt
          obtain ⟨l, hl⟩ : ∃ l, (R.getD t []).length = l := ⟨_, rfl⟩
          have Hl : Hid ((R.getD t []).length = l) := hl
          rw [hl] at h3 hc2
          clear hl
          have hq1 : sumL R t ≤ 131072 := Nat.le_trans (sumL_mono R ht) HS.out
          obtain ⟨q, hq⟩ : ∃ q, sumL R t = q := ⟨_, rfl⟩
          have Hq : Hid (sumL R t = q) := hq
          rw [hq] at hq1 ⊢
          clear hq
          have j2 : (t : Int) < (R.length : Int) := by omega
          go_wp2
          go_round
          case rel => exact ⟨t + 1, by omega, by go_num, by rw [sumL, Hl.out, Hq.out]; congr 1⟩
          case measure => simp [intOf]; omega
        · obtain rfl : t = R.length := by omega
          obtain ⟨S, hS⟩ : ∃ S, sumL R R.length = S := ⟨_, rfl⟩
          have HSS : Hid (sumL R R.length = S) := hS
          rw [hS]
          clear hS
          go_wp2_with fail
          refine (newMarket_ex s1 s2 _ _ P R wc HP'.out HR'.out HDm.out.1 l2 H131.out).mono ?_
          rintro e w2 ⟨g1, pb1, h01, rfl, M2, x1, x1g, B2⟩
          have HM2 : Hid (MarketAt w2 g1 pb1 h01 (s1, s2) P R (fun _ _ => 0) ∧ wc.heap.size ≤ pb1 ∧ wc.heap.size ≤ g1 ∧ Below wc.heap.size wc w2) := ⟨M2, x1, x1g, B2⟩
          clear M2 x1 x1g B2
          go_wp2_with fail
          refine (move_ex wc.heap.size g1 pb1 h01 (s1, s2) P R _ w2 HM2.out.1 HDm.out HM2.out.2.1 l2 H131.out).mono ?_
          rintro e w3 ⟨rfl, M3, z3, B3⟩
          have HM3 : Hid (MarketAt w3 g1 pb1 h01 (stpN (s1, s2) (sumL R R.length)) P R (newN (s1, s2) P R) ∧ Below wc.heap.size wc w3) := ⟨M3, HM2.out.2.2.2.trans B3⟩
          clear M3 z3 B3
          go_wp2_with fail
          refine (move_ex wc.heap.size g1 pb1 h01 _ P R _ w3 HM3.out.1 HDm.out HM2.out.2.1 l2 H131.out).mono ?_
          rintro e w4 ⟨rfl, M4, z4, B4⟩
          have HM4 : Hid (MarketAt w4 g1 pb1 h01 (stpN (stpN (s1, s2) (sumL R R.length)) (sumL R R.length)) P R (newN (stpN (s1, s2) (sumL R R.length)) P R) ∧ Below wc.heap.size wc w4) := ⟨M4, HM3.out.2.trans B4⟩
          clear M4 z4 B4
          go_wp2_with fail
          refine (night_any g1 pb1 h01 _ P R _ w4 HM4.out.1 l2 H131.out).mono ?_
          rintro e w5 ⟨rfl, T5, B5⟩
          have HM5 : Hid (MarketAt w5 g1 pb1 h01 (stpN (stpN (s1, s2) (sumL R R.length)) (sumL R R.length)) P R (newN (stpN (s1, s2) (sumL R R.length)) P R) ∧ Below wc.heap.size wc w5 ∧ Tab w5 w4.heap.size R (newN (stpN (s1, s2) (sumL R R.length)) P R)) :=
            ⟨HM4.out.1.keep B5, HM4.out.2.trans (B5.mono HM4.out.2.size), T5⟩
          clear T5 B5
          go_wp2_with fail
          refine (prices_any g1 pb1 h01 _ P R _ w5 HM5.out.1 l2 H131.out).mono ?_
          rintro e w6 ⟨rfl, T6, B6⟩
          have HM6 : Hid (MarketAt w6 g1 pb1 h01 (stpN (stpN (s1, s2) (sumL R R.length)) (sumL R R.length)) P R (newN (stpN (s1, s2) (sumL R R.length)) P R) ∧ Below wc.heap.size wc w6 ∧ Tab w6 w4.heap.size R (newN (stpN (s1, s2) (sumL R R.length)) P R) ∧ Tab w6 w5.heap.size R (fun i j => (R.getD i []).getD j 0)) :=
            ⟨HM5.out.1.keep B6, HM5.out.2.1.trans (B6.mono HM5.out.2.1.size), HM5.out.2.2.keep B6, T6⟩
          clear T6 B6
          go_wp2_with fail
          refine (newMarket_ex s1 s2 _ _ P R w6 (HP'.out.keep HM6.out.2.1) (HR'.out.keep HM6.out.2.1) HDm.out.1 l2 H131.out).mono ?_
          rintro e w7 ⟨g2, pb2, h02, rfl, M7, x2, x2g, B7⟩
          have HM7 : Hid (MarketAt w7 g2 pb2 h02 (s1, s2) P R (fun _ _ => 0) ∧ w6.heap.size ≤ pb2 ∧ w6.heap.size ≤ g2 ∧ Below w6.heap.size w6 w7) := ⟨M7, x2, x2g, B7⟩
          clear M7 x2 x2g B7
          go_wp2_with fail
          have hS2 : S ≤ 131072 := by rw [← HSS.out]; exact HS.out
          go_loopw [18] (fun i wr => ∃ k : Nat, k ≤ S ∧ i = .int .i64 k ∧ MarketAt wr g2 pb2 h02 (stpN (s1, s2) k) P R (fun _ _ => 0) ∧ Below w6.heap.size w6 wr) (fun i _ => S - (intOf i).toNat)
          case atStart => exact ⟨0, Nat.zero_le _, rfl, HM7.out.1, HM7.out.2.2.2⟩
          case round =>
            obtain ⟨k, hk, rfl, M8, B8⟩ := hrel
            have HM8 : Hid (MarketAt wr g2 pb2 h02 (stpN (s1, s2) k) P R (fun _ _ => 0) ∧ Below w6.heap.size w6 wr) := ⟨M8, B8⟩
            clear M8 B8
            by_cases hlk : k < S
            · go_wp2_with fail
              refine (rngNext_any g2 pb2 _ _ wr HM8.out.1.1).mono ?_
              rintro e w8 ⟨rfl, rfl⟩
              go_wp2
              exact ⟨⟨k + 1, hlk, rfl, HM8.out.1.draw, drawW_below HM8.out.2 HM7.out.2.1 _ _⟩, by simp [intOf]; omega⟩
            · obtain rfl : k = S := by omega
              go_wp2_with fail
              refine (move_ex w6.heap.size g2 pb2 h02 _ P R _ wr HM8.out.1 HDm.out HM7.out.2.1 l2 H131.out).mono ?_
              rintro e w9 ⟨rfl, M9, z9, B9⟩
              have HM9 : Hid (MarketAt w9 g2 pb2 h02 (stpN (stpN (s1, s2) (sumL R R.length)) (sumL R R.length)) P R (newN (stpN (s1, s2) (sumL R R.length)) P R) ∧ Below w6.heap.size w6 w9) := ⟨by rw [← HSS.out] at M9; exact M9, HM8.out.2.trans B9⟩
              clear M9 z9 B9
              go_wp2_with fail
              refine (night_any g2 pb2 h02 _ P R _ w9 HM9.out.1 l2 H131.out).mono ?_
              rintro e wz ⟨rfl, T10, B10⟩
              have B6z : Below w6.heap.size w6 wz := HM9.out.2.trans (B10.mono HM9.out.2.size)
              have hg6 := HM6.out.1.1
              have HC : Hid (Cmp w wz w4.heap.size w5.heap.size w9.heap.size g1 pb1 g2 pb2 (.slice pa' P.length pc') (.slice ra R.length rc) (s1, s2) P R) :=
                ⟨HM6.out.2.2.1.keep B6z, HM6.out.2.2.2.keep B6z, T10, (HP'.out.keep HM6.out.2.1).keep B6z, (HR'.out.keep HM6.out.2.1).keep B6z, hg6.keep B6z, HM9.out.1.1.keep B10,
                  Nat.le_trans HB.out.size HM2.out.2.1, Nat.le_trans (Nat.le_trans HB.out.size HM6.out.2.1.size) HM7.out.2.1, by have := hg6.2.1; have := HM7.out.2.2.1; omega, by have := hg6.2.1; have := HM7.out.2.1; omega,
                  (HB.out.trans (HM6.out.2.1.mono HB.out.size)).trans (B6z.mono (Nat.le_trans HB.out.size HM6.out.2.1.size))⟩
              clear T10 B10 B6z hg6 HM2 HM3 HM4 HM5 HM6 HM7 HM8 HM9 HSS HP' HR'
              generalize w4.heap.size = D1 at HC ⊢
              generalize w5.heap.size = D2 at HC ⊢
              generalize w9.heap.size = D3 at HC ⊢
              clear hS2 hk hlk
              go_wp2_with fail
              go_loopw [20] (fun i wy => ∃ t : Nat, t ≤ R.length ∧ i = .int .i64 t ∧ Cmp w wy D1 D2 D3 g1 pb1 g2 pb2 (.slice pa' P.length pc') (.slice ra R.length rc) (s1, s2) P R) (fun i _ => R.length - (intOf i).toNat)
              case atStart => exact ⟨0, Nat.zero_le _, rfl, HC.out⟩
              case round =>
                obtain ⟨t, ht, rfl, hcm⟩ := hrel
                have HC : Hid (Cmp w wr D1 D2 D3 g1 pb1 g2 pb2 (.slice pa' P.length pc') (.slice ra R.length rc) (s1, s2) P R) := hcm
                by_cases hlt : t < R.length
                · obtain ⟨a1, a2, a3, a4, a5, -⟩ := hcm
                  obtain ⟨b1, c1, e1⟩ := a1 t hlt
                  obtain ⟨b2, c2, e2⟩ := a2 t hlt
                  obtain ⟨b3, c3, e3⟩ := a3 t hlt
                  obtain ⟨pa2, pc2, ep, hpc⟩ := a4
                  obtain ⟨rfl, -, rfl⟩ := Value.slice.inj ep
                  obtain ⟨ra2, rc2, er, hrc⟩ := a5
                  obtain ⟨rfl, -, rfl⟩ := Value.slice.inj er
                  obtain ⟨b5, o5, rfl, c5⟩ := hpc t (by rw [HDm.out.1]; exact hlt)
                  obtain ⟨b4, o4, u, rfl, c4, hu⟩ := hrc t hlt
                  have HU : Hid (IntsAt wr u (R.getD t [])) := hu
                  have HE : Hid ((∀ j, j < (R.getD t []).length → wr.cell? ⟨b1, j, none⟩ = some (.int .i64 (newN (stpN (s1, s2) (sumL R R.length)) P R t j))) ∧ (∀ j, j < (R.getD t []).length → wr.cell? ⟨b2, j, none⟩ = some (.int .i64 ((R.getD t []).getD j 0))) ∧
                    (∀ j, j < (R.getD t []).length → wr.cell? ⟨b3, j, none⟩ = some (.int .i64 (newN (stpN (s1, s2) (sumL R R.length)) P R t j)))) := ⟨e1, e2, e3⟩
                  obtain ⟨a', cap', rfl, -⟩ := hu
                  clear a1 a2 a3 e1 e2 e3 hpc hrc ep er
                  have h3 := H131.out t hlt
                  obtain ⟨l, hl⟩ : ∃ l, (R.getD t []).length = l := ⟨_, rfl⟩
                  have Hl : Hid ((R.getD t []).length = l) := hl
                  obtain ⟨p, hp⟩ : ∃ p, P.getD t 0 = p := ⟨_, rfl⟩
                  have Hp : Hid (P.getD t 0 = p) := hp
                  rw [hl] at h3 c1 c2 c3 c4
                  rw [hp] at c5
                  clear hl hp
                  have j1 : (t : Int) < (R.length : Int) := by omega
                  have j2 : (t : Int) < (P.length : Int) := by rw [HDm.out.1]; omega
                  have HJ : Hid (t < R.length) := hlt
                  go_wp2_with fail
                  go_quiet (fail)
                  have HC2 : Hid (Cmp w (wr.drewN nq) D1 D2 D3 g1 pb1 g2 pb2 (.slice (some ⟨b5, o5, none⟩) P.length pc') (.slice (some ⟨b4, o4, none⟩) R.length rc) (s1, s2) P R) := HC.out.keep (below_drewN (Below.refl _ _) _)
                  have HE2 : Hid ((∀ j, j < (R.getD t []).length → (wr.drewN nq).cell? ⟨b1, j, none⟩ = some (.int .i64 (newN (stpN (s1, s2) (sumL R R.length)) P R t j))) ∧ (∀ j, j < (R.getD t []).length → (wr.drewN nq).cell? ⟨b2, j, none⟩ = some (.int .i64 ((R.getD t []).getD j 0))) ∧
                    (∀ j, j < (R.getD t []).length → (wr.drewN nq).cell? ⟨b3, j, none⟩ = some (.int .i64 (newN (stpN (s1, s2) (sumL R R.length)) P R t j)))) := HE.out
                  have HU2 : Hid (IntsAt (wr.drewN nq) (.slice a' (R.getD t []).length cap') (R.getD t [])) := HU.out.keep (below_drewN (Below.refl _ _) _)
                  have c1 : (wr.drewN nq).cell? ⟨D1, t, none⟩ = _ := c1
                  have c2 : (wr.drewN nq).cell? ⟨D2, t, none⟩ = _ := c2
                  have c3 : (wr.drewN nq).cell? ⟨D3, t, none⟩ = _ := c3
                  have c4 : (wr.drewN nq).cell? ⟨b4, o4 + t, none⟩ = _ := c4
                  have c5 : (wr.drewN nq).cell? ⟨b5, o5 + t, none⟩ = _ := c5
                  generalize wr.drewN nq = wn at HC2 HE2 HU2 c1 c2 c3 c4 c5 ⊢
                  clear HC HE HU
                  go_wp2_with fail
                  refine (stepOf_any p wn).mono ?_
                  rintro e w10 ⟨rfl, hw⟩
                  subst hw
                  obtain ⟨sz, hsz⟩ : ∃ sz, stepZ p = sz := ⟨_, rfl⟩
                  have Hsz : Hid (stepZ p = sz) := hsz
                  obtain ⟨sz1, sz2⟩ := stepZ_bd p
                  rw [hsz] at sz1 sz2 ⊢
                  clear hsz
                  have x6 : (sz == 0) = false := by simp; omega
                  have x7 : ¬ sz = 0 := by omega
                  have HSZ : Hid (1 ≤ sz) := sz1
                  clear sz1 sz2
                  go_wp2_with fail
                  go_loop [22] (fun j => ∃ s : Nat, s ≤ l ∧ j = .int .i64 s) (fun j => l - (intOf j).toNat)
                  case atStart => exact ⟨0, Nat.zero_le _, rfl⟩
                  case round =>
                    obtain ⟨s, hs, rfl⟩ := hrel
                    by_cases hsl : s < l
                    · have hsl' : s < (R.getD t []).length := by rw [Hl.out]; exact hsl
                      have k1 := HE2.out.1 s hsl'
                      have k2 := HE2.out.2.1 s hsl'
                      have k3 := HE2.out.2.2 s hsl'
                      obtain ⟨a2, cap2, e2, hin⟩ := HU2.out
                      obtain ⟨rfl, -, rfl⟩ := Value.slice.inj e2
                      obtain ⟨b6, o6, rfl, k4⟩ := hin s hsl'
                      obtain ⟨-, -, hok⟩ := HDm.out.2 t HJ.out
                      obtain ⟨q1, q2, q3⟩ := hok s hsl'
                      rw [Hp.out] at q3
                      obtain ⟨z, hz⟩ : ∃ z, (R.getD t []).getD s 0 = z := ⟨_, rfl⟩
                      have hv : newN (stpN (s1, s2) (sumL R R.length)) P R t s = nightZ p z (outv (stpN (stpN (s1, s2) (sumL R R.length)) (sumL R t + s)).1 (stpN (stpN (s1, s2) (sumL R R.length)) (sumL R t + s)).2) := by unfold newN; rw [Hp.out, hz]
                      rw [hv] at k1 k3
                      rw [hz] at q1 q2 q3 k2 k4
                      have hf := cell_facts p z (outv (stpN (stpN (s1, s2) (sumL R R.length)) (sumL R t + s)).1 (stpN (stpN (s1, s2) (sumL R R.length)) (sumL R t + s)).2) q1 q2 q3
                      generalize outv (stpN (stpN (s1, s2) (sumL R R.length)) (sumL R t + s)).1 (stpN (stpN (s1, s2) (sumL R R.length)) (sumL R t + s)).2 = o at k1 k3 hf
                      obtain ⟨f1, f2, f3, f4, f5, f6, f7⟩ := hf
                      rw [Hsz.out] at f1 f3
                      obtain ⟨v, hv⟩ : ∃ v, nightZ p z o = v := ⟨_, rfl⟩
                      obtain ⟨m, hm⟩ : ∃ m, moveZ p z o = m := ⟨_, rfl⟩
                      obtain ⟨K, hK⟩ : ∃ K, z / 50 = K := ⟨_, rfl⟩
                      rw [hv] at k1 k3 f1 f2
                      rw [hm] at f2 f3 f4 f6 f7
                      rw [hK] at f5 f6 f7
                      have d1 : decide (v < sz) = false := by rw [decide_eq_false_iff_not]; omega
                      have d2 : decide (K < m) = false := by rw [decide_eq_false_iff_not]; omega
                      have d3 : decide (K < -m) = false := by rw [decide_eq_false_iff_not]; omega
                      have j3 : (s : Int) < (l : Int) := by omega
                      clear hv hm hK hz q1 q2 q3 hok hin e2 f1 f6 f7
                      by_cases hm0 : m < 0
                      · go_wp2
                        exact ⟨⟨s + 1, hsl, rfl⟩, by simp [intOf]; omega⟩
                      · go_wp2
                        exact ⟨⟨s + 1, hsl, rfl⟩, by simp [intOf]; omega⟩
                    · go_wp2
                      exact ⟨⟨t + 1, HJ.out, rfl, HC2.out⟩, by simp [intOf]; omega⟩
                · obtain rfl : t = R.length := by omega
                  clear hcm
                  go_wp2_with fail
                  refine (rngNext_any g1 pb1 _ _ wr HC.out.2.2.2.2.2.1).mono ?_
                  rintro e w10 ⟨rfl, rfl⟩
                  go_wp2_with fail
                  refine (rngNext_any g2 pb2 _ _ _ (HC.out.2.2.2.2.2.2.1.apart _ _ (Ne.symm HC.out.2.2.2.2.2.2.2.2.2.1) (Ne.symm HC.out.2.2.2.2.2.2.2.2.2.2.1))).mono ?_
                  rintro e w11 ⟨rfl, rfl⟩
                  go_wp2
                  go_ret
                  exact ⟨rfl, drawW_below (drawW_below HC.out.2.2.2.2.2.2.2.2.2.2.2 HC.out.2.2.2.2.2.2.2.1 _ _) HC.out.2.2.2.2.2.2.2.2.1 _ _⟩
end Go.Proofs.Qxb6613790a
