import Derived.Test.Qxb6613790aMv
namespace Go.Proofs.Qxb6613790a
open Go.RowKit

theorem Try.info34 : (Try.prog.info? 34).map (fun i => (i.zero, i.size, i.bytes)) = some (some (.slice none 0 0), 1, 24) := by kernel_rfl
theorem Try.info2 : (Try.prog.info? 2).map (fun i => (i.zero, i.size, i.bytes)) = some (some (.int .i64 0), 1, 8) := by kernel_rfl

/-- A table of numbers shaped as R. -/
def TabRow (w : World) (D : Nat) (R : List (List Int)) (f : Nat → Nat → Int) (i : Nat) : Prop :=
  ∃ b, w.cell? ⟨D, i, none⟩ = some (.slice (some ⟨b, 0, none⟩) (R.getD i []).length (R.getD i []).length) ∧ ∀ j, j < (R.getD i []).length → w.cell? ⟨b, j, none⟩ = some (.int .i64 (f i j))
def Tab (w : World) (D : Nat) (R : List (List Int)) (f : Nat → Nat → Int) : Prop := ∀ i, i < R.length → TabRow w D R f i

theorem TabRow.keep {w w' : World} {D : Nat} {R : List (List Int)} {f : Nat → Nat → Int} {i : Nat} (h : TabRow w D R f i) (hb : Below w.heap.size w w') : TabRow w' D R f i := by
  obtain ⟨b, h1, h2⟩ := h
  exact ⟨b, cell_keep hb (Nat.le_refl _) h1, fun j hj => cell_keep hb (Nat.le_refl _) (h2 j hj)⟩
theorem Tab.keep {w w' : World} {D : Nat} {R : List (List Int)} {f : Nat → Nat → Int} (h : Tab w D R f) (hb : Below w.heap.size w w') : Tab w' D R f := fun i hi => (h i hi).keep hb

/-- A row of the table so far: the row itself lies beyond the table. -/
def TabR (w : World) (D : Nat) (R : List (List Int)) (f : Nat → Nat → Int) (i : Nat) : Prop :=
  w.cell? ⟨D, i, none⟩ = some (.slice (some ⟨D + 1 + i, 0, none⟩) (R.getD i []).length (R.getD i []).length) ∧ ∀ j, j < (R.getD i []).length → w.cell? ⟨D + 1 + i, j, none⟩ = some (.int .i64 (f i j))
theorem TabR.row {w : World} {D : Nat} {R : List (List Int)} {f : Nat → Nat → Int} {i : Nat} (h : TabR w D R f i) : TabRow w D R f i := ⟨_, h⟩

theorem tab_row {w wo wr : World} {h0 t l : Nat} {R : List (List Int)} {f : Nat → Nat → Int} (hsz : wo.heap.size = h0 + 1 + t) (hl : (R.getD t []).length = l)
    (hB : Below h0 w wo) (ho : Open wo h0 R.length) (ht : t < R.length) (hrows : ∀ i, i < t → TabR wo h0 R f i)
    (hszr : wr.heap.size = wo.heap.size + 1) (hsec : ∀ j, j < l → wr.cell? ⟨wo.heap.size, j, none⟩ = some (.int .i64 (f t j)))
    (hBr : Below wo.heap.size wo wr) (W : World) (hW : W = wr.setCell ⟨h0, t, none⟩ (.slice (some ⟨wo.heap.size, 0, none⟩) l l)) :
    W.heap.size = h0 + 1 + (t + 1) ∧ Open W h0 R.length ∧ (∀ i, i < t + 1 → TabR W h0 R f i) ∧ Below h0 w W := by
  have hor := ho.keep hBr (by omega)
  refine ⟨by rw [hW]; simp [hszr, hsz]; omega, by rw [hW]; exact hor.store _ _, fun i hi => ?_, ?_⟩
  · by_cases e : i = t
    · subst e
      obtain ⟨⟨u, hq⟩, -⟩ := hor i ht
      rw [hsz] at hsec hW
      exact ⟨by rw [hW, World.cell?_setCell_same _ _ _ hq, hl], fun j hj => by rw [hW, World.cell?_setCell_far _ _ _ _ (by show h0 ≠ h0 + 1 + i; omega)]; exact hsec j (by omega)⟩
    · obtain ⟨a1, a2⟩ := hrows i (by omega)
      rw [hW]
      exact ⟨by rw [World.cell?_setCell_other _ _ _ _ (fun h => e (Addr.mk.inj h).2.1.symm)]; exact (hBr.cell (p := ⟨h0, i, none⟩) (by show h0 < _; omega)).trans a1,
        fun j hj => by rw [World.cell?_setCell_far _ _ _ _ (by show h0 ≠ h0 + 1 + i; omega)]; exact (hBr.cell (p := ⟨h0 + 1 + i, j, none⟩) (by show h0 + 1 + i < _; omega)).trans (a2 j hj)⟩
  · rw [hW]
    exact (hB.trans (hBr.mono (by omega))).setCell (p := ⟨h0, t, none⟩) (Nat.le_refl _) _

set_option maxHeartbeats 2000000 in
theorem night_any (g pb h0 : Nat) (st : Int × Int) (P : List Int) (R : List (List Int)) (nt : Nat → Nat → Int) (w : World) (hM : MarketAt w g pb h0 st P R nt) (h2 : R.length ≤ 65536) (h3 : ∀ i, i < R.length → (R.getD i []).length ≤ 131072) :
    Calls Try.prog 19 #[.pointer (some ⟨g, 0, none⟩)] w fun e w' => e = .returned (.slice (some ⟨w.heap.size, 0, none⟩) R.length R.length) ∧ Tab w' w.heap.size R (nt) ∧ Below w.heap.size w w' := by
  have HM : Hid (MarketAt w g pb h0 st P R nt) := hM
  have H3 : Hid (∀ i, i < R.length → (R.getD i []).length ≤ 131072) := h3
  have hg3 := hM.2.1
  have hgw : g < w.heap.size := hM.1.1
  have hhw : h0 < w.heap.size := Nat.lt_of_lt_of_le (base_gt h0 R R.length) hM.2.2.2.2.1
  clear hM h3
  have hmk := run_make_row' (P := Try.prog) 32 34 (.slice none 0 0) 24 Try.underlying32 Try.info34 rfl .i64 .i64 R.length (by omega) (by omega)
  go_enter Try.func19, Try.ntmps19
  go_wp2
  clear hmk hg3
  go_loopw [20] (fun i wr => ∃ t : Nat, t ≤ R.length ∧ i = .int .i64 t ∧ wr.heap.size = w.heap.size + 1 + t ∧ Open wr w.heap.size R.length ∧ (∀ i, i < t → TabR wr w.heap.size R (nt) i) ∧ Below w.heap.size w wr) (fun i _ => R.length - (intOf i).toNat)
  case atStart => exact ⟨0, Nat.zero_le _, rfl, by simp, open_made w _ _ _, fun i hi => absurd hi (Nat.not_lt_zero _), by go_grown⟩
  case round =>
    revert wr
    intro wo hrel
    obtain ⟨t, ht, rfl, hsz, hop, hrows, hB⟩ := hrel
    have HRW : Hid (∀ i, i < t → TabR wo w.heap.size R (nt) i) := hrows
    clear hrows
    have HSZ : Hid (wo.heap.size = w.heap.size + 1 + t) := hsz
    by_cases hlt : t < R.length
    · obtain ⟨c1, c2, c3⟩ := HM.out.2.2.2.2.2 t hlt
      have c1 := (hB.cell (p := ⟨h0, t, none⟩) hhw).trans c1
      have h3 := H3.out t hlt
      obtain ⟨l, hl⟩ : ∃ l, (R.getD t []).length = l := ⟨_, rfl⟩
      have Hl : Hid ((R.getD t []).length = l) := hl
      obtain ⟨kb, hkb⟩ : ∃ kb, base h0 R t = kb := ⟨_, rfl⟩
      have HKB : Hid (base h0 R t = kb) := hkb
      have hkw : kb + 2 + l ≤ w.heap.size := by have := base_lt h0 R hlt; have := HM.out.2.2.2.2.1; rw [hkb, hl] at *; omega
      have HC : Hid (∀ j, j < l → MSec w (kb + 1) kb (kb + 2 + j) j ((R.getD t []).getD j 0) (nt t j)) := by intro j hj; rw [← hkb]; exact c3 j (by omega)
      rw [hkb] at c1
      clear hkb
      rw [hl] at h3 c1
      clear hl c2 c3 hsz
      have j2 : (t : Int) < (R.length : Int) := by omega
      have hmk := run_make_row' (P := Try.prog) 34 2 (.int .i64 0) 8 Try.underlying34 Try.info2 rfl .i64 .i64 l (by omega) (by omega)
      go_wp2
      clear hmk c1
      generalize hwb : wo.alloc (.cells (madeCells #[.int .i64 0] l) 2) = wb
      have hopb : Open wb wo.heap.size l := by rw [← hwb]; exact open_made wo _ l 2
      have hszb : wb.heap.size = wo.heap.size + 1 := by rw [← hwb]; simp
      have hBb : Below wo.heap.size wo wb := by rw [← hwb]; go_grown
      clear hwb
      obtain ⟨D, hD⟩ : ∃ D, wo.heap.size = D := ⟨_, rfl⟩
      rw [hD] at hopb hszb hBb ⊢
      have HD : Hid (wo.heap.size = D) := hD
      have hDw : w.heap.size < D := by have := HSZ.out; omega
      clear hD
      go_loopw [30] (fun j wq => ∃ s : Nat, s ≤ l ∧ j = .int .i64 s ∧ wq.heap.size = D + 1 ∧ Open wq D l ∧ (∀ j, j < s → wq.cell? ⟨D, j, none⟩ = some (.int .i64 (nt t j))) ∧ Below D wo wq) (fun j _ => l - (intOf j).toNat)
      case atStart => exact ⟨0, Nat.zero_le _, rfl, hszb, hopb, fun i hi => absurd hi (Nat.not_lt_zero _), hBb⟩
      case round =>
        clear hopb hszb hBb
        obtain ⟨s, hs, rfl, hszq, hopq, hsec, hBq⟩ := hrel
        have HSQ : Hid (∀ j, j < s → wr.cell? ⟨D, j, none⟩ = some (.int .i64 (nt t j))) := hsec
        have HZQ : Hid (wr.heap.size = D + 1) := hszq
        have hBw : Below w.heap.size w wr := hB.trans (hBq.mono (Nat.le_of_lt hDw))
        clear hsec
        by_cases hsl : s < l
        · obtain ⟨b1, b2, b3, b4, b5⟩ := HC.out s hsl
          have b1 := (hBw.cell (p := ⟨kb + 1, s, none⟩) (by show kb + 1 < _; omega)).trans b1
          have b6 := (hBw.cell (p := ⟨kb + 2 + s, 7, none⟩) (by show kb + 2 + s < _; omega)).trans b4
          obtain ⟨⟨u, hq4⟩, hq5⟩ := hopq s hsl
          obtain ⟨z, hz⟩ : ∃ z, nt t s = z := ⟨_, rfl⟩
          rw [hz] at b6
          have Hz : Hid (nt t s = z) := hz
          have j3 : (s : Int) < (l : Int) := by omega
          clear hz hszq b2 b3 b4 b5
          go_wp2
          refine ⟨⟨s + 1, hsl, rfl, ?_, ?_, ?_, ?_⟩, by simp [intOf]; omega⟩
          · rw [World.size_setCell]; exact HZQ.out
          · exact hopq.store _ _
          · intro j hj
            by_cases e : j = s
            · subst e; rw [World.cell?_setCell_same _ _ _ hq4, Hz.out]
            · rw [World.cell?_setCell_other _ _ _ _ (fun h => e (Addr.mk.inj h).2.1.symm)]; exact HSQ.out j (by omega)
          · exact hBq.setCell (p := ⟨D, s, none⟩) (Nat.le_refl _) _
        · obtain rfl : s = l := by omega
          have HW : Hid (Open wo w.heap.size R.length) := hop
          have hop2 := hop.keep (HD.out ▸ hBq) (by rw [HD.out]; exact hDw)
          obtain ⟨⟨u, hq4⟩, hq5⟩ := hop2 t hlt
          clear hop2 hszq
          go_wp2
          obtain ⟨m1, m2, m3, m4⟩ := tab_row (f := nt) (wo := wo) (wr := wr) (W := wr.setCell ⟨w.heap.size, t, none⟩ (.slice (some ⟨D, 0, none⟩) s s)) HSZ.out Hl.out hB HW.out hlt HRW.out (by rw [HD.out]; exact HZQ.out) (by rw [HD.out]; exact HSQ.out) (by rw [HD.out]; exact hBq) (by rw [HD.out])
          exact ⟨⟨t + 1, hlt, rfl, m1, m2, m3, m4⟩, by simp [intOf]; omega⟩
    · obtain rfl : t = R.length := by omega
      clear hsz
      go_wp2
      go_ret
      exact ⟨rfl, fun i hi => (HRW.out i hi).row, hB⟩

set_option maxHeartbeats 2000000 in
theorem prices_any (g pb h0 : Nat) (st : Int × Int) (P : List Int) (R : List (List Int)) (nt : Nat → Nat → Int) (w : World) (hM : MarketAt w g pb h0 st P R nt) (h2 : R.length ≤ 65536) (h3 : ∀ i, i < R.length → (R.getD i []).length ≤ 131072) :
    Calls Try.prog 24 #[.pointer (some ⟨g, 0, none⟩)] w fun e w' => e = .returned (.slice (some ⟨w.heap.size, 0, none⟩) R.length R.length) ∧ Tab w' w.heap.size R (fun i j => (R.getD i []).getD j 0) ∧ Below w.heap.size w w' := by
  have HM : Hid (MarketAt w g pb h0 st P R nt) := hM
  have H3 : Hid (∀ i, i < R.length → (R.getD i []).length ≤ 131072) := h3
  have hg3 := hM.2.1
  have hgw : g < w.heap.size := hM.1.1
  have hhw : h0 < w.heap.size := Nat.lt_of_lt_of_le (base_gt h0 R R.length) hM.2.2.2.2.1
  clear hM h3
  have hmk := run_make_row' (P := Try.prog) 32 34 (.slice none 0 0) 24 Try.underlying32 Try.info34 rfl .i64 .i64 R.length (by omega) (by omega)
  go_enter Try.func24, Try.ntmps24
  go_wp2
  clear hmk hg3
  go_loopw [20] (fun i wr => ∃ t : Nat, t ≤ R.length ∧ i = .int .i64 t ∧ wr.heap.size = w.heap.size + 1 + t ∧ Open wr w.heap.size R.length ∧ (∀ i, i < t → TabR wr w.heap.size R (fun i j => (R.getD i []).getD j 0) i) ∧ Below w.heap.size w wr) (fun i _ => R.length - (intOf i).toNat)
  case atStart => exact ⟨0, Nat.zero_le _, rfl, by simp, open_made w _ _ _, fun i hi => absurd hi (Nat.not_lt_zero _), by go_grown⟩
  case round =>
    revert wr
    intro wo hrel
    obtain ⟨t, ht, rfl, hsz, hop, hrows, hB⟩ := hrel
    have HRW : Hid (∀ i, i < t → TabR wo w.heap.size R (fun i j => (R.getD i []).getD j 0) i) := hrows
    clear hrows
    have HSZ : Hid (wo.heap.size = w.heap.size + 1 + t) := hsz
    by_cases hlt : t < R.length
    · obtain ⟨c1, c2, c3⟩ := HM.out.2.2.2.2.2 t hlt
      have c1 := (hB.cell (p := ⟨h0, t, none⟩) hhw).trans c1
      have h3 := H3.out t hlt
      obtain ⟨l, hl⟩ : ∃ l, (R.getD t []).length = l := ⟨_, rfl⟩
      have Hl : Hid ((R.getD t []).length = l) := hl
      obtain ⟨kb, hkb⟩ : ∃ kb, base h0 R t = kb := ⟨_, rfl⟩
      have HKB : Hid (base h0 R t = kb) := hkb
      have hkw : kb + 2 + l ≤ w.heap.size := by have := base_lt h0 R hlt; have := HM.out.2.2.2.2.1; rw [hkb, hl] at *; omega
      have HC : Hid (∀ j, j < l → MSec w (kb + 1) kb (kb + 2 + j) j ((R.getD t []).getD j 0) (nt t j)) := by intro j hj; rw [← hkb]; exact c3 j (by omega)
      rw [hkb] at c1
      clear hkb
      rw [hl] at h3 c1
      clear hl c2 c3 hsz
      have j2 : (t : Int) < (R.length : Int) := by omega
      have hmk := run_make_row' (P := Try.prog) 34 2 (.int .i64 0) 8 Try.underlying34 Try.info2 rfl .i64 .i64 l (by omega) (by omega)
      go_wp2
      clear hmk c1
      generalize hwb : wo.alloc (.cells (madeCells #[.int .i64 0] l) 2) = wb
      have hopb : Open wb wo.heap.size l := by rw [← hwb]; exact open_made wo _ l 2
      have hszb : wb.heap.size = wo.heap.size + 1 := by rw [← hwb]; simp
      have hBb : Below wo.heap.size wo wb := by rw [← hwb]; go_grown
      clear hwb
      obtain ⟨D, hD⟩ : ∃ D, wo.heap.size = D := ⟨_, rfl⟩
      rw [hD] at hopb hszb hBb ⊢
      have HD : Hid (wo.heap.size = D) := hD
      have hDw : w.heap.size < D := by have := HSZ.out; omega
      clear hD
      go_loopw [30] (fun j wq => ∃ s : Nat, s ≤ l ∧ j = .int .i64 s ∧ wq.heap.size = D + 1 ∧ Open wq D l ∧ (∀ j, j < s → wq.cell? ⟨D, j, none⟩ = some (.int .i64 ((R.getD t []).getD j 0))) ∧ Below D wo wq) (fun j _ => l - (intOf j).toNat)
      case atStart => exact ⟨0, Nat.zero_le _, rfl, hszb, hopb, fun i hi => absurd hi (Nat.not_lt_zero _), hBb⟩
      case round =>
        clear hopb hszb hBb
        obtain ⟨s, hs, rfl, hszq, hopq, hsec, hBq⟩ := hrel
        have HSQ : Hid (∀ j, j < s → wr.cell? ⟨D, j, none⟩ = some (.int .i64 ((R.getD t []).getD j 0))) := hsec
        have HZQ : Hid (wr.heap.size = D + 1) := hszq
        have hBw : Below w.heap.size w wr := hB.trans (hBq.mono (Nat.le_of_lt hDw))
        clear hsec
        by_cases hsl : s < l
        · obtain ⟨b1, b2, b3, b4, b5⟩ := HC.out s hsl
          have b1 := (hBw.cell (p := ⟨kb + 1, s, none⟩) (by show kb + 1 < _; omega)).trans b1
          have b6 := (hBw.cell (p := ⟨kb + 2 + s, 2, none⟩) (by show kb + 2 + s < _; omega)).trans b3
          obtain ⟨⟨u, hq4⟩, hq5⟩ := hopq s hsl
          obtain ⟨z, hz⟩ : ∃ z, (R.getD t []).getD s 0 = z := ⟨_, rfl⟩
          rw [hz] at b6
          have Hz : Hid ((R.getD t []).getD s 0 = z) := hz
          have j3 : (s : Int) < (l : Int) := by omega
          clear hz hszq b2 b3 b4 b5
          go_wp2
          refine ⟨⟨s + 1, hsl, rfl, ?_, ?_, ?_, ?_⟩, by simp [intOf]; omega⟩
          · rw [World.size_setCell]; exact HZQ.out
          · exact hopq.store _ _
          · intro j hj
            by_cases e : j = s
            · subst e; rw [World.cell?_setCell_same _ _ _ hq4, Hz.out]
            · rw [World.cell?_setCell_other _ _ _ _ (fun h => e (Addr.mk.inj h).2.1.symm)]; exact HSQ.out j (by omega)
          · exact hBq.setCell (p := ⟨D, s, none⟩) (Nat.le_refl _) _
        · obtain rfl : s = l := by omega
          have HW : Hid (Open wo w.heap.size R.length) := hop
          have hop2 := hop.keep (HD.out ▸ hBq) (by rw [HD.out]; exact hDw)
          obtain ⟨⟨u, hq4⟩, hq5⟩ := hop2 t hlt
          clear hop2 hszq
          go_wp2
          obtain ⟨m1, m2, m3, m4⟩ := tab_row (f := fun i j => (R.getD i []).getD j 0) (wo := wo) (wr := wr) (W := wr.setCell ⟨w.heap.size, t, none⟩ (.slice (some ⟨D, 0, none⟩) s s)) HSZ.out Hl.out hB HW.out hlt HRW.out (by rw [HD.out]; exact HZQ.out) (by rw [HD.out]; exact HSQ.out) (by rw [HD.out]; exact hBq) (by rw [HD.out])
          exact ⟨⟨t + 1, hlt, rfl, m1, m2, m3, m4⟩, by simp [intOf]; omega⟩
    · obtain rfl : t = R.length := by omega
      clear hsz
      go_wp2
      go_ret
      exact ⟨rfl, fun i hi => (HRW.out i hi).row, hB⟩

end Go.Proofs.Qxb6613790a
