import Derived.Test.Qxb6613790aRd
namespace Go.Proofs.Qxb6613790a
open Go.RowKit

theorem Try.info59 : (Try.prog.info? 59).map (fun i => (i.zero, i.size, i.bytes)) = some (some (.slice none 0 0), 1, 24) := by kernel_rfl
theorem Try.info44 : (Try.prog.info? 44).map (fun i => (i.zero, i.size, i.bytes)) = some (some (.pointer none), 1, 8) := by kernel_rfl

/-- How many securities the first t kinds have. -/
def sumL (R : List (List Int)) : Nat → Nat
  | 0 => 0
  | t + 1 => sumL R t + (R.getD t []).length
/-- The block at which kind t begins: its kind, its row, its securities. -/
def base (h0 : Nat) (R : List (List Int)) (t : Nat) : Nat := h0 + 1 + 2 * t + sumL R t
theorem base_zero (h0 : Nat) (R : List (List Int)) : base h0 R 0 = h0 + 1 := rfl
theorem base_succ (h0 : Nat) (R : List (List Int)) (t : Nat) : base h0 R (t + 1) = base h0 R t + 2 + (R.getD t []).length := by unfold base; rw [sumL]; omega
theorem sumL_mono (R : List (List Int)) {s t : Nat} (h : s ≤ t) : sumL R s ≤ sumL R t := by
  induction t with
  | zero =>
    obtain rfl : s = 0 := by omega
    exact Nat.le_refl _
  | succ t ih =>
    by_cases e : s = t + 1
    · rw [e]; exact Nat.le_refl _
    · have := ih (by omega); rw [sumL]; omega
theorem base_lt (h0 : Nat) (R : List (List Int)) {s t : Nat} (h : s < t) : base h0 R s + 2 + (R.getD s []).length ≤ base h0 R t := by
  rw [← base_succ]
  have := sumL_mono R (show s + 1 ≤ t by omega)
  unfold base; omega
theorem base_gt (h0 : Nat) (R : List (List Int)) (t : Nat) : h0 < base h0 R t := by unfold base; omega

/-- One security: its place in the row, its kind, its price, its night price. -/
def MSec (w : World) (rb kb s j : Nat) (price night : Int) : Prop :=
  w.cell? ⟨rb, j, none⟩ = some (.pointer (some ⟨s, 0, none⟩)) ∧ w.cell? ⟨s, 1, none⟩ = some (.pointer (some ⟨kb, 0, none⟩)) ∧ w.cell? ⟨s, 2, none⟩ = some (.int .i64 price) ∧ w.cell? ⟨s, 7, none⟩ = some (.int .i64 night) ∧ w.frozen? ⟨s, 7, none⟩ = false
/-- One kind: its row in the market, its places, its securities. -/
def MRow (w : World) (h0 : Nat) (P : List Int) (R : List (List Int)) (nt : Nat → Nat → Int) (i : Nat) : Prop :=
  w.cell? ⟨h0, i, none⟩ = some (.slice (some ⟨base h0 R i + 1, 0, none⟩) (R.getD i []).length (R.getD i []).length) ∧ w.cell? ⟨base h0 R i, 3, none⟩ = some (.int .i64 (P.getD i 0)) ∧
    ∀ j, j < (R.getD i []).length → MSec w (base h0 R i + 1) (base h0 R i) (base h0 R i + 2 + j) j ((R.getD i []).getD j 0) (nt i j)

theorem MSec.keep {w w' : World} {B rb kb s j : Nat} {price night : Int} (h : MSec w rb kb s j price night) (hb : Below B w w') (h1 : rb < B) (h2 : s < B) : MSec w' rb kb s j price night := by
  obtain ⟨a1, a2, a3, a4, a5⟩ := h
  exact ⟨(hb.cell (p := ⟨rb, j, none⟩) h1).trans a1, (hb.cell (p := ⟨s, 1, none⟩) h2).trans a2, (hb.cell (p := ⟨s, 2, none⟩) h2).trans a3, (hb.cell (p := ⟨s, 7, none⟩) h2).trans a4, (hb.frozen (p := ⟨s, 7, none⟩) h2).trans a5⟩
theorem MRow.keep {w w' : World} {B h0 : Nat} {P : List Int} {R : List (List Int)} {nt : Nat → Nat → Int} {i : Nat} (h : MRow w h0 P R nt i) (hb : Below B w w') (hB : base h0 R (i + 1) ≤ B) : MRow w' h0 P R nt i := by
  obtain ⟨a1, a2, a3⟩ := h
  have hg := base_gt h0 R i
  rw [base_succ] at hB
  refine ⟨(hb.cell (p := ⟨h0, i, none⟩) (by show h0 < B; omega)).trans a1, (hb.cell (p := ⟨base h0 R i, 3, none⟩) (by show base h0 R i < B; omega)).trans a2, fun j hj => ?_⟩
  exact (a3 j hj).keep hb (by omega) (by omega)
/-- A store into the market's own row, at another place. -/
theorem MRow.store {w : World} {h0 : Nat} {P : List Int} {R : List (List Int)} {nt : Nat → Nat → Int} {i : Nat} (h : MRow w h0 P R nt i) (t : Nat) (v : Value) (hi : i ≠ t) : MRow (w.setCell ⟨h0, t, none⟩ v) h0 P R nt i := by
  obtain ⟨a1, a2, a3⟩ := h
  have hg := base_gt h0 R i
  refine ⟨?_, ?_, fun j hj => ?_⟩
  · rw [World.cell?_setCell_other _ _ _ _ (fun h => hi (Addr.mk.inj h).2.1.symm)]; exact a1
  · rw [World.cell?_setCell_far _ _ _ _ (by show h0 ≠ base h0 R i; omega)]; exact a2
  · obtain ⟨b1, b2, b3, b4, b5⟩ := a3 j hj
    exact ⟨by rw [World.cell?_setCell_far _ _ _ _ (by show h0 ≠ base h0 R i + 1; omega)]; exact b1, by rw [World.cell?_setCell_far _ _ _ _ (by show h0 ≠ base h0 R i + 2 + j; omega)]; exact b2,
      by rw [World.cell?_setCell_far _ _ _ _ (by show h0 ≠ base h0 R i + 2 + j; omega)]; exact b3, by rw [World.cell?_setCell_far _ _ _ _ (by show h0 ≠ base h0 R i + 2 + j; omega)]; exact b4, by rw [World.frozen?_setCell]; exact b5⟩

/-- A row that may be written, whatever it holds. -/
def Open (w : World) (b n : Nat) : Prop := ∀ i, i < n → (∃ u, w.cell? ⟨b, i, none⟩ = some u) ∧ w.frozen? ⟨b, i, none⟩ = false
theorem open_made (w : World) (z : Value) (n t : Nat) : Open (w.alloc (.cells (madeCells #[z] n) t)) w.heap.size n := fun i hi =>
  ⟨⟨z, by rw [World.cell?_alloc_new, made_get _ _ _ hi]⟩, World.frozen?_alloc_at _ _ _ _ rfl⟩
theorem Open.keep {w w' : World} {B b n : Nat} (h : Open w b n) (hb : Below B w w') (h1 : b < B) : Open w' b n := fun i hi => by
  obtain ⟨⟨u, a1⟩, a2⟩ := h i hi
  exact ⟨⟨u, (hb.cell (p := ⟨b, i, none⟩) h1).trans a1⟩, (hb.frozen (p := ⟨b, i, none⟩) h1).trans a2⟩
theorem Open.store {w : World} {b n : Nat} (h : Open w b n) (a : Addr) (v : Value) : Open (w.setCell a v) b n := fun i hi => by
  obtain ⟨⟨u, a1⟩, a2⟩ := h i hi
  exact ⟨cell?_setCell_some a1, by rw [World.frozen?_setCell]; exact a2⟩

/-- One more security laid into its row. -/
theorem sec_made {w : World} {D s l : Nat} {p z : Int} {T : List Int} (hz : w.heap.size = D + 2 + s) (hk : w.cell? ⟨D, 3, none⟩ = some (.int .i64 p)) (ho : Open w (D + 1) l) (hsl : s < l) (hT : T.getD s 0 = z)
    (hs : ∀ j, j < s → MSec w (D + 1) D (D + 2 + j) j (T.getD j 0) 0) (W : World)
    (hW : W = (w.setCell ⟨D + 1, s, none⟩ (.pointer (some ⟨w.heap.size, 0, none⟩))).alloc (.cells #[.string { data := #[] }, .pointer (some ⟨D, 0, none⟩), .int .i64 z, .int .u64 0, .int .i64 0, .pointer none, .bool false, .int .i64 0, .string { data := #[] }, .bool false, .bool false] 65)) :
    W.heap.size = D + 2 + (s + 1) ∧ W.cell? ⟨D, 3, none⟩ = some (.int .i64 p) ∧ Open W (D + 1) l ∧ (∀ j, j < s + 1 → MSec W (D + 1) D (D + 2 + j) j (T.getD j 0) 0) ∧ Below (D + 1) w W := by
  obtain ⟨⟨u, hq4⟩, hq5⟩ := ho s hsl
  obtain ⟨w1, hw1⟩ : ∃ w1, w1 = w.setCell ⟨D + 1, s, none⟩ (.pointer (some ⟨w.heap.size, 0, none⟩)) := ⟨_, rfl⟩
  have hs1 : w1.heap.size = D + 2 + s := by rw [hw1]; simp [hz]
  rw [← hw1] at hW
  have hB1 : Below (D + 2 + s) w1 W := by rw [← hs1, hW]; exact (Below.refl _ _).alloc (Nat.le_refl _) _
  have hB0 : Below (D + 1) w w1 := by rw [hw1]; exact (Below.refl (D + 1) w).setCell (p := ⟨D + 1, s, none⟩) (Nat.le_refl _) _
  refine ⟨by rw [hW]; simp [hs1]; omega, ?_, ?_, ?_, ?_⟩
  · exact (hB1.cell (p := ⟨D, 3, none⟩) (by show D < _; omega)).trans ((hB0.cell (p := ⟨D, 3, none⟩) (by show D < _; omega)).trans hk)
  · have : Open w1 (D + 1) l := by rw [hw1]; exact ho.store _ _
    exact this.keep hB1 (by omega)
  · intro j hj
    by_cases e : j = s
    · subst e
      refine ⟨(hB1.cell (p := ⟨D + 1, j, none⟩) (by show D + 1 < _; omega)).trans ?_, ?_, ?_, ?_, ?_⟩
      · rw [hw1, World.cell?_setCell_same _ _ _ hq4, hz]
      · rw [hW, ← hs1, World.cell?_alloc_new]; rfl
      · rw [hW, ← hs1, World.cell?_alloc_new, hT]; rfl
      · rw [hW, ← hs1, World.cell?_alloc_new]; rfl
      · rw [hW]; exact World.frozen?_alloc_at _ _ _ _ hs1.symm
    · have hm := hs j (by omega)
      obtain ⟨b1, b2, b3, b4, b5⟩ := hm
      have : MSec w1 (D + 1) D (D + 2 + j) j (T.getD j 0) 0 := by
        rw [hw1]
        exact ⟨by rw [World.cell?_setCell_other _ _ _ _ (fun h => e (Addr.mk.inj h).2.1.symm)]; exact b1, by rw [World.cell?_setCell_far _ _ _ _ (by show D + 1 ≠ D + 2 + j; omega)]; exact b2,
          by rw [World.cell?_setCell_far _ _ _ _ (by show D + 1 ≠ D + 2 + j; omega)]; exact b3, by rw [World.cell?_setCell_far _ _ _ _ (by show D + 1 ≠ D + 2 + j; omega)]; exact b4, by rw [World.frozen?_setCell]; exact b5⟩
      exact this.keep hB1 (by omega) (by omega)
  · exact hB0.trans (hB1.mono (by omega))

/-- One more kind laid into the market. -/
theorem kind_made {w wo wr : World} {h0 t l : Nat} {p : Int} {P : List Int} {R : List (List Int)} (hsz : wo.heap.size = base h0 R t) (hl : (R.getD t []).length = l) (hp : P.getD t 0 = p)
    (hB : Below h0 w wo) (ho : Open wo h0 R.length) (ht : t < R.length) (hrows : ∀ i, i < t → MRow wo h0 P R (fun _ _ => 0) i)
    (hszr : wr.heap.size = wo.heap.size + 2 + l) (hk3 : wr.cell? ⟨wo.heap.size, 3, none⟩ = some (.int .i64 p)) (hsec : ∀ j, j < l → MSec wr (wo.heap.size + 1) wo.heap.size (wo.heap.size + 2 + j) j ((R.getD t []).getD j 0) 0)
    (hBr : Below wo.heap.size wo wr) (W : World) (hW : W = wr.setCell ⟨h0, t, none⟩ (.slice (some ⟨wo.heap.size + 1, 0, none⟩) l l)) :
    W.heap.size = base h0 R (t + 1) ∧ Open W h0 R.length ∧ (∀ i, i < t + 1 → MRow W h0 P R (fun _ _ => 0) i) ∧ Below h0 w W := by
  have hg := base_gt h0 R t
  have hor := ho.keep hBr (by omega)
  refine ⟨by rw [hW, base_succ, hl]; simp [hszr, hsz], by rw [hW]; exact hor.store _ _, fun i hi => ?_, ?_⟩
  · by_cases e : i = t
    · subst e
      obtain ⟨⟨u, hq⟩, -⟩ := hor i ht
      rw [hsz] at hk3 hsec hW
      refine ⟨by rw [hW, World.cell?_setCell_same _ _ _ hq, hl], by rw [hW, World.cell?_setCell_far _ _ _ _ (by show h0 ≠ base h0 R i; omega), hp]; exact hk3, fun j hj => ?_⟩
      obtain ⟨b1, b2, b3, b4, b5⟩ := hsec j (by omega)
      rw [hW]
      exact ⟨by rw [World.cell?_setCell_far _ _ _ _ (by show h0 ≠ base h0 R i + 1; omega)]; exact b1, by rw [World.cell?_setCell_far _ _ _ _ (by show h0 ≠ base h0 R i + 2 + j; omega)]; exact b2,
        by rw [World.cell?_setCell_far _ _ _ _ (by show h0 ≠ base h0 R i + 2 + j; omega)]; exact b3, by rw [World.cell?_setCell_far _ _ _ _ (by show h0 ≠ base h0 R i + 2 + j; omega)]; exact b4, by rw [World.frozen?_setCell]; exact b5⟩
    · have hlt : i < t := by omega
      rw [hW]
      have hle : base h0 R (i + 1) ≤ wo.heap.size := by rw [base_succ, hsz]; exact base_lt h0 R hlt
      exact ((hrows i hlt).keep hBr hle).store t _ e
  · rw [hW]
    exact (hB.trans (hBr.mono (by omega))).setCell (Nat.le_refl _) _

set_option maxHeartbeats 2000000 in
theorem setMarket_any (g : Nat) (pv rv old : Value) (P : List Int) (R : List (List Int)) (w : World) (hP : IntsAt w pv P) (hR : RowsAt w rv R) (hl : P.length = R.length) (h2 : R.length ≤ 65536) (h3 : ∀ i, i < R.length → (R.getD i []).length ≤ 131072)
    (hg : g < w.heap.size) (hgc : w.cell? ⟨g, 3, none⟩ = some old) (hgf : w.frozen? ⟨g, 3, none⟩ = false) :
    Calls Try.prog 20 #[.pointer (some ⟨g, 0, none⟩), pv, rv] w fun e w' => e = .returned (.tuple #[]) ∧
      (∀ i, i < R.length → MRow w' w.heap.size P R (fun _ _ => 0) i) ∧ w'.cell? ⟨g, 3, none⟩ = some (.slice (some ⟨w.heap.size, 0, none⟩) R.length R.length) ∧ w'.heap.size = base w.heap.size R R.length ∧
      ∃ w1, Below w.heap.size w w1 ∧ w' = w1.setCell ⟨g, 3, none⟩ (.slice (some ⟨w.heap.size, 0, none⟩) R.length R.length) := by
  have HP : Hid (IntsAt w pv P) := hP
  have HR : Hid (RowsAt w rv R) := hR
  have H3 : Hid (∀ i, i < R.length → (R.getD i []).length ≤ 131072) := h3
  have HL : Hid (P.length = R.length) := hl
  obtain ⟨pa, pc, rfl, -⟩ := hP
  obtain ⟨ra, rc, rfl, -⟩ := hR
  have l1 : P.length ≤ R.length := by omega
  have l2 : R.length ≤ P.length := by omega
  clear h3 hl
  have hmk := run_make_row' (P := Try.prog) 49 59 (.slice none 0 0) 24 Try.underlying49 Try.info59 rfl .i64 .i64 R.length (by omega) (by omega)
  go_enter Try.func20, Try.ntmps20
  go_wp2
  clear hmk
  go_loopw [16] (fun i wr => ∃ t : Nat, t ≤ R.length ∧ i = .int .i64 t ∧ wr.heap.size = base w.heap.size R t ∧ Open wr w.heap.size R.length ∧ (∀ i, i < t → MRow wr w.heap.size P R (fun _ _ => 0) i) ∧ Below w.heap.size w wr) (fun i _ => R.length - (intOf i).toNat)
  case atStart => exact ⟨0, Nat.zero_le _, rfl, by rw [base_zero]; simp, open_made w _ _ _, fun i hi => absurd hi (Nat.not_lt_zero _), by go_grown⟩
  case round =>
    revert wr
    intro wo hrel
    obtain ⟨t, ht, rfl, hsz, hop, hrows, hB⟩ := hrel
    have HRW : Hid (∀ i, i < t → MRow wo w.heap.size P R (fun _ _ => 0) i) := hrows
    clear hrows
    by_cases hlt : t < R.length
    · have hPr := HP.out.keep hB
      have hRr := HR.out.keep hB
      obtain ⟨pa', pc', ep, hpc⟩ := hPr
      obtain ⟨ra', rc', er, hrc⟩ := hRr
      obtain ⟨rfl, -, rfl⟩ := Value.slice.inj ep
      obtain ⟨rfl, -, rfl⟩ := Value.slice.inj er
      obtain ⟨b, o, rfl, hc1⟩ := hpc t (by omega)
      obtain ⟨b2, o2, u, rfl, hc2, hu⟩ := hrc t hlt
      have HU : Hid (IntsAt wo u (R.getD t [])) := hu
      obtain ⟨a', cap', rfl, -⟩ := hu
      clear hpc hrc ep er
      have h3 := H3.out t hlt
      obtain ⟨l, hl⟩ : ∃ l, (R.getD t []).length = l := ⟨_, rfl⟩
      obtain ⟨p, hp⟩ : ∃ p, P.getD t 0 = p := ⟨_, rfl⟩
      have Hl : Hid ((R.getD t []).length = l) := hl
      have Hp : Hid (P.getD t 0 = p) := hp
      rw [hl] at h3 hc2
      rw [hp] at hc1
      clear hl hp
      have HSZ : Hid (wo.heap.size = base w.heap.size R t) := hsz
      have j1 : (t : Int) < (P.length : Int) := by omega
      have j2 : (t : Int) < (R.length : Int) := by omega
      have hb1 : b < wo.heap.size := World.block_lt_of_cell? wo _ hc1
      have hb2 : b2 < wo.heap.size := World.block_lt_of_cell? wo _ hc2
      have hb2a : b2 < wo.heap.size + 1 := by omega
      have hb2b : b2 < wo.heap.size + 1 + 1 := by omega
      clear hsz
      have hmk := run_make_row' (P := Try.prog) 59 44 (.pointer none) 8 Try.underlying59 Try.info44 rfl .i64 .i64 l (by omega) (by omega)
      go_wp2
      clear hmk
      generalize hwb : (wo.alloc _).alloc (.cells (madeCells #[.pointer none] l) 44) = wb
      have hk3 : wb.cell? ⟨wo.heap.size, 3, none⟩ = some (.int .i64 p) := by rw [← hwb]; simp [go_sem]
      have hopb : Open wb (wo.heap.size + 1) l := by rw [← hwb]; have := open_made (wo.alloc (.cells #[.string { data := #[] }, .string { data := #[] }, .int .i64 0, .int .i64 p, .int .i64 0, .int .i64 0, .int .i64 0, .int .i64 0, .int .i64 0, .int .i64 0, .int .i64 0, .int .i64 0, .nilFunc] 68)) (.pointer none) l 44; simpa using this
      have hszb : wb.heap.size = wo.heap.size + 2 := by rw [← hwb]; simp
      have hBb : Below wo.heap.size wo wb := by rw [← hwb]; go_grown
      clear hwb
      obtain ⟨D, hD⟩ : ∃ D, wo.heap.size = D := ⟨_, rfl⟩
      rw [hD] at hk3 hopb hszb hBb hb1 hb2 ⊢
      have HD : Hid (wo.heap.size = D) := hD
      clear hD hb2a hb2b
      go_loopw [36] (fun j wq => ∃ s : Nat, s ≤ l ∧ j = .int .i64 s ∧ wq.heap.size = D + 2 + s ∧ wq.cell? ⟨D, 3, none⟩ = some (.int .i64 p) ∧ Open wq (D + 1) l ∧ (∀ j, j < s → MSec wq (D + 1) D (D + 2 + j) j ((R.getD t []).getD j 0) 0) ∧ Below D wo wq) (fun j _ => l - (intOf j).toNat)
      case atStart => exact ⟨0, Nat.zero_le _, rfl, hszb, hk3, hopb, fun i hi => absurd hi (Nat.not_lt_zero _), hBb⟩
      case round =>
        clear hk3 hopb hszb hBb
        obtain ⟨s, hs, rfl, hszq, hk3, hopq, hsec, hBq⟩ := hrel
        have HSQ : Hid (∀ j, j < s → MSec wr (D + 1) D (D + 2 + j) j ((R.getD t []).getD j 0) 0) := hsec
        have HZQ : Hid (wr.heap.size = D + 2 + s) := hszq
        clear hsec
        by_cases hsl : s < l
        · obtain ⟨a2, cap2, e2, hin⟩ := HU.out
          obtain ⟨rfl, -, rfl⟩ := Value.slice.inj e2
          obtain ⟨b3, o3, rfl, hc3⟩ := hin s (by rw [Hl.out]; exact hsl)
          have hb3 : b3 < D := by have := World.block_lt_of_cell? wo _ hc3; rw [HD.out] at this; exact this
          have hq2 : wr.cell? ⟨b2, o2 + t, none⟩ = some (.slice (some ⟨b3, o3, none⟩) l cap') := (hBq.cell (p := ⟨b2, o2 + t, none⟩) hb2).trans hc2
          have hq3 : wr.cell? ⟨b3, o3 + s, none⟩ = some (.int .i64 ((R.getD t []).getD s 0)) := (hBq.cell (p := ⟨b3, o3 + s, none⟩) hb3).trans hc3
          obtain ⟨⟨u, hq4⟩, hq5⟩ := hopq s hsl
          clear hin hc3
          obtain ⟨z, hz⟩ : ∃ z, (R.getD t []).getD s 0 = z := ⟨_, rfl⟩
          rw [hz] at hq3
          have Hz : Hid ((R.getD t []).getD s 0 = z) := hz
          clear hz
          have j3 : (s : Int) < (l : Int) := by omega
          have j4 : b2 < wr.heap.size := by omega
          have j5 : b3 < wr.heap.size := by omega
          have j6 : D + 1 < wr.heap.size := by omega
          clear hszq
          go_wp2
          obtain ⟨m1, m2, m3, m4, m5⟩ := sec_made HZQ.out hk3 hopq hsl Hz.out HSQ.out _ rfl
          exact ⟨⟨s + 1, hsl, rfl, m1, m2, m3, m4, hBq.trans (m5.mono (by omega))⟩, by simp [intOf]; omega⟩
        · obtain rfl : s = l := by omega
          have HW : Hid (Open wo w.heap.size R.length) := hop
          have hq2 : wr.cell? ⟨b2, o2 + t, none⟩ = some (.slice (a') s cap') := (hBq.cell (p := ⟨b2, o2 + t, none⟩) hb2).trans hc2
          have hop2 := hop.keep (HD.out ▸ hBq) (by rw [HSZ.out]; exact base_gt _ _ _)
          obtain ⟨⟨u, hq4⟩, hq5⟩ := hop2 t hlt
          have j7 : w.heap.size < wr.heap.size := by have := base_gt w.heap.size R t; have := HSZ.out; have := HZQ.out; have := HD.out; omega
          clear hszq hop2
          go_wp2
          obtain ⟨m1, m2, m3, m4⟩ := kind_made (wo := wo) (wr := wr) (W := wr.setCell ⟨w.heap.size, t, none⟩ (.slice (some ⟨D + 1, 0, none⟩) s s)) HSZ.out Hl.out Hp.out hB HW.out hlt HRW.out (by rw [HD.out]; exact HZQ.out) (by rw [HD.out]; exact hk3) (by rw [HD.out]; exact HSQ.out) (by rw [HD.out]; exact hBq) (by rw [HD.out])
          exact ⟨⟨t + 1, hlt, rfl, m1, m2, m3, m4⟩, by simp [intOf]; omega⟩
    · obtain rfl : t = R.length := by omega
      have HSZ : Hid (wo.heap.size = base w.heap.size R R.length) := hsz
      have q1 : wo.cell? ⟨g, 3, none⟩ = some old := (hB.cell (p := ⟨g, 3, none⟩) hg).trans hgc
      have q2 : wo.frozen? ⟨g, 3, none⟩ = false := (hB.frozen (p := ⟨g, 3, none⟩) hg).trans hgf
      clear hsz
      go_wp2
      go_end0
      refine ⟨rfl, fun i hi => ?_, ?_, ?_, _, hB, rfl⟩
      · obtain ⟨a1, a2, a3⟩ := HRW.out i hi
        have hg2 := base_gt w.heap.size R i
        refine ⟨?_, ?_, fun j hj => ?_⟩
        · rw [World.cell?_setCell_far _ _ _ _ (by show g ≠ w.heap.size; omega)]; exact a1
        · rw [World.cell?_setCell_far _ _ _ _ (by show g ≠ base w.heap.size R i; omega)]; exact a2
        · obtain ⟨b1, b2, b3, b4, b5⟩ := a3 j hj
          exact ⟨by rw [World.cell?_setCell_far _ _ _ _ (by show g ≠ base w.heap.size R i + 1; omega)]; exact b1, by rw [World.cell?_setCell_far _ _ _ _ (by show g ≠ base w.heap.size R i + 2 + j; omega)]; exact b2,
            by rw [World.cell?_setCell_far _ _ _ _ (by show g ≠ base w.heap.size R i + 2 + j; omega)]; exact b3, by rw [World.cell?_setCell_far _ _ _ _ (by show g ≠ base w.heap.size R i + 2 + j; omega)]; exact b4, by rw [World.frozen?_setCell]; exact b5⟩
      · rw [World.cell?_setCell_same _ _ _ q1]
      · rw [World.size_setCell]; exact HSZ.out
end Go.Proofs.Qxb6613790a
