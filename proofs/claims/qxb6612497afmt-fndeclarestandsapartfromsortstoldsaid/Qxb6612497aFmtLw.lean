import Derived.Test.Qxb6612497aFmtSd
import Derived.Test.Qxb6612497aFmtNs
namespace Go.Proofs.Qxb6612497aFmt
open Go.RowKit

theorem zero4 (w : World) : (zeroValue 4).run Tryf.prog w = .ok (.bool false) w := by kernel_rfl

set_option maxHeartbeats 1000000 in
theorem zzSortDecl_new (m q d : Nat) (l c : Int) (s : ByteArray) (w : World) (v : Value) (xs : List Value) (hs : s.size ≤ maxLen) (L : List (List UInt8)) (hL : L.contains s.data.toList = false) (hLl : L.length < 65536) (hq : m + 8 ≤ q) (hqw : q ≤ w.heap.size)
    (hd : d < w.heap.size) (hdm : d ≠ m ∧ d ≠ m + 1 ∧ d ≠ m + 6) (d3 : w.cell? ⟨d, 3, none⟩ = some (.string { data := #[] })) (d4 : w.cell? ⟨d, 4, none⟩ = some (.int .i64 l)) (d5 : w.cell? ⟨d, 5, none⟩ = some (.int .i64 c)) (d6 : w.cell? ⟨d, 6, none⟩ = some (.string s))
    (r0 : w.cell? ⟨m + 7, 0, none⟩ = some (.pointer (some ⟨m, 0, none⟩))) (r1 : w.cell? ⟨m + 7, 1, none⟩ = some (.map (some (m + 1)))) (r7 : w.cell? ⟨m + 7, 7, none⟩ = some (.map (some (m + 6))))
    (rm : w.cell? ⟨m, 0, none⟩ = some v) (rf : w.frozen? ⟨m, 0, none⟩ = false) (ho : w.ownsRow q 65 1 v L.length xs)
    (hm : MapOf w (m + 6) (.agg #[.string { data := #[] }, .int .i64 l, .int .i64 c]) (.agg #[.string { data := #[] }, .int .i64 0, .int .i64 0]) L) (hp : MapR w (m + 1) rdp L) :
    Calls Tryf.prog 7 #[.pointer (some ⟨m + 7, 0, none⟩), .pointer (some ⟨d, 0, none⟩)] w fun e w' => e = .returned (.tuple #[]) ∧
      MapOf w' (m + 6) (.agg #[.string { data := #[] }, .int .i64 l, .int .i64 c]) (.agg #[.string { data := #[] }, .int .i64 0, .int .i64 0]) (s.data.toList :: L) ∧ MapR w' (m + 1) rdp (s.data.toList :: L) ∧
      (∃ v' xs', w'.cell? ⟨m, 0, none⟩ = some v' ∧ w'.frozen? ⟨m, 0, none⟩ = false ∧ w'.ownsRow q 65 1 v' (L.length + 1) xs') ∧ Keeps m q w w' := by
  go_enter Tryf.func7, Tryf.ntmps7
  go_wp2_with fail
  refine (sortDecl_new m q d l c s w v xs hs L hL hLl hq hqw hd hdm d3 d4 d5 d6 r0 r1 r7 rm rf ho hm hp).mono ?_
  rintro e w1 ⟨rfl, h1, h2, h3, h4⟩
  go_wp2
  go_end0
  exact ⟨rfl, h1, h2, h3, h4⟩

/-- What stands at each round of the first loop: L the names seen so far, each once. -/
structure LS (w wr : World) (m : Nat) (l c : Int) (L : List (List UInt8)) : Prop where
  r : RCells wr m
  names : MapOf wr (m + 5) (.agg #[.string { data := #[] }, .int .i64 c, .int .i64 l]) (.agg #[.string { data := #[] }, .int .i64 0, .int .i64 0]) L
  sortAt : MapOf wr (m + 6) (.agg #[.string { data := #[] }, .int .i64 l, .int .i64 c]) (.agg #[.string { data := #[] }, .int .i64 0, .int .i64 0]) L
  sorts : MapR wr (m + 1) rdp L
  rows : ∃ v xs, wr.cell? ⟨m, 0, none⟩ = some v ∧ wr.frozen? ⟨m, 0, none⟩ = false ∧ wr.ownsRow (m + 11) 65 1 v L.length xs
  seen : MapOf wr (m + 8) (.bool true) (.bool false) L
  sp : wr.cell? ⟨m + 9, 0, none⟩ = some (.string { data := #[] }) ∧ wr.cell? ⟨m + 9, 1, none⟩ = some (.int .i64 l) ∧ wr.cell? ⟨m + 9, 2, none⟩ = some (.int .i64 c)
  np : wr.cell? ⟨m + 10, 0, none⟩ = some (.string { data := #[] }) ∧ wr.cell? ⟨m + 10, 1, none⟩ = some (.int .i64 c) ∧ wr.cell? ⟨m + 10, 2, none⟩ = some (.int .i64 l)
  size : m + 11 ≤ wr.heap.size
  below : Below m w wr

set_option maxRecDepth 100000 in
set_option maxHeartbeats 4000000 in
theorem law3_any (v : Value) (S : List ByteArray) (l c : Int) (w : World) (hS : StrsAt w v S) (h1 : S.length ≤ maxLen) (h2 : ∀ i, i < S.length → (S.getD i ByteArray.empty).size ≤ maxLen) :
    Calls Tryf.prog 3 #[v, .int .i64 l, .int .i64 c] w fun e w' => e = .returned (.bool true) ∧ Below w.heap.size w w' := by
  have HS : Hid (StrsAt w v S) := hS
  have H1 : Hid (S.length ≤ maxLen) := h1
  have H2 : Hid (∀ i, i < S.length → (S.getD i ByteArray.empty).size ≤ maxLen) := h2
  obtain ⟨va, vc, rfl, -⟩ := hS
  unfold maxLen at h1
  clear h2
  go_enter Tryf.func3, Tryf.ntmps3
  go_wp2_with fail
  refine (bytes4 _ S l c w H1.out H2.out HS.out).mono ?_
  rintro e w1 ⟨rfl | rfl, rfl⟩
  · go_wp2
    go_ret
    exact ⟨rfl, Below.refl _ _⟩
  by_cases c1 : 65536 < S.length
  · go_wp2
    go_ret
    exact ⟨rfl, Below.refl _ _⟩
  have l1 : S.length ≤ 65536 := by omega
  have d1 : decide ((65536 : Int) < (S.length : Int)) = false := by rw [decide_eq_false_iff_not]; omega
  clear h1 c1
  go_wp2_with fail
  refine (size5 _ S w l1 H2.out HS.out).mono ?_
  rintro e w1 ⟨⟨z, b, rfl⟩, rfl⟩
  cases b
  · go_wp2
    go_ret
    exact ⟨rfl, Below.refl _ _⟩
  go_wp2_with fail
  refine (newRes_any (.agg #[.string { data := #[] }, .int .i64 c, .int .i64 l]) (.agg #[.string { data := #[] }, .int .i64 l, .int .i64 c]) (.agg #[.string { data := #[] }, .int .i64 0, .int .i64 0]) w).mono ?_
  rintro e w2 ⟨rfl, x1, x2, x3, x4, x5, x6, x7, x8⟩
  have HX : Hid (RCells w2 w.heap.size ∧ MapOf w2 (w.heap.size + 5) (.agg #[.string { data := #[] }, .int .i64 c, .int .i64 l]) (.agg #[.string { data := #[] }, .int .i64 0, .int .i64 0]) [] ∧ MapOf w2 (w.heap.size + 6) (.agg #[.string { data := #[] }, .int .i64 l, .int .i64 c]) (.agg #[.string { data := #[] }, .int .i64 0, .int .i64 0]) [] ∧ MapR w2 (w.heap.size + 1) rdp [] ∧
      w2.cell? ⟨w.heap.size, 0, none⟩ = some (.slice none 0 0) ∧ w2.frozen? ⟨w.heap.size, 0, none⟩ = false ∧ w2.heap.size = w.heap.size + 8 ∧ Below w.heap.size w w2) := ⟨x1, x2, x3, x4, x5, x6, x7, x8⟩
  clear x1 x2 x3 x4 x5 x6 x7 x8
  have hmm := @run_makeMap Tryf.prog
  obtain ⟨m, hm⟩ : ∃ m, w.heap.size = m := ⟨_, rfl⟩
  have Hm : Hid (w.heap.size = m) := hm
  rw [hm]
  go_wp2_with fail
  clear hmm
  generalize hw3 : ((w2.alloc _).alloc _).alloc _ = w3
  have x7 : w2.heap.size = m + 8 := by rw [HX.out.2.2.2.2.2.2.1, hm]
  have HLS : Hid (LS w w3 m l c []) := by
    obtain ⟨x1, x2, x3, x4, x5, x6, -, x8⟩ := HX.out
    rw [hm] at x1 x2 x3 x4 x5 x6 x8
    have hB : Below (m + 8) w2 w3 := by rw [← hw3, ← x7]; go_grown
    have kc : ∀ k o u, k < m + 8 → w2.cell? ⟨k, o, none⟩ = some u → w3.cell? ⟨k, o, none⟩ = some u := fun k o u hk h => (hB.cell (p := ⟨k, o, none⟩) hk).trans h
    refine ⟨⟨kc _ _ _ (by omega) x1.1, kc _ _ _ (by omega) x1.2.1, kc _ _ _ (by omega) x1.2.2.1, kc _ _ _ (by omega) x1.2.2.2⟩, MapR.below x2 hB (by omega), MapR.below x3 hB (by omega), x4.below hB (by omega), ⟨_, [], kc _ _ _ (by omega) x5, (hB.frozen (p := ⟨m, 0, none⟩) (by show m < m + 8; omega)).trans x6, World.ownsRow_nil _ _ _ _⟩, ?_, ?_, ?_, ?_, x8.trans (hB.mono (by omega))⟩
    · rw [← hw3, ← x7]; exact MapR.alloc (MapR.alloc (mapR_made _ _) _) _
    · rw [← hw3, show m + 9 = w2.heap.size + 1 by omega]; simp [go_sem]
    · rw [← hw3, show m + 10 = w2.heap.size + 1 + 1 by omega]; simp [go_sem]
    · rw [← hw3]; simp; omega
  rw [x7]
  simp only [show m + 8 + 1 = m + 9 from rfl, show m + 9 + 1 = m + 10 from rfl]
  clear hw3 HX x7 d1 hm
  go_loopw [11, 14] (fun d i wr => ∃ (t : Nat) (L : List (List UInt8)), t ≤ S.length ∧ i = .int .i64 t ∧ d = .int .i64 L.length ∧ LS w wr m l c L ∧ L.length ≤ t ∧ ∀ j, j < t → L.contains (S.getD j ByteArray.empty).data.toList = true) (fun _ i _ => S.length - (intOf i).toNat)
  case atStart => exact ⟨0, [], Nat.zero_le _, rfl, rfl, HLS.out, Nat.le_refl _, fun j hj => absurd hj (Nat.not_lt_zero _)⟩
  case round =>
    clear HLS
    obtain ⟨t, L, ht, rfl, rfl, hls, hlt0, hall⟩ := hrel
    have HLS : Hid (LS w wr m l c L) := hls
    have HA : Hid (∀ j, j < t → L.contains (S.getD j ByteArray.empty).data.toList = true) := hall
    clear hls hall
    by_cases hlt : t < S.length
    · obtain ⟨va', vc', ev, hvc⟩ := HS.out.keep (Hm.out ▸ HLS.out.below)
      obtain ⟨rfl, -, rfl⟩ := Value.slice.inj ev
      obtain ⟨b, o, rfl, hc1⟩ := hvc t hlt
      have hsz := H2.out t hlt
      obtain ⟨s, hs⟩ : ∃ s, S.getD t ByteArray.empty = s := ⟨_, rfl⟩
      have Hs : Hid (S.getD t ByteArray.empty = s) := hs
      rw [hs] at hc1 hsz
      have hbm : b < m := by
        obtain ⟨va2, vc2, ev2, hvc2⟩ := HS.out
        obtain ⟨e1, -, -⟩ := Value.slice.inj ev2
        obtain ⟨b2, o2, e2, h3⟩ := hvc2 t hlt
        rw [e2] at e1
        have := World.block_lt_of_cell? w _ h3
        cases e1
        rw [Hm.out] at this
        exact this
      clear hs hvc ev
      have j1 : (t : Int) < (S.length : Int) := by omega
      have hlk := HLS.out.seen.look Tryf.underlying28 (zero4 wr) hsz
      by_cases hin : L.contains s.data.toList = true
      · rw [if_pos hin] at hlk
        go_wp2
        exact ⟨⟨t + 1, L, hlt, rfl, rfl, HLS.out, by omega, fun j hj => by
          by_cases e : j = t
          · subst e; rw [Hs.out]; exact hin
          · exact HA.out j (by omega)⟩, by simp [intOf]; omega⟩
      · rw [if_neg hin] at hlk
        have hin2 : L.contains s.data.toList = false := by simpa using hin
        have HI : Hid (L.contains s.data.toList = false) := hin2
        obtain ⟨w4, hrun, hm4, hturn⟩ := MapR.store HLS.out.seen (rdr_c _ _) Tryf.underlying28 hsz hin2 (by unfold maxLen; omega)
        have hc4 : w4.cell? ⟨b, o + t, none⟩ = some (.string s) := (turned_cell hturn (a := ⟨b, o + t, none⟩) (by show b ≠ m + 8; omega)).trans hc1
        have k1 := (turned_cell hturn (a := ⟨m + 9, 0, none⟩) (by show m + 9 ≠ m + 8; omega)).trans HLS.out.sp.1
        have k2 := (turned_cell hturn (a := ⟨m + 9, 1, none⟩) (by show m + 9 ≠ m + 8; omega)).trans HLS.out.sp.2.1
        have k3 := (turned_cell hturn (a := ⟨m + 9, 2, none⟩) (by show m + 9 ≠ m + 8; omega)).trans HLS.out.sp.2.2
        have HT : Hid (MapR w4 (m + 8) (rdr (.bool true) (.bool false)) (s.data.toList :: L) ∧ World.mapTurned wr w4 (m + 8)) := ⟨hm4, hturn⟩
        have n1 : b < w4.heap.size := World.block_lt_of_cell? w4 _ hc4
        have n2 : m + 9 < w4.heap.size := World.block_lt_of_cell? w4 _ k1
        clear hm4 hturn hin hin2
        have H7 : Hid (Calls Tryf.prog 7 #[.pointer (some ⟨m + 7, 0, none⟩), .pointer (some ⟨w4.heap.size, 0, none⟩)] (w4.alloc (.cells #[.string { data := #[] }, .int .i64 l, .int .i64 c, .string { data := #[] }, .int .i64 l, .int .i64 c, .string s] 36)).drew fun e w' => e = .returned (.tuple #[]) ∧
            MapOf w' (m + 6) (.agg #[.string { data := #[] }, .int .i64 l, .int .i64 c]) (.agg #[.string { data := #[] }, .int .i64 0, .int .i64 0]) (s.data.toList :: L) ∧ MapR w' (m + 1) rdp (s.data.toList :: L) ∧
            (∃ v' xs', w'.cell? ⟨m, 0, none⟩ = some v' ∧ w'.frozen? ⟨m, 0, none⟩ = false ∧ w'.ownsRow (m + 11) 65 1 v' (L.length + 1) xs') ∧ Keeps m (m + 11) w4 w' ∧ w'.cell? ⟨b, o + t, none⟩ = some (.string s) ∧ w'.cell? ⟨m + 9, 0, none⟩ = some (.string { data := #[] }) ∧ w'.cell? ⟨m + 9, 1, none⟩ = some (.int .i64 l) ∧ w'.cell? ⟨m + 9, 2, none⟩ = some (.int .i64 c)) := by
          obtain ⟨v, xs, u1, u2, u3⟩ := HLS.out.rows
          have hg := HT.out.2.grown
          have hs4 : m + 11 ≤ w4.heap.size := Nat.le_trans HLS.out.size hg.size
          generalize hW : (w4.alloc (.cells #[.string { data := #[] }, .int .i64 l, .int .i64 c, .string { data := #[] }, .int .i64 l, .int .i64 c, .string s] 36)).drew = W
          have hBW : Below w4.heap.size w4 W := by rw [← hW]; exact ((Below.refl _ _).alloc (Nat.le_refl _) _).drew
          have hsW : W.heap.size = w4.heap.size + 1 := by rw [← hW]; simp [World.drew]
          have cW : ∀ k o u, k < m + 11 → k ≠ m + 8 → wr.cell? ⟨k, o, none⟩ = some u → W.cell? ⟨k, o, none⟩ = some u := fun k o u hk hne h => (hBW.cell (p := ⟨k, o, none⟩) (by show k < _; omega)).trans ((turned_cell HT.out.2 (a := ⟨k, o, none⟩) hne).trans h)
          have bW : ∀ k, k < m + 11 → k ≠ m + 8 → W.heap[k]? = wr.heap[k]? := fun k hk hne => (hBW.block k (by omega)).trans (turned_block HT.out.2 hne)
          refine (zzSortDecl_new m (m + 11) w4.heap.size l c s W v xs hsz L HI.out (by omega) (by omega) (by omega) (by omega) ⟨by omega, by omega, by omega⟩ (by rw [← hW]; simp [go_sem]) (by rw [← hW]; simp [go_sem]) (by rw [← hW]; simp [go_sem]) (by rw [← hW]; simp [go_sem])
            (cW _ _ _ (by omega) (by omega) HLS.out.r.1) (cW _ _ _ (by omega) (by omega) HLS.out.r.2.1) (cW _ _ _ (by omega) (by omega) HLS.out.r.2.2.2) (cW _ _ _ (by omega) (by omega) u1) ((World.frozen?_of_block (a := ⟨m, 0, none⟩) (bW m (by omega) (by omega))).trans u2) ?_ (MapR.keep HLS.out.sortAt (bW _ (by omega) (by omega))) (HLS.out.sorts.keep (bW _ (by omega) (by omega)))).mono ?_
          · have h4 : w4.ownsRow (m + 11) 65 1 v L.length xs := u3.kept hg (by right; intro e; exact own_far u3 (show m + 8 < m + 11 by omega) e.symm)
            have h5 := h4.alloc (.cells #[.string { data := #[] }, .int .i64 l, .int .i64 c, .string { data := #[] }, .int .i64 l, .int .i64 c, .string s] 36)
            rw [← hW]; exact h5
          · rintro e w' ⟨rfl, q1, q2, q3, q4⟩
            have hbk : ∀ k, k < m + 11 → k ≠ m → k ≠ m + 1 → k ≠ m + 6 → w'.heap[k]? = w4.heap[k]? := fun k h1 h2 h3 h4 => (q4.block k h1 h2 h3 h4).trans (hBW.block k (by omega))
            refine ⟨rfl, q1, q2, q3, ⟨q4.os.trans hBW.os, q4.tape.trans hBW.tape, q4.output.trans hBW.output, Nat.le_trans hBW.size q4.size, hbk⟩, ?_, ?_, ?_, ?_⟩
            · exact (World.cell?_of_block (a := ⟨b, o + t, none⟩) (hbk b (by omega) (by omega) (by omega) (by omega))).trans hc4
            · exact (World.cell?_of_block (a := ⟨m + 9, 0, none⟩) (hbk (m + 9) (by omega) (by omega) (by omega) (by omega))).trans k1
            · exact (World.cell?_of_block (a := ⟨m + 9, 1, none⟩) (hbk (m + 9) (by omega) (by omega) (by omega) (by omega))).trans k2
            · exact (World.cell?_of_block (a := ⟨m + 9, 2, none⟩) (hbk (m + 9) (by omega) (by omega) (by omega) (by omega))).trans k3
        go_wp2_with fail
        go_region_held3 (fun w' => w'.cell? ⟨b, o + t, none⟩ = some (.string s) ∧ w'.cell? ⟨m + 9, 0, none⟩ = some (.string { data := #[] }) ∧ w'.cell? ⟨m + 9, 1, none⟩ = some (.int .i64 l) ∧ w'.cell? ⟨m + 9, 2, none⟩ = some (.int .i64 c)) (go_simp)
          (first | (go_at_call 7; refine H7.out.mono ?_; rintro e w5 ⟨rfl, p1, p2, p3, p4, p5, p6, p7, p8⟩))
        have k1' := p4.block (m + 10) (by omega) (by omega) (by omega) (by omega)
        have hw45 : ∀ k, k < m + 11 → k ≠ m → k ≠ m + 1 → k ≠ m + 6 → w5.heap[k]? = w4.heap[k]? := p4.block
        have hb54 : ∀ k o u, k < m + 11 → k ≠ m → k ≠ m + 1 → k ≠ m + 6 → k ≠ m + 8 → wr.cell? ⟨k, o, none⟩ = some u → w5.cell? ⟨k, o, none⟩ = some u := fun k o u h1 h2 h3 h4 h5 h => (World.cell?_of_block (a := ⟨k, o, none⟩) (hw45 k h1 h2 h3 h4)).trans ((turned_cell HT.out.2 (a := ⟨k, o, none⟩) h5).trans h)
        have g0 := hb54 (m + 10) 0 _ (by omega) (by omega) (by omega) (by omega) (by omega) HLS.out.np.1
        have g1 := hb54 (m + 10) 1 _ (by omega) (by omega) (by omega) (by omega) (by omega) HLS.out.np.2.1
        have g2 := hb54 (m + 10) 2 _ (by omega) (by omega) (by omega) (by omega) (by omega) HLS.out.np.2.2
        have hmn : MapOf w5 (m + 5) (.agg #[.string { data := #[] }, .int .i64 c, .int .i64 l]) (.agg #[.string { data := #[] }, .int .i64 0, .int .i64 0]) L :=
          MapR.keep HLS.out.names ((hw45 (m + 5) (by omega) (by omega) (by omega) (by omega)).trans (turned_block HT.out.2 (by omega)))
        have hs5 : m + 7 < w5.heap.size := by have := p4.size; have := HT.out.2.grown.size; have := HLS.out.size; omega
        have H8 : Hid (Calls Tryf.prog 8 #[.pointer (some ⟨m + 7, 0, none⟩), .agg #[.string { data := #[] }, .int .i64 c, .int .i64 l, .string s]] w5.drew fun e w' => e = .returned (.tuple #[]) ∧
            MapOf w' (m + 5) (.agg #[.string { data := #[] }, .int .i64 c, .int .i64 l]) (.agg #[.string { data := #[] }, .int .i64 0, .int .i64 0]) (s.data.toList :: L) ∧ w5.drew.grownBy w' (some (m + 5))) :=
          zzDeclare_new m c l s w5.drew hsz L HI.out (by unfold maxLen; omega) hs5 (hb54 (m + 7) 6 _ (by omega) (by omega) (by omega) (by omega) (by omega) HLS.out.r.2.2.1) hmn
        have HP5 : Hid (MapOf w5 (m + 6) (.agg #[.string { data := #[] }, .int .i64 l, .int .i64 c]) (.agg #[.string { data := #[] }, .int .i64 0, .int .i64 0]) (s.data.toList :: L) ∧ MapR w5 (m + 1) rdp (s.data.toList :: L) ∧
            (∃ v' xs', w5.cell? ⟨m, 0, none⟩ = some v' ∧ w5.frozen? ⟨m, 0, none⟩ = false ∧ w5.ownsRow (m + 11) 65 1 v' (L.length + 1) xs') ∧ Keeps m (m + 11) w4 w5) := ⟨p1, p2, p3, p4⟩
        clear p1 p2 p3 p4 k1' hw45 hb54 hmn p6 p7 p8
        go_wp2_with fail
        go_region_held3 (fun w' => w'.cell? ⟨b, o + t, none⟩ = some (.string s) ∧ w'.cell? ⟨m + 10, 0, none⟩ = some (.string { data := #[] }) ∧ w'.cell? ⟨m + 10, 1, none⟩ = some (.int .i64 c) ∧ w'.cell? ⟨m + 10, 2, none⟩ = some (.int .i64 l)) (go_simp)
          (first | (go_at_call 8; refine H8.out.mono ?_; rintro e w6 ⟨rfl, p1, p2⟩
                    have y0 := (World.cell?_of_block (a := ⟨b, o + t, none⟩) (p2.block b (World.block_lt_of_cell? w5 _ p5) (fun e => by have := Option.some.inj e; omega))).trans p5
                    have y1 := (World.cell?_of_block (a := ⟨m + 10, 0, none⟩) (p2.block (m + 10) (World.block_lt_of_cell? w5 _ g0) (fun e => by have := Option.some.inj e; omega))).trans g0
                    have y2 := (World.cell?_of_block (a := ⟨m + 10, 1, none⟩) (p2.block (m + 10) (World.block_lt_of_cell? w5 _ g0) (fun e => by have := Option.some.inj e; omega))).trans g1
                    have y3 := (World.cell?_of_block (a := ⟨m + 10, 2, none⟩) (p2.block (m + 10) (World.block_lt_of_cell? w5 _ g0) (fun e => by have := Option.some.inj e; omega))).trans g2))
        go_wp2
        obtain ⟨o1, o2, ⟨v', xs', o3, o4, o5⟩, o6⟩ := HP5.out
        have s5 : m + 11 ≤ w5.heap.size := by have := o6.size; have := HT.out.2.grown.size; have := HLS.out.size; omega
        have b65 : ∀ k, k < m + 11 → k ≠ m + 5 → w6.heap[k]? = w5.heap[k]? := fun k h1 h2 => p2.block k (Nat.lt_of_lt_of_le h1 s5) (fun e => h2 (Option.some.inj e))
        have bb : ∀ k, k < m + 11 → k ≠ m → k ≠ m + 1 → k ≠ m + 5 → k ≠ m + 6 → k ≠ m + 8 → w6.heap[k]? = wr.heap[k]? := fun k h1 h2 h3 h4 h5 h6 => (b65 k h1 h4).trans ((o6.block k h1 h2 h3 h5).trans (turned_block HT.out.2 h6))
        have cc : ∀ k o u, k < m + 11 → k ≠ m → k ≠ m + 1 → k ≠ m + 5 → k ≠ m + 6 → k ≠ m + 8 → wr.cell? ⟨k, o, none⟩ = some u → w6.cell? ⟨k, o, none⟩ = some u := fun k o u h1 h2 h3 h4 h5 h6 h => (World.cell?_of_block (a := ⟨k, o, none⟩) (bb k h1 h2 h3 h4 h5 h6)).trans h
        have hr := HLS.out.r
        have hLS6 : LS w w6 m l c (s.data.toList :: L) := by
          refine ⟨⟨cc _ _ _ (by omega) (by omega) (by omega) (by omega) (by omega) (by omega) hr.1, cc _ _ _ (by omega) (by omega) (by omega) (by omega) (by omega) (by omega) hr.2.1, cc _ _ _ (by omega) (by omega) (by omega) (by omega) (by omega) (by omega) hr.2.2.1, cc _ _ _ (by omega) (by omega) (by omega) (by omega) (by omega) (by omega) hr.2.2.2⟩,
            p1, MapR.keep o1 (b65 _ (by omega) (by omega)), o2.keep (b65 _ (by omega) (by omega)), ⟨v', xs', (World.cell?_of_block (a := ⟨m, 0, none⟩) (b65 m (by omega) (by omega))).trans o3, (World.frozen?_of_block (a := ⟨m, 0, none⟩) (b65 m (by omega) (by omega))).trans o4, ?_⟩,
            MapR.keep HT.out.1 ((b65 (m + 8) (by omega) (by omega)).trans (o6.block (m + 8) (by omega) (by omega) (by omega) (by omega))),
            ⟨cc _ _ _ (by omega) (by omega) (by omega) (by omega) (by omega) (by omega) HLS.out.sp.1, cc _ _ _ (by omega) (by omega) (by omega) (by omega) (by omega) (by omega) HLS.out.sp.2.1, cc _ _ _ (by omega) (by omega) (by omega) (by omega) (by omega) (by omega) HLS.out.sp.2.2⟩,
            ⟨cc _ _ _ (by omega) (by omega) (by omega) (by omega) (by omega) (by omega) HLS.out.np.1, cc _ _ _ (by omega) (by omega) (by omega) (by omega) (by omega) (by omega) HLS.out.np.2.1, cc _ _ _ (by omega) (by omega) (by omega) (by omega) (by omega) (by omega) HLS.out.np.2.2⟩,
            Nat.le_trans s5 p2.size, ?_⟩
          · have hk5 : w5.drew.ownsRow (m + 11) 65 1 v' (L.length + 1) xs' := o5
            exact hk5.kept p2 (by right; intro e; exact own_far o5 (show m + 5 < m + 11 by omega) e.symm)
          · have hb := HLS.out.below
            have hgw := HT.out.2.grown
            exact ⟨p2.os.trans (o6.os.trans (hgw.os.trans hb.os)), p2.tape.trans (o6.tape.trans (hgw.tape.trans hb.tape)), p2.output.trans (o6.output.trans (hgw.output.trans hb.output)), Nat.le_trans hb.size (Nat.le_trans hgw.size (Nat.le_trans o6.size p2.size)), fun k hk => (bb k (by omega) (by omega) (by omega) (by omega) (by omega) (by omega)).trans (hb.block k hk)⟩
        exact ⟨⟨t + 1, s.data.toList :: L, hlt, rfl, rfl, hLS6, by simp; omega, fun j hj => by
          by_cases e : j = t
          · subst e; rw [Hs.out]; simp
          · have := HA.out j (by omega)
            rw [List.contains_cons, this, Bool.or_true]⟩, by simp [intOf]; omega⟩
    · obtain rfl : t = S.length := by omega
      obtain ⟨v, xs, u1, u2, u3⟩ := HLS.out.rows
      obtain ⟨ra, rc, rfl⟩ : ∃ a cap, v = .slice a L.length cap := by
        rcases u3.2 with ⟨rfl, h0⟩ | ⟨g, cap, cur, rfl, -⟩
        · exact ⟨none, 0, by rw [h0]⟩
        · exact ⟨_, _, rfl⟩
      have HU : Hid (wr.cell? ⟨m, 0, none⟩ = some (.slice ra L.length rc)) := u1
      clear u1 u2 u3
      go_wp2_with fail
      refine (namesLen_any m _ _ L wr HLS.out.r HLS.out.names).mono ?_
      rintro e w7 ⟨rfl, hw⟩
      subst hw
      go_wp2_with fail
      refine (sortsLen_any m L.length rc ra w7 HLS.out.r HU.out).mono ?_
      rintro e w8 ⟨rfl, hw⟩
      subst hw
      go_wp2_with fail
      go_loopw [15] (fun i wq => ∃ t : Nat, t ≤ S.length ∧ i = .int .i64 t ∧ Below w8.heap.size w8 wq) (fun i _ => S.length - (intOf i).toNat)
      case atStart => exact ⟨0, Nat.zero_le _, rfl, Below.refl _ _⟩
      case round =>
        obtain ⟨t, ht2, rfl, hBq⟩ := hrel
        have HBQ : Hid (Below w8.heap.size w8 wr) := hBq
        have hs8 := HLS.out.size
        have hsq := hBq.size
        clear hBq
        have cq : ∀ k o u, k < m + 11 → w8.cell? ⟨k, o, none⟩ = some u → wr.cell? ⟨k, o, none⟩ = some u := fun k o u hk h => (HBQ.out.cell (p := ⟨k, o, none⟩) (by show k < _; omega)).trans h
        have hr := HLS.out.r
        have HR : Hid (RCells wr m ∧ MapOf wr (m + 5) (.agg #[.string { data := #[] }, .int .i64 c, .int .i64 l]) (.agg #[.string { data := #[] }, .int .i64 0, .int .i64 0]) L ∧ MapOf wr (m + 6) (.agg #[.string { data := #[] }, .int .i64 l, .int .i64 c]) (.agg #[.string { data := #[] }, .int .i64 0, .int .i64 0]) L) :=
          ⟨⟨cq _ _ _ (by omega) hr.1, cq _ _ _ (by omega) hr.2.1, cq _ _ _ (by omega) hr.2.2.1, cq _ _ _ (by omega) hr.2.2.2⟩, MapR.below HLS.out.names HBQ.out (by omega), MapR.below HLS.out.sortAt HBQ.out (by omega)⟩
        by_cases hlt2 : t < S.length
        · obtain ⟨va', vc', ev, hvc⟩ := (HS.out.keep (Hm.out ▸ HLS.out.below)).keep HBQ.out
          obtain ⟨rfl, -, rfl⟩ := Value.slice.inj ev
          obtain ⟨b, o, rfl, hc1⟩ := hvc t hlt2
          have hsz := H2.out t hlt2
          have hin := HA.out t hlt2
          obtain ⟨s, hs⟩ : ∃ s, S.getD t ByteArray.empty = s := ⟨_, rfl⟩
          rw [hs] at hc1 hsz hin
          have HI : Hid (L.contains s.data.toList = true) := hin
          have n0 : cq (m + 10) 0 _ (by omega) HLS.out.np.1 = cq (m + 10) 0 _ (by omega) HLS.out.np.1 := rfl
          have k0 := cq (m + 10) 0 _ (by omega) HLS.out.np.1
          have k1 := cq (m + 10) 1 _ (by omega) HLS.out.np.2.1
          have k2 := cq (m + 10) 2 _ (by omega) HLS.out.np.2.2
          have g0 := cq (m + 9) 0 _ (by omega) HLS.out.sp.1
          have g1 := cq (m + 9) 1 _ (by omega) HLS.out.sp.2.1
          have g2 := cq (m + 9) 2 _ (by omega) HLS.out.sp.2.2
          have j1 : (t : Int) < (S.length : Int) := by omega
          clear hs hvc ev cq hin n0
          go_wp2_with fail
          refine (nameAt_any m c l L s wr hsz HI.out (by omega) HR.out.1 HR.out.2.1).mono ?_
          rintro e w9 ⟨rfl, hB9⟩
          have hs9 := hB9.size
          have HB9 : Hid (Below wr.heap.size wr w9) := hB9
          have c9 : ∀ k o u, wr.cell? ⟨k, o, none⟩ = some u → w9.cell? ⟨k, o, none⟩ = some u := fun k o u h => cell_keep HB9.out (Nat.le_refl _) h
          have e0 := c9 _ _ _ k0
          have e1 := c9 _ _ _ k1
          have e2 := c9 _ _ _ k2
          have e3 := c9 _ _ _ hc1
          have m1 : m + 10 < w9.heap.size := by omega
          have m2 : b < w9.heap.size := World.block_lt_of_cell? w9 _ e3
          clear c9 hB9
          go_wp2_with fail
          generalize hwa : World.alloc w9 _ = wa
          have HBa : Hid (Below w9.heap.size w9 wa) := by rw [← hwa]; exact (Below.refl _ _).alloc (Nat.le_refl _) _
          have HBw : Hid (Below wr.heap.size wr wa) := HB9.out.trans (HBa.out.mono hs9)
          have cr := HR.out.1
          have ca : ∀ k o u, wr.cell? ⟨k, o, none⟩ = some u → wa.cell? ⟨k, o, none⟩ = some u := fun k o u h => cell_keep HBw.out (Nat.le_refl _) h
          have hsa := HBw.out.size
          refine (sortAt_any m l c L s wa hsz HI.out (by omega) ⟨ca _ _ _ cr.1, ca _ _ _ cr.2.1, ca _ _ _ cr.2.2.1, ca _ _ _ cr.2.2.2⟩ (MapR.below HR.out.2.2 HBw.out (by omega))).mono ?_
          rintro e wb ⟨rfl, hBb⟩
          have HBb : Hid (Below wr.heap.size wr wb) := HBw.out.trans (hBb.mono hsa)
          have hsb := HBb.out.size
          have cb : ∀ k o u, wr.cell? ⟨k, o, none⟩ = some u → wb.cell? ⟨k, o, none⟩ = some u := fun k o u h => cell_keep HBb.out (Nat.le_refl _) h
          have y0 := cb _ _ _ g0
          have y1 := cb _ _ _ g1
          have y2 := cb _ _ _ g2
          have m3 : m + 9 < wb.heap.size := by omega
          clear ca cb hwa hBb cr
          go_wp2
          exact ⟨⟨t + 1, hlt2, rfl, (HBQ.out.trans (HBb.out.mono hsq)).alloc (by omega) _⟩, by simp [intOf]; omega⟩
        · go_wp2
          go_ret
          exact ⟨rfl, by rw [Hm.out]; exact HLS.out.below.trans (HBQ.out.mono (by omega))⟩
end Go.Proofs.Qxb6612497aFmt
