import Derived.Test.Qxb6613790aKeep
import Derived.Deep.DeepCutAuto
namespace Go.Proofs.Qxb6613790a
open Go.RowKit

set_option maxHeartbeats 400000 in
theorem bytes14 (x : Option Addr) (len cap : Nat) (n k s1 s2 : Int) (w : World) (h1 : len ≤ maxLen) :
    Calls Try.prog 14 #[.slice x len cap, .int .i64 n, .int .i64 k, .int .u64 s1, .int .u64 s2] w fun e w' => ∃ b, e = .returned (.bool b) ∧ w = w' := by
  unfold maxLen at h1
  go_enter Try.func14, Try.ntmps14
  go_wp2
  all_goals (go_ret; exact ⟨_, rfl, rfl⟩)
set_option maxHeartbeats 400000 in
theorem bytes9 (x : Option Addr) (len cap : Nat) (n s1 s2 : Int) (w : World) (h1 : len ≤ maxLen) :
    Calls Try.prog 9 #[.slice x len cap, .int .i64 n, .int .u64 s1, .int .u64 s2] w fun e w' => ∃ b, e = .returned (.bool b) ∧ w = w' := by
  unfold maxLen at h1
  go_enter Try.func9, Try.ntmps9
  go_wp2
  all_goals (go_ret; exact ⟨_, rfl, rfl⟩)

/-- cloneInts over a row of the call's own. -/
theorem clone_row (sb len cap : Nat) (zs : List Int) (w : World) (hl : zs.length = len) (hlen : len ≤ 65536) (hr : RowAt w sb 0 zs) :
    Calls Try.prog 10 #[.slice (some ⟨sb, 0, none⟩) len cap] w fun e w' => ∃ b, e = .returned (.slice (some ⟨b, 0, none⟩) len len) ∧ w.heap.size ≤ b ∧ b < w'.heap.size ∧ RowAt w' b 0 zs ∧ Below w.heap.size w w' := by
  subst hl
  exact clone_any sb 0 cap zs w hlen (fun i hi => (hr i hi).1)
theorem zsh_row (g pb b off len cap : Nat) (zs : List Int) (hi lo : Int) (m : Nat) (w : World) (hl : zs.length = len) (hg : GenAt w g pb hi lo) (hr : RowAt w b off zs) (hbp : b ≠ pb) (hbg : b ≠ g) (hlen : len ≤ 65536) (hn : m ≤ len) :
    Calls Try.prog 12 #[.pointer (some ⟨g, 0, none⟩), .slice (some ⟨b, off, none⟩) len cap, .int .i64 (m : Int)] w fun e w' =>
      e = .returned (.tuple #[]) ∧ RowAt w' b off (sh 0 zs (hi, lo) m) ∧ GenAt w' g pb (stpN (hi, lo) m).1 (stpN (hi, lo) m).2 ∧ Fr b off len pb w w' := by
  subst hl
  exact zsh_any g pb b off cap zs hi lo m w hg hr hbp hbg hlen hn

/-- What the last of t draws gave; 0 ahead of the first. -/
def lastDraw (s : Int × Int) : Nat → Int
  | 0 => 0
  | t + 1 => outv (stpN s t).1 (stpN s t).2
theorem dOf_eq (i len : Nat) (s : Int × Int) (h : i < len) : outv s.1 s.2 % ((len : Int) - (i : Int)) = (dOf i len s : Int) :=
  (Int.toNat_of_nonneg (Int.emod_nonneg _ (by omega))).symm
theorem row_lt {w : World} {b off : Nat} {zs : List Int} (h : RowAt w b off zs) (h0 : 0 < zs.length) : b < w.heap.size := World.block_lt_of_cell? w ⟨b, off + 0, none⟩ (h 0 h0).1

set_option maxHeartbeats 1000000 in
set_option maxRecDepth 100000 in
theorem split_some (x : Addr) (cap : Nat) (zs : List Int) (n k s1 s2 : Int) (w : World) (hlen : zs.length ≤ maxLen) (hsrc : ∀ i, i < zs.length → w.cell? (x.add i) = some (.int .i64 (zs.getD i 0))) :
    Calls Try.prog 4 #[.slice (some x) zs.length cap, .int .i64 n, .int .i64 k, .int .u64 s1, .int .u64 s2] w fun e w' => e = .returned (.bool true) ∧ Below w.heap.size w w' := by
  have hx : ∀ i, i < zs.length → (x.add i).block < w.heap.size := fun i hi => World.block_lt_of_cell? w _ (hsrc i hi)
  have HX : Hid (∀ i, i < zs.length → (x.add i).block < w.heap.size) := hx
  have HS : Hid (∀ i, i < zs.length → w.cell? (x.add i) = some (.int .i64 (zs.getD i 0))) := hsrc
  clear hsrc hx
  go_enter Try.func4, Try.ntmps4
  go_wp2_with fail
  refine (bytes14 _ _ _ _ _ _ _ _ hlen).mono ?_
  rintro e w1 ⟨b, rfl, rfl⟩
  cases b
  · go_wp2
    go_ret
    exact ⟨rfl, Below.refl _ _⟩
  unfold maxLen at hlen
  by_cases c1 : 65536 < zs.length
  · go_wp2
    go_ret
    exact ⟨rfl, Below.refl _ _⟩
  by_cases c2 : k < 0
  · go_wp2
    go_ret
    exact ⟨rfl, Below.refl _ _⟩
  by_cases c3 : n < k
  · go_wp2
    go_ret
    exact ⟨rfl, Below.refl _ _⟩
  by_cases c4 : (zs.length : Int) < n
  · go_wp2
    go_ret
    exact ⟨rfl, Below.refl _ _⟩
  obtain ⟨N, rfl⟩ := Int.eq_ofNat_of_zero_le (show 0 ≤ n by omega)
  obtain ⟨K, rfl⟩ := Int.eq_ofNat_of_zero_le (show 0 ≤ k by omega)
  have k1 : K ≤ N := by omega
  have k2 : N ≤ zs.length := by omega
  have k3 : zs.length ≤ 65536 := by omega
  have d1 : decide ((65536 : Int) < (zs.length : Int)) = false := by simp; omega
  have d2 : decide ((K : Int) < 0) = false := by simp
  have d3 : decide (N < K) = false := by simp; omega
  have d4 : decide (zs.length < N) = false := by simp; omega
  clear c1 c2 c3 c4 hlen
  go_wp2_with fail
  -- a
  refine (clone_src x cap zs w k3 HS.out).mono ?_
  rintro e wa ⟨ba, rfl, a1, a2, ra, hB⟩
  go_wp2_with fail
  refine (newGen_any _ _ _).mono ?_
  rintro e wb ⟨g1, p1, rfl, hg1, a3, a4, hbl⟩
  replace ra := ra.below hbl a2
  replace hB := hB.trans (hbl.mono hB.size)
  have a5 : g1 < wb.heap.size := hg1.1
  have a6 : p1 < wb.heap.size := hg1.2.1
  clear hbl
  go_wp2_with fail
  refine (zsh_any g1 p1 ba 0 zs.length zs s1 s2 N wb hg1 ra (by omega) (by omega) k3 k2).mono ?_
  rintro e wc ⟨rfl, ra', hg1', fr⟩
  replace hB := Below.fr hB fr (by omega) (by omega)
  replace a5 : g1 < wc.heap.size := by rw [fr.size]; exact a5
  replace a6 : p1 < wc.heap.size := by rw [fr.size]; exact a6
  have a7 : ba < wc.heap.size := by have := hB.size; omega
  clear fr hg1 ra
  -- b
  go_wp2_with fail
  refine (clone_src x cap zs wc k3 (fun i hi => (hB.cell (HX.out i hi)).trans (HS.out i hi))).mono ?_
  rintro e wd ⟨bb, rfl, b1, b2, rb, hbl⟩
  replace ra' := ra'.below hbl a7
  replace hg1' := hg1'.keep hbl
  replace hB := hB.trans (hbl.mono hB.size)
  have b3 : ba < bb ∧ g1 < bb ∧ p1 < bb := by omega
  clear hbl
  go_wp2_with fail
  refine (newGen_any _ _ _).mono ?_
  rintro e we ⟨g2, p2, rfl, hg2, b4, b5, hbl⟩
  replace ra' := ra'.below hbl (by omega)
  replace hg1' := hg1'.keep hbl
  replace rb := rb.below hbl b2
  have b6 : w.heap.size ≤ p2 ∧ bb < p2 ∧ bb < g2 := by have := hB.size; omega
  have b8 : bb < we.heap.size := by have := hbl.size; omega
  have b9 : p2 < we.heap.size := hg2.2.1
  replace hB := hB.trans (hbl.mono hB.size)
  clear hbl
  go_wp2_with fail
  refine (zsh_any g2 p2 bb 0 zs.length zs s1 s2 K we hg2 rb (by omega) (by omega) k3 (by omega)).mono ?_
  rintro e wf ⟨rfl, rb', hg2', fr⟩
  replace hB := Below.fr hB fr (by omega) (by omega)
  replace ra' := RowAt.fr fr ra' (by omega) (by omega)
  replace hg1' := GenAt.fr fr hg1' (by omega) (by omega) (by omega) (by omega)
  have b7 : bb < wf.heap.size := by rw [fr.size]; exact b8
  have b10 : p2 < wf.heap.size := by rw [fr.size]; exact b9
  clear fr hg2 rb
  -- mid
  have hl1 : (sh 0 zs (s1, s2) K).length = zs.length := sh_length _ _ _ _
  go_wp2_with fail
  refine (clone_row bb _ _ _ wf hl1 k3 rb').mono ?_
  rintro e wg ⟨bm, rfl, m1, m2, rm, hbl⟩
  replace ra' := ra'.below hbl (by omega)
  replace rb' := rb'.below hbl b7
  replace hg1' := hg1'.keep hbl
  replace hg2' := hg2'.keep hbl
  replace hB := hB.trans (hbl.mono hB.size)
  clear hbl
  -- the rest of b
  have k4 : K ≤ zs.length := by omega
  have i1 : (K : Int) ≤ (zs.length : Int) := by omega
  go_upto_region 15 with fail
  go_cut [] (fun wx => RowAt wx ba 0 (sh 0 zs (s1, s2) N) ∧ RowAt wx bb 0 (sh 0 zs (s1, s2) N) ∧ RowAt wx bm 0 (sh 0 zs (s1, s2) K) ∧ GenAt wx g1 p1 (stpN (s1, s2) N).1 (stpN (s1, s2) N).2 ∧ GenAt wx g2 p2 (stpN (s1, s2) N).1 (stpN (s1, s2) N).2 ∧ Below w.heap.size w wx)
  case first =>
    by_cases hK : zs.length ≤ K
    · have hN : Hid (N = K) := by show N = K; omega
      go_wp2_with fail
      refine (zsh_none _ _ _ _ _ _ (by omega)).mono ?_
      rintro e wh ⟨rfl, rfl⟩
      go_wp2
      go_meet
      exact ⟨ra', by rw [hN.out]; exact rb', rm, hg1', by rw [hN.out]; exact hg2', hB⟩
    · go_wp2_with fail
      have e1 : (N : Int) - (K : Int) = ((N - K : Nat) : Int) := by omega
      rw [e1]
      refine (zsh_row g2 p2 bb K (zs.length - K) _ ((sh 0 zs (s1, s2) K).drop K) (stpN (s1, s2) K).1 (stpN (s1, s2) K).2 (N - K) wg (by rw [List.length_drop, hl1]) hg2' (rb'.drop K) (by omega) (by omega) (by omega) (by omega)).mono ?_
      rintro e wh ⟨rfl, rr, hg2'', fr⟩
      have rb'' := RowAt.join rb' fr rr (by rw [hl1]; omega)
      have hs2 : stpN (stpN (s1, s2) K) (N - K) = stpN (s1, s2) N := by rw [← stpN_add]; congr 1; omega
      replace hB := Below.fr hB fr (by omega) (by omega)
      replace ra' := RowAt.fr fr ra' (by omega) (by omega)
      replace rm := RowAt.fr fr rm (by omega) (by omega)
      replace hg1' := GenAt.fr fr hg1' (by omega) (by omega) (by omega) (by omega)
      go_wp2
      go_meet
      refine ⟨ra', ?_, rm, hg1', ?_, hB⟩
      · rw [sh_cut zs (s1, s2) K N k1 k2]; exact rb''
      · rw [← hs2]; exact hg2''
  case rest =>
  obtain ⟨ra2, rb2, rm2, hgA, hgB, hB2⟩ := hcut
  clear ra' rb' rm hg1' hg2' hB
  have hl2 : (sh 0 zs (s1, s2) N).length = zs.length := sh_length _ _ _ _
  have HA : Hid ((sh 0 zs (s1, s2) N).length = zs.length ∧ (sh 0 zs (s1, s2) K).length = zs.length) := ⟨hl2, hl1⟩
  clear hl1 hl2 d1 d2 d3 d4
  go_wp2
  go_loopw [17] (fun i wr => ∃ t : Nat, t ≤ zs.length ∧ i = .int .i64 t ∧ RowAt wr ba 0 (sh 0 zs (s1, s2) N) ∧ RowAt wr bb 0 (sh 0 zs (s1, s2) N) ∧ RowAt wr bm 0 (sh 0 zs (s1, s2) K) ∧ GenAt wr g1 p1 (stpN (s1, s2) N).1 (stpN (s1, s2) N).2 ∧ GenAt wr g2 p2 (stpN (s1, s2) N).1 (stpN (s1, s2) N).2 ∧ Below w.heap.size w wr) (fun i _ => zs.length - (intOf i).toNat)
  case atStart => exact ⟨0, Nat.zero_le _, rfl, ra2, rb2, rm2, hgA, hgB, hB2⟩
  case round =>
    clear ra2 rb2 rm2 hgA hgB hB2
    obtain ⟨t, ht, rfl, ra, rb, rm, hgA, hgB, hB⟩ := hrel
    by_cases hlt : t < zs.length
    · obtain ⟨x1, -⟩ := ra t (by rw [HA.out.1]; exact hlt)
      obtain ⟨x2, -⟩ := rb t (by rw [HA.out.1]; exact hlt)
      rw [Nat.zero_add] at x1 x2
      generalize (sh 0 zs (s1, s2) N).getD t 0 = y at *
      have j1 : (t : Int) < (zs.length : Int) := by omega
      have HR : Hid (RowAt wr ba 0 (sh 0 zs (s1, s2) N) ∧ RowAt wr bb 0 (sh 0 zs (s1, s2) N) ∧ RowAt wr bm 0 (sh 0 zs (s1, s2) K) ∧ GenAt wr g1 p1 (stpN (s1, s2) N).1 (stpN (s1, s2) N).2 ∧ GenAt wr g2 p2 (stpN (s1, s2) N).1 (stpN (s1, s2) N).2 ∧ Below w.heap.size w wr) := ⟨ra, rb, rm, hgA, hgB, hB⟩
      clear ra rb rm hgA hgB hB
      go_wp2
      go_region_held3 (fun w' => w'.cell? ⟨ba, t, none⟩ = some (.int .i64 y) ∧ w'.cell? ⟨bb, t, none⟩ = some (.int .i64 y)) (go_simp) (fail)
      go_wp2
      go_roundw
      case rel =>
        obtain ⟨ra, rb, rm, hgA, hgB, hB⟩ := HR.out
        exact ⟨t + 1, by omega, by go_num, ra, rb, rm, hgA, hgB, hB.drew⟩
      case measure => simp [intOf]; omega
    · go_wp2_with fail
      refine (rngNext_any _ _ _ _ _ hgA).mono ?_
      rintro e wi ⟨rfl, rfl⟩
      replace ra := ra.draw (pb := p1) (by omega) (stpN (s1, s2) N).1 (stpN (s1, s2) N).2
      replace rm := rm.draw (pb := p1) (by omega) (stpN (s1, s2) N).1 (stpN (s1, s2) N).2
      replace hgB := hgB.apart (q := p1) (stpN (s1, s2) N).1 (stpN (s1, s2) N).2 (by omega) (by omega)
      replace hB := drawW_below hB (pb := p1) (by omega) (stpN (s1, s2) N).1 (stpN (s1, s2) N).2
      clear rb hgA
      generalize drawW wr p1 (stpN (s1, s2) N).1 (stpN (s1, s2) N).2 = wi at *
      go_wp2_with fail
      refine (rngNext_any _ _ _ _ _ hgB).mono ?_
      rintro e wj ⟨rfl, rfl⟩
      replace ra := ra.draw (pb := p2) (by omega) (stpN (s1, s2) N).1 (stpN (s1, s2) N).2
      replace rm := rm.draw (pb := p2) (by omega) (stpN (s1, s2) N).1 (stpN (s1, s2) N).2
      replace hB := drawW_below hB (pb := p2) (by omega) (stpN (s1, s2) N).1 (stpN (s1, s2) N).2
      clear hgB
      generalize drawW wi p2 (stpN (s1, s2) N).1 (stpN (s1, s2) N).2 = wj at *
      by_cases hKN : K < N
      · have q1 : ba < wj.heap.size := row_lt ra (by rw [HA.out.1]; omega)
        have q2 : bm < wj.heap.size := row_lt rm (by rw [HA.out.2]; omega)
        go_wp2_with fail
        refine (newGen_any _ _ _).mono ?_
        rintro e wk ⟨g3, p3, rfl, hg3, u1, u2, hbl⟩
        replace ra := ra.below hbl q1
        replace rm := rm.below hbl q2
        have u3 : w.heap.size ≤ p3 := by have := hB.size; omega
        replace hB := hB.trans (hbl.mono hB.size)
        clear hbl
        have u4 : ba ≠ p3 := by omega
        have u5 : bm ≠ p3 := by omega
        -- what the last draw picks
        obtain ⟨D, hD⟩ : ∃ D, dOf K zs.length (stpN (s1, s2) K) = D := ⟨_, rfl⟩
        have hD1 : K + D < zs.length := by rw [← hD]; exact dOf_lt K _ _ (by omega)
        have eD := dOf_eq K zs.length (stpN (s1, s2) K) (by omega)
        rw [hD] at eD
        have hat := sh_at zs (s1, s2) K N hKN k2
        rw [hD] at hat
        have HAT : Hid ((sh 0 zs (s1, s2) N).getD K 0 = (sh 0 zs (s1, s2) K).getD (K + D) 0) := hat
        have HED : Hid (outv (stpN (s1, s2) K).1 (stpN (s1, s2) K).2 % ((zs.length : Int) - (K : Int)) = (D : Int)) := eD
        clear hD hat eD a1 a2 a3 a4 a5 a6 a7 b1 b2 b3 b4 b5 b6 b7 b8 b9 b10 m1 m2 q1 q2 u1 u2
        go_wp2
        go_loopw [19, 20] (fun r i wr => ∃ t : Nat, t ≤ K + 1 ∧ i = .int .i64 t ∧ r = .int .u64 (lastDraw (s1, s2) t) ∧ RowAt wr ba 0 (sh 0 zs (s1, s2) N) ∧ RowAt wr bm 0 (sh 0 zs (s1, s2) K) ∧ GenAt wr g3 p3 (stpN (s1, s2) t).1 (stpN (s1, s2) t).2 ∧ Below w.heap.size w wr) (fun _ i _ => K + 1 - (intOf i).toNat)
        case atStart => exact ⟨0, Nat.zero_le _, rfl, rfl, ra, rm, hg3, hB⟩
        case round =>
          clear ra rm hg3 hB
          obtain ⟨t, ht, rfl, rfl, ra, rm, hg3, hB⟩ := hrel
          by_cases htK : t ≤ K
          · go_wp2_with fail
            refine (rngNext_any _ _ _ _ _ hg3).mono ?_
            rintro e wl ⟨rfl, rfl⟩
            replace ra := ra.draw u4 (stpN (s1, s2) t).1 (stpN (s1, s2) t).2
            replace rm := rm.draw u5 (stpN (s1, s2) t).1 (stpN (s1, s2) t).2
            replace hg3 := hg3.draw
            replace hB := drawW_below hB u3 (stpN (s1, s2) t).1 (stpN (s1, s2) t).2
            generalize drawW wr p3 (stpN (s1, s2) t).1 (stpN (s1, s2) t).2 = wl at *
            go_wp2
            go_roundw
            case rel => exact ⟨t + 1, by omega, by go_num, rfl, ra, rm, hg3, hB⟩
            case measure => simp [intOf]; omega
          · obtain ⟨x1, -⟩ := ra K (by rw [HA.out.1]; omega)
            obtain ⟨x2, -⟩ := rm (K + D) (by rw [HA.out.2]; omega)
            rw [← HAT.out] at x2
            rw [Nat.zero_add] at x1 x2
            clear ra rm hg3 HAT HS HX
            generalize (sh 0 zs (s1, s2) N).getD K 0 = y at *
            have e0 : t = K + 1 := by omega
            have e1 : lastDraw (s1, s2) t = outv (stpN (s1, s2) K).1 (stpN (s1, s2) K).2 := by rw [e0]; rfl
            rw [e1]
            clear e0 e1
            obtain ⟨o1, o2⟩ := outv_range (stpN (s1, s2) K).1 (stpN (s1, s2) K).2
            have eD := HED.out
            clear HED
            generalize outv (stpN (s1, s2) K).1 (stpN (s1, s2) K).2 = o at *
            have h1 : IntKind.i64.wrap ((zs.length : Int) - (K : Int)) = (zs.length : Int) - (K : Int) := by rw [wrapEq]; exact wrap64_id _ (by omega) (by omega)
            have h2 : IntKind.u64.wrap ((zs.length : Int) - (K : Int)) = (zs.length : Int) - (K : Int) := by rw [IntKind.wrap_u64]; omega
            have h3 : IntKind.i64.wrap (D : Int) = (D : Int) := by rw [wrapEq]; exact wrap64_id _ (by omega) (by omega)
            have h4 : IntKind.i64.wrap ((K : Int) + (D : Int)) = (K : Int) + (D : Int) := by rw [wrapEq]; exact wrap64_id _ (by omega) (by omega)
            have h5 : o.tmod ((zs.length : Int) - (K : Int)) = (D : Int) := by rw [Int.tmod_eq_emod_of_nonneg o1]; exact eD
            have h6 : ((zs.length : Int) - (K : Int) == 0) = false := by simp; omega
            have h7 : ¬ (zs.length : Int) - (K : Int) = 0 := by omega
            have j1 : (K : Int) < (zs.length : Int) := by omega
            have j2 : (K : Int) + (D : Int) < (zs.length : Int) := by omega
            have j3 : (0 : Int) ≤ (K : Int) + (D : Int) := by omega
            have j4 : ((K : Int) + (D : Int)).toNat = K + D := by omega
            go_wp2_with fail
            go_region_held3 (fun w' => w'.cell? ⟨ba, K, none⟩ = some (.int .i64 y) ∧ w'.cell? ⟨bm, K + D, none⟩ = some (.int .i64 y)) (go_simp) (fail)
            go_wp2
            go_ret
            exact ⟨rfl, hB.drew⟩
      · go_wp2
        go_ret
        exact ⟨rfl, hB⟩

set_option maxHeartbeats 1000000 in
theorem split_nil (n k s1 s2 : Int) (w : World) :
    Calls Try.prog 4 #[.slice none 0 0, .int .i64 n, .int .i64 k, .int .u64 s1, .int .u64 s2] w fun e w' => e = .returned (.bool true) ∧ Below w.heap.size w w' := by
  go_enter Try.func4, Try.ntmps4
  go_wp2_with fail
  refine (bytes14 _ _ _ _ _ _ _ _ (Nat.zero_le _)).mono ?_
  rintro e w1 ⟨b, rfl, rfl⟩
  cases b
  · go_wp2
    go_ret
    exact ⟨rfl, Below.refl _ _⟩
  by_cases c2 : k < 0
  · go_wp2
    go_ret
    exact ⟨rfl, Below.refl _ _⟩
  by_cases c3 : n < k
  · go_wp2
    go_ret
    exact ⟨rfl, Below.refl _ _⟩
  by_cases c4 : 0 < n
  · go_wp2
    go_ret
    exact ⟨rfl, Below.refl _ _⟩
  obtain rfl : k = 0 := by omega
  obtain rfl : n = 0 := by omega
  clear c2 c3 c4
  go_wp2_with fail
  refine (clone_nil _).mono ?_
  rintro e wa ⟨rfl, rfl⟩
  go_wp2_with fail
  refine (newGen_any _ _ _).mono ?_
  rintro e wb ⟨g1, p1, rfl, hg1, a3, a4, hB⟩
  go_wp2_with fail
  refine (zsh_none _ _ _ _ _ _ (by omega)).mono ?_
  rintro e wc ⟨rfl, rfl⟩
  go_wp2_with fail
  refine (clone_nil _).mono ?_
  rintro e wd ⟨rfl, rfl⟩
  go_wp2_with fail
  refine (newGen_any _ _ _).mono ?_
  rintro e we ⟨g2, p2, rfl, hg2, b4, b5, hbl⟩
  have a5 : g1 < wd.heap.size := hg1.1
  have a6 : p1 < wd.heap.size := hg1.2.1
  have b6 := hB.size
  replace hg1 := hg1.keep hbl
  replace hB := hB.trans (hbl.mono hB.size)
  clear hbl
  go_wp2_with fail
  refine (zsh_none _ _ _ _ _ _ (by omega)).mono ?_
  rintro e wf ⟨rfl, rfl⟩
  go_wp2_with fail
  refine (clone_nil _).mono ?_
  rintro e wg ⟨rfl, rfl⟩
  go_wp2_with fail
  refine (zsh_none _ _ _ _ _ _ (by omega)).mono ?_
  rintro e wh ⟨rfl, rfl⟩
  go_wp2
  refine wp_loop_rounds 1 ?_
  rw [rounds_succ]
  go_wp2_with fail
  refine (rngNext_any _ _ _ _ _ hg1).mono ?_
  rintro e wi ⟨rfl, rfl⟩
  replace hg2 := hg2.apart (q := p1) s1 s2 (by omega) (by omega)
  replace hB := drawW_below hB (pb := p1) (by omega) s1 s2
  go_wp2_with fail
  refine (rngNext_any _ _ _ _ _ hg2).mono ?_
  rintro e wj ⟨rfl, rfl⟩
  replace hB := drawW_below hB (pb := p2) (by omega) s1 s2
  go_wp2
  go_ret
  exact ⟨rfl, hB⟩
end Go.Proofs.Qxb6613790a
