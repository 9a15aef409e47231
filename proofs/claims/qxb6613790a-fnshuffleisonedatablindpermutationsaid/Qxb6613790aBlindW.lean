import Derived.Test.Qxb6613790aBlind
namespace Go.Proofs.Qxb6613790a
open Go.RowKit

theorem Try.info4 : (Try.prog.info? 4).map (fun i => (i.zero, i.size, i.bytes)) = some (some (.bool false), 1, 1) := by kernel_rfl

/-- A row of bools in memory. -/
def BoolAt (w : World) (b n : Nat) (f : Nat → Bool) : Prop :=
  ∀ i, i < n → w.cell? ⟨b, i, none⟩ = some (.bool (f i)) ∧ w.frozen? ⟨b, i, none⟩ = false
theorem bool_made (w : World) (n t : Nat) : BoolAt (w.alloc (.cells (madeCells #[.bool false] n) t)) w.heap.size n (fun _ => false) := fun i hi =>
  ⟨by rw [World.cell?_alloc_new, made_get _ _ _ hi], World.frozen?_alloc_at _ _ _ _ rfl⟩
theorem BoolAt.set {w : World} {b n : Nat} {f g : Nat → Bool} (h : BoolAt w b n f) (i : Nat) (v : Bool) (hg : ∀ j, j < n → g j = if j = i then v else f j) : BoolAt (w.setCell ⟨b, i, none⟩ (.bool v)) b n g := fun j hj => by
  obtain ⟨c, e⟩ := h j hj
  refine ⟨?_, by rw [World.frozen?_setCell]; exact e⟩
  rw [cell_set _ _ _ _ _ _ c, hg j hj]
  by_cases h1 : j = i
  · rw [if_pos h1, if_pos h1]
  · rw [if_neg h1, if_neg h1]
theorem BoolAt.same {w : World} {b n : Nat} {f g : Nat → Bool} (h : BoolAt w b n f) (hg : ∀ j, j < n → g j = f j) : BoolAt w b n g := fun j hj => by rw [hg j hj]; exact h j hj
theorem RowAt.other {w : World} {b off : Nat} {zs : List Int} (h : RowAt w b off zs) {c : Nat} (o : Nat) (v : Value) (hc : c ≠ b) : RowAt (w.setCell ⟨c, o, none⟩ v) b off zs := fun i hi => by
  obtain ⟨c1, c2⟩ := h i hi
  exact ⟨by rw [World.cell?_setCell_far _ _ _ _ hc]; exact c1, by rw [World.frozen?_setCell]; exact c2⟩

/-- The first of t draws; 0 ahead of it. -/
def firstDraw (s : Int × Int) : Nat → Int
  | 0 => 0
  | _ + 1 => outv s.1 s.2
theorem firstDraw_pos (s : Int × Int) (m : Nat) (h : 1 ≤ m) : firstDraw s m = outv s.1 s.2 := by
  obtain ⟨m', rfl⟩ := Nat.exists_eq_succ_of_ne_zero (show m ≠ 0 by omega)
  rfl
theorem below_drewN {B : Nat} {a w : World} (h : Below B a w) (n : Nat) : Below B a (w.drewN n) := ⟨h.os, h.tape, h.output, h.size, h.block⟩

/-- ZZshuffle at whatever count. -/
theorem zsh_int (g pb b len cap : Nat) (zs : List Int) (hi lo n : Int) (w : World) (hl : zs.length = len) (hg : GenAt w g pb hi lo) (hr : RowAt w b 0 zs) (hbp : b ≠ pb) (hbg : b ≠ g) (hlen : len ≤ 65536) (hn : n ≤ len) :
    Calls Try.prog 12 #[.pointer (some ⟨g, 0, none⟩), .slice (some ⟨b, 0, none⟩) len cap, .int .i64 n] w fun e w' =>
      e = .returned (.tuple #[]) ∧ RowAt w' b 0 (sh 0 zs (hi, lo) n.toNat) ∧ GenAt w' g pb (stpN (hi, lo) n.toNat).1 (stpN (hi, lo) n.toNat).2 ∧ Fr b 0 len pb w w' := by
  by_cases h : 0 ≤ n
  · obtain ⟨m, rfl⟩ := Int.eq_ofNat_of_zero_le h
    rw [Int.toNat_natCast]
    exact zsh_row g pb b 0 len cap zs hi lo m w hl hg hr hbp hbg hlen (by omega)
  · refine (zsh_none _ _ _ _ n w (by omega)).mono ?_
    rintro e w' ⟨rfl, rfl⟩
    rw [show n.toNat = 0 by omega]
    exact ⟨rfl, hr, hg, Fr.refl _ _ _ _ _⟩

set_option maxHeartbeats 1000000 in
set_option maxRecDepth 100000 in
theorem blind_some (x : Addr) (cap : Nat) (zs : List Int) (n s1 s2 : Int) (w : World) (hlen : zs.length ≤ maxLen) (hn1 : -9223372036854775808 ≤ n) (hsrc : ∀ i, i < zs.length → w.cell? (x.add i) = some (.int .i64 (zs.getD i 0))) :
    Calls Try.prog 3 #[.slice (some x) zs.length cap, .int .i64 n, .int .u64 s1, .int .u64 s2] w fun e w' => e = .returned (.bool true) ∧ Below w.heap.size w w' := by
  have HS : Hid (∀ i, i < zs.length → w.cell? (x.add i) = some (.int .i64 (zs.getD i 0))) := hsrc
  clear hsrc
  go_enter Try.func3, Try.ntmps3
  go_wp2_with fail
  refine (bytes9 _ _ _ _ _ _ _ hlen).mono ?_
  rintro e w1 ⟨b, rfl, rfl⟩
  cases b
  · go_wp2
    go_ret
    exact ⟨rfl, Below.refl _ _⟩
  unfold maxLen at hlen
  by_cases c1 : 65536 < zs.length
  · go_wp2
    go_ret
    exact ⟨rfl, Below.refl _ _⟩
  by_cases c4 : (zs.length : Int) < n
  · go_wp2
    go_ret
    exact ⟨rfl, Below.refl _ _⟩
  have k2 : n ≤ (zs.length : Int) := by omega
  have k3 : zs.length ≤ 65536 := by omega
  have k5 : n.toNat ≤ zs.length := by omega
  have d1 : decide ((65536 : Int) < (zs.length : Int)) = false := by simp; omega
  have d4 : decide ((zs.length : Int) < n) = false := by simp; omega
  clear c1 c4 hlen
  go_wp2_with fail
  refine (clone_src x cap zs w k3 HS.out).mono ?_
  rintro e wa ⟨bp, rfl, a1, a2, rp, hB⟩
  clear HS
  have hmk := run_make_row' (P := Try.prog) 22 3 (.int .i64 0) 8 Try.underlying22 Try.info3 rfl .i64 .i64 zs.length (by omega) (by omega)
  go_wp2
  clear hmk
  go_loopw [11] (fun i wr => ∃ t : Nat, t ≤ zs.length ∧ i = .int .i64 t ∧ RowAt wr wa.heap.size 0 (half (iota zs.length) t) ∧ RowAt wr bp 0 zs ∧ Below w.heap.size w wr ∧ wr.heap.size = wa.heap.size + 1) (fun i _ => zs.length - (intOf i).toNat)
  case atStart =>
    refine ⟨0, Nat.zero_le _, rfl, ?_, rp.below (by go_grown) a2, hB.trans (by have := hB.size; go_grown), by simp⟩
    rw [half_zero, iota_length]
    exact row_made wa _ _
  case round =>
    clear rp hB
    obtain ⟨t, ht, rfl, ri, rp, hB, hsz⟩ := hrel
    have il := iota_length zs.length
    by_cases hlt : t < zs.length
    · obtain ⟨c2, f2⟩ := ri t (by rw [half_length _ _ (by omega), il]; exact hlt)
      have hrow2 := ri.set t (by rw [half_length _ _ (by omega), il]; exact hlt) ((iota zs.length).getD t 0)
      rw [← half_succ _ t (by omega), iota_getD _ _ hlt] at hrow2
      rw [Nat.zero_add] at c2 f2 hrow2
      have HR : Hid (RowAt (wr.setCell ⟨wa.heap.size, t, none⟩ (.int .i64 (t : Int))) wa.heap.size 0 (half (iota zs.length) (t + 1)) ∧ RowAt (wr.setCell ⟨wa.heap.size, t, none⟩ (.int .i64 (t : Int))) bp 0 zs) := ⟨hrow2, rp.other _ _ (by omega)⟩
      have HZ : Hid (wr.heap.size = wa.heap.size + 1) := hsz
      have hws : w.heap.size ≤ wa.heap.size := by omega
      clear ri hrow2 rp hsz il
      generalize (half (iota zs.length) t).getD t 0 = y at *
      have j1 : (t : Int) < (zs.length : Int) := by omega
      go_wp2
      go_roundw
      case rel => exact ⟨t + 1, by omega, by go_num, HR.out.1, HR.out.2, hB.setCell hws _, by rw [World.size_setCell]; exact HZ.out⟩
      case measure => simp [intOf]; omega
    · have e0 : t = zs.length := by omega
      have ri2 : RowAt wr wa.heap.size 0 (iota zs.length) := by
        have := half_all (iota zs.length)
        rw [il, ← e0] at this
        rw [← e0, ← this, e0] 
        rw [e0] at ri
        exact ri
      clear ri e0
      have a3 : wa.heap.size < wr.heap.size := by omega
      have a4 : bp < wr.heap.size := by omega
      have a0 : w.heap.size ≤ wa.heap.size := by omega
      clear hsz
      generalize wa.heap.size = bi at *
      go_wp2_with fail
      refine (newGen_any _ _ _).mono ?_
      rintro e wb ⟨g1, p1, rfl, hg1, b1, b2, hbl⟩
      replace ri2 := ri2.below hbl a3
      replace rp := rp.below hbl a4
      replace hB := hB.trans (hbl.mono hB.size)
      have b3 : bp < wb.heap.size := by have := hbl.size; omega
      have b4 : bi < wb.heap.size := by have := hbl.size; omega
      clear hbl
      go_wp2_with fail
      refine (zsh_int g1 p1 bi _ _ _ s1 s2 n wb il hg1 ri2 (by omega) (by omega) k3 k2).mono ?_
      rintro e wc ⟨rfl, ri3, -, fr⟩
      replace rp := RowAt.fr fr rp (by omega) (by omega)
      replace hB := Below.fr hB fr (by omega) (by omega)
      replace b3 : bp < wc.heap.size := by rw [fr.size]; exact b3
      replace b4 : bi < wc.heap.size := by rw [fr.size]; exact b4
      clear fr hg1 ri2
      go_wp2_with fail
      refine (clone_row bp _ _ zs wc rfl k3 rp).mono ?_
      rintro e wd ⟨bq, rfl, b5, b6, rq, hbl⟩
      replace ri3 := ri3.below hbl b4
      replace rp := rp.below hbl b3
      replace hB := hB.trans (hbl.mono hB.size)
      have b7 : bp < bq ∧ bi < bq := by omega
      clear hbl
      go_wp2_with fail
      refine (newGen_any _ _ _).mono ?_
      rintro e we ⟨g2, p2, rfl, hg2, b8, b9, hbl⟩
      replace ri3 := ri3.below hbl (by omega)
      replace rp := rp.below hbl (by omega)
      replace rq := rq.below hbl b6
      have b10 : w.heap.size ≤ p2 ∧ bq < p2 ∧ bq < g2 := by have := hB.size; omega
      have b11 : bq < we.heap.size := by have := hbl.size; omega
      replace hB := hB.trans (hbl.mono hB.size)
      clear hbl
      go_wp2_with fail
      refine (zsh_int g2 p2 bq _ _ zs s1 s2 n we rfl hg2 rq (by omega) (by omega) k3 k2).mono ?_
      rintro e wf ⟨rfl, rq2, hg3, fr⟩
      replace ri3 := RowAt.fr fr ri3 (by omega) (by omega)
      replace rp := RowAt.fr fr rp (by omega) (by omega)
      replace hB := Below.fr hB fr (by omega) (by omega)
      replace b11 : bq < wf.heap.size := by rw [fr.size]; exact b11
      have b12 : p2 < wf.heap.size := hg3.2.1
      have b13 : g2 < wf.heap.size := hg3.1
      clear fr hg2 rq
      have HL : Hid ((sh 0 (iota zs.length) (s1, s2) n.toNat).length = zs.length ∧ (sh 0 zs (s1, s2) n.toNat).length = zs.length) := ⟨by rw [sh_length, il], sh_length _ _ _ _⟩
      clear il
      have hmk := run_make_row' (P := Try.prog) 29 4 (.bool false) 1 Try.underlying29 Try.info4 rfl .i64 .i64 zs.length (by omega) (by omega)
      go_upto_region 19 with fail
      go_cut [15] (fun sv wx => sv = .slice (some ⟨wf.heap.size, 0, none⟩) zs.length zs.length ∧ wf.alloc (.cells (madeCells #[.bool false] zs.length) 4) = wx)
      case first =>
        go_wp2
        go_meet
        exact ⟨rfl, rfl⟩
      case rest =>
      obtain ⟨rfl, rfl⟩ := hcut
      clear hmk d1 d4
      have rs : BoolAt (wf.alloc (.cells (madeCells #[.bool false] zs.length) 4)) wf.heap.size zs.length (seenB (sh 0 (iota zs.length) (s1, s2) n.toNat) 0) := (bool_made wf zs.length 4).same (fun j _ => seenB_zero _ j)
      have hbl : Below wf.heap.size wf (wf.alloc (.cells (madeCells #[.bool false] zs.length) 4)) := by go_grown
      replace ri3 := ri3.below hbl (by omega)
      replace rp := rp.below hbl (by omega)
      replace rq2 := rq2.below hbl (by omega)
      replace hg3 := hg3.keep hbl
      have b14 : w.heap.size ≤ wf.heap.size := hB.size
      replace hB := hB.trans (hbl.mono hB.size)
      have b15 : (wf.alloc (.cells (madeCells #[.bool false] zs.length) 4)).heap.size = wf.heap.size + 1 := by simp
      clear hbl
      generalize wf.alloc (.cells (madeCells #[.bool false] zs.length) 4) = wf2 at *
      generalize wf.heap.size = bs at *
      have HB : Hid (wf2.heap.size = bs + 1) := b15
      clear b15
      go_wp2
      go_loopw [16] (fun i wr => ∃ t : Nat, t ≤ zs.length ∧ i = .int .i64 t ∧ BoolAt wr bs zs.length (seenB (sh 0 (iota zs.length) (s1, s2) n.toNat) t) ∧ RowAt wr bi 0 (sh 0 (iota zs.length) (s1, s2) n.toNat) ∧ RowAt wr bp 0 zs ∧ RowAt wr bq 0 (sh 0 zs (s1, s2) n.toNat) ∧ GenAt wr g2 p2 (stpN (s1, s2) n.toNat).1 (stpN (s1, s2) n.toNat).2 ∧ Below w.heap.size w wr ∧ wr.heap.size = bs + 1) (fun i _ => zs.length - (intOf i).toNat)
      case atStart => exact ⟨0, Nat.zero_le _, rfl, rs, ri3, rp, rq2, hg3, hB, HB.out⟩
      case round =>
        clear rs ri3 rp rq2 hg3 hB HB
        obtain ⟨t, ht, rfl, rs, ri, rp, rq, hg, hB, hsz⟩ := hrel
        have HZ : Hid (wr.heap.size = bs + 1) := hsz
        clear hsz
        by_cases hlt : t < zs.length
        · obtain ⟨v0, v1⟩ := blind_mem zs.length (s1, s2) n.toNat t k5 hlt
          have hnew := seenB_new (sh 0 (iota zs.length) (s1, s2) n.toNat) t (blind_nodup _ _ _ k5) (by rw [HL.out.1]; exact hlt) v0
          have hmap := blind_map zs (s1, s2) n.toNat t k5 hlt
          have hsucc := fun j => seenB_succ (sh 0 (iota zs.length) (s1, s2) n.toNat) t j (by rw [HL.out.1]; exact hlt) v0
          obtain ⟨x1, -⟩ := ri t (by rw [HL.out.1]; exact hlt)
          obtain ⟨x2, -⟩ := rq t (by rw [HL.out.2]; exact hlt)
          obtain ⟨v, hv⟩ := Int.eq_ofNat_of_zero_le v0
          rw [hmap] at x2
          rw [hv] at x1 x2 hnew v1 hsucc
          rw [Int.toNat_natCast] at x2 hnew hsucc
          obtain ⟨x3, -⟩ := rp v (by omega)
          obtain ⟨x4, f4⟩ := rs v (by omega)
          rw [hnew] at x4
          rw [Nat.zero_add] at x1 x2 x3
          have rs2 := rs.set v true (fun j _ => hsucc j)
          have HR : Hid (BoolAt (wr.setCell ⟨bs, v, none⟩ (.bool true)) bs zs.length (seenB (sh 0 (iota zs.length) (s1, s2) n.toNat) (t + 1)) ∧ RowAt (wr.setCell ⟨bs, v, none⟩ (.bool true)) bi 0 (sh 0 (iota zs.length) (s1, s2) n.toNat) ∧ RowAt (wr.setCell ⟨bs, v, none⟩ (.bool true)) bp 0 zs ∧ RowAt (wr.setCell ⟨bs, v, none⟩ (.bool true)) bq 0 (sh 0 zs (s1, s2) n.toNat) ∧ GenAt (wr.setCell ⟨bs, v, none⟩ (.bool true)) g2 p2 (stpN (s1, s2) n.toNat).1 (stpN (s1, s2) n.toNat).2 ∧ Below w.heap.size w (wr.setCell ⟨bs, v, none⟩ (.bool true))) :=
            ⟨rs2, ri.other _ _ (by omega), rp.other _ _ (by omega), rq.other _ _ (by omega), hg.set _ _ (by omega) (by omega), hB.setCell (by show w.heap.size ≤ bs; omega) _⟩
          have x5 : (wr.setCell ⟨bs, v, none⟩ (.bool true)).cell? ⟨bq, t, none⟩ = some (.int .i64 (zs.getD v 0)) := by rw [World.cell?_setCell_far _ _ _ _ (by show bs ≠ bq; omega)]; exact x2
          have x6 : (wr.setCell ⟨bs, v, none⟩ (.bool true)).cell? ⟨bp, v, none⟩ = some (.int .i64 (zs.getD v 0)) := by rw [World.cell?_setCell_far _ _ _ _ (by show bs ≠ bp; omega)]; exact x3
          clear rs ri rp rq hg hB hmap hsucc hnew rs2 hv v0 x2 x3
          generalize zs.getD v 0 = y at *
          have j1 : (t : Int) < (zs.length : Int) := by omega
          have j3 : ¬ (zs.length : Int) ≤ (v : Int) := by omega
          have j4 : decide (zs.length ≤ v) = false := by simp; omega
          go_wp2_with fail
          go_region_held3 (fun w' => w'.cell? ⟨bq, t, none⟩ = some (.int .i64 y) ∧ w'.cell? ⟨bp, v, none⟩ = some (.int .i64 y)) (go_simp) (fail)
          go_wp2
          go_roundw
          case rel =>
            obtain ⟨rs, ri, rp, rq, hg, hB⟩ := HR.out
            exact ⟨t + 1, by omega, by go_num, rs, ri, rp, rq, hg, hB.drew, by show (wr.setCell ⟨bs, v, none⟩ (.bool true)).heap.size = bs + 1; rw [World.size_setCell]; exact HZ.out⟩
          case measure => simp [intOf]; omega
        · clear rs ri
          have z1 : bp < wr.heap.size ∧ bq < wr.heap.size := by rw [HZ.out]; omega
          clear HZ
          obtain ⟨m, hm⟩ : ∃ m, n.toNat = m := ⟨_, rfl⟩
          rw [hm] at rq hg
          have k6 : m ≤ zs.length := by omega
          have HM : Hid ((n < 0 → m = 0) ∧ (0 ≤ n → n = (m : Int))) := ⟨by omega, by omega⟩
          have HL2 : Hid ((sh 0 zs (s1, s2) m).length = zs.length) := by rw [← hm]; exact HL.out.2
          clear hm HL
          go_upto_if 105 with fail
          go_cut [18] (fun dv wx => dv = .int .i64 (m : Int) ∧ wr = wx)
          case first =>
            by_cases hn0 : n < 0
            · go_wp2
              go_meet
              exact ⟨by rw [HM.out.1 hn0]; rfl, rfl⟩
            · go_wp2
              go_meet
              exact ⟨by rw [← HM.out.2 (by omega)], rfl⟩
          case rest =>
          obtain ⟨rfl, rfl⟩ := hcut
          clear HM k2 k5 hn1
          go_wp2_with fail
          refine (newGen_any _ _ _).mono ?_
          rintro e wk ⟨g3, p3, rfl, hg3, u1, u2, hbl⟩
          have u3 : w.heap.size ≤ p3 ∧ bq < p3 ∧ bp < p3 := by have := hB.size; omega
          have u6 : g2 ≠ p3 ∧ p2 ≠ p3 := by have h1 := hg.1; have h2 := hg.2.1; omega
          have u7 : g3 ≠ p2 := by have h2 := hg.2.1; omega
          replace rp := rp.below hbl z1.1
          replace rq := rq.below hbl z1.2
          replace hg := hg.keep hbl
          replace hB := hB.trans (hbl.mono hB.size)
          clear hbl
          go_wp2
          go_loopw [20, 21] (fun r i wr => ∃ t : Nat, t ≤ m ∧ i = .int .i64 t ∧ r = .int .u64 (firstDraw (s1, s2) t) ∧ RowAt wr bp 0 zs ∧ RowAt wr bq 0 (sh 0 zs (s1, s2) m) ∧ GenAt wr g2 p2 (stpN (s1, s2) m).1 (stpN (s1, s2) m).2 ∧ GenAt wr g3 p3 (stpN (s1, s2) t).1 (stpN (s1, s2) t).2 ∧ Below w.heap.size w wr) (fun _ i _ => m - (intOf i).toNat)
          case atStart => exact ⟨0, Nat.zero_le _, rfl, rfl, rp, rq, hg, hg3, hB⟩
          case round =>
            clear rp rq hg hg3 hB
            obtain ⟨t, ht, rfl, rfl, rp, rq, hg, hg3, hB⟩ := hrel
            by_cases htm : t < m
            · go_wp2_with fail
              refine (rngNext_any _ _ _ _ _ hg3).mono ?_
              rintro e wl ⟨rfl, rfl⟩
              replace rp := rp.draw (pb := p3) (by omega) (stpN (s1, s2) t).1 (stpN (s1, s2) t).2
              replace rq := rq.draw (pb := p3) (by omega) (stpN (s1, s2) t).1 (stpN (s1, s2) t).2
              replace hg := hg.apart (q := p3) (stpN (s1, s2) t).1 (stpN (s1, s2) t).2 u6.1 u6.2
              replace hg3 := hg3.draw
              replace hB := drawW_below hB u3.1 (stpN (s1, s2) t).1 (stpN (s1, s2) t).2
              generalize drawW wr p3 (stpN (s1, s2) t).1 (stpN (s1, s2) t).2 = wl at *
              cases ht0 : ((t : Int) == 0) with
              | true =>
                have e1 : Hid (firstDraw (s1, s2) (t + 1) = outv (stpN (s1, s2) t).1 (stpN (s1, s2) t).2) := by
                  have : t = 0 := by simp at ht0; omega
                  subst this; rfl
                go_wp2
                go_roundw
                case rel => exact ⟨t + 1, by omega, by go_num, by rw [e1.out], rp, rq, hg, hg3, hB⟩
                case measure => simp [intOf]; omega
              | false =>
                have e1 : Hid (firstDraw (s1, s2) (t + 1) = firstDraw (s1, s2) t) := by
                  have : t ≠ 0 := by simp at ht0; omega
                  obtain ⟨t', rfl⟩ := Nat.exists_eq_succ_of_ne_zero this
                  rfl
                go_wp2
                go_roundw
                case rel => exact ⟨t + 1, by omega, by go_num, by rw [e1.out], rp, rq, hg, hg3, hB⟩
                case measure => simp [intOf]; omega
            · have e0 : t = m := by omega
              rw [e0] at hg3 ⊢
              clear e0 htm ht
              go_wp2_with fail
              refine (rngNext_any _ _ _ _ _ hg).mono ?_
              rintro e wl ⟨rfl, rfl⟩
              replace rp := rp.draw (pb := p2) (by omega) (stpN (s1, s2) m).1 (stpN (s1, s2) m).2
              replace rq := rq.draw (pb := p2) (by omega) (stpN (s1, s2) m).1 (stpN (s1, s2) m).2
              replace hg3 := hg3.apart (q := p2) (stpN (s1, s2) m).1 (stpN (s1, s2) m).2 u7 (Ne.symm u6.2)
              replace hB := drawW_below hB (pb := p2) (by omega) (stpN (s1, s2) m).1 (stpN (s1, s2) m).2
              clear hg
              generalize drawW wr p2 (stpN (s1, s2) m).1 (stpN (s1, s2) m).2 = wl at *
              go_wp2_with fail
              refine (rngNext_any _ _ _ _ _ hg3).mono ?_
              rintro e wo ⟨rfl, rfl⟩
              replace rp := rp.draw (pb := p3) (by omega) (stpN (s1, s2) m).1 (stpN (s1, s2) m).2
              replace rq := rq.draw (pb := p3) (by omega) (stpN (s1, s2) m).1 (stpN (s1, s2) m).2
              replace hB := drawW_below hB u3.1 (stpN (s1, s2) m).1 (stpN (s1, s2) m).2
              clear hg3
              generalize drawW wl p3 (stpN (s1, s2) m).1 (stpN (s1, s2) m).2 = wo at *
              by_cases hm1 : 1 ≤ m
              · obtain ⟨D, hD⟩ : ∃ D, dOf 0 zs.length (s1, s2) = D := ⟨_, rfl⟩
                have hD1 : D < zs.length := by rw [← hD]; have := dOf_lt 0 zs.length (s1, s2) (by omega); omega
                have eD := dOf_eq 0 zs.length (s1, s2) (by omega)
                rw [hD, Int.natCast_zero, Int.sub_zero] at eD
                have hat := blind_first zs (s1, s2) m hm1 k6
                rw [hD] at hat
                obtain ⟨x1, -⟩ := rq 0 (by rw [HL2.out]; omega)
                obtain ⟨x2, -⟩ := rp D hD1
                rw [hat] at x1
                rw [Nat.zero_add] at x1 x2
                have e1 : firstDraw (s1, s2) m = outv s1 s2 := firstDraw_pos _ _ hm1
                rw [e1]
                clear rp rq hat hD e1 HL2
                obtain ⟨o1, o2⟩ := outv_range s1 s2
                generalize zs.getD D 0 = y at *
                generalize outv s1 s2 = o at *
                have h2 : IntKind.u64.wrap (zs.length : Int) = (zs.length : Int) := by rw [IntKind.wrap_u64]; omega
                have h3 : IntKind.i64.wrap (D : Int) = (D : Int) := by rw [wrapEq]; exact wrap64_id _ (by omega) (by omega)
                have h5 : o.tmod (zs.length : Int) = (D : Int) := by rw [Int.tmod_eq_emod_of_nonneg o1]; exact eD
                have h6 : ((zs.length : Int) == 0) = false := by rw [beq_eq_false_iff_ne]; omega
                have h7 : ¬ (zs.length : Int) = 0 := by omega
                have h8 : (D : Int) < (zs.length : Int) := by omega
                have h9 : (0 : Int) < (zs.length : Int) := by omega
                have hd : decide ((1 : Int) ≤ (m : Int)) = true := by simp; omega
                have hd2 : decide (1 ≤ m) = true := by simp; omega
                go_wp2_with fail
                go_quiet (fail)
                go_wp2
                go_ret
                exact ⟨rfl, below_drewN hB _⟩
              · have hd : decide ((1 : Int) ≤ (m : Int)) = false := by simp; omega
                have hd2 : decide (1 ≤ m) = false := by simp; omega
                go_wp2_with fail
                go_quiet (fail)
                go_wp2
                go_ret
                exact ⟨rfl, below_drewN hB _⟩

set_option maxHeartbeats 1000000 in
set_option maxRecDepth 100000 in
theorem blind_nil (n s1 s2 : Int) (w : World) :
    Calls Try.prog 3 #[.slice none 0 0, .int .i64 n, .int .u64 s1, .int .u64 s2] w fun e w' => e = .returned (.bool true) ∧ Below w.heap.size w w' := by
  go_enter Try.func3, Try.ntmps3
  go_wp2_with fail
  refine (bytes9 _ _ _ _ _ _ _ (Nat.zero_le _)).mono ?_
  rintro e w1 ⟨b, rfl, rfl⟩
  cases b
  · go_wp2
    go_ret
    exact ⟨rfl, Below.refl _ _⟩
  by_cases c4 : 0 < n
  · go_wp2
    go_ret
    exact ⟨rfl, Below.refl _ _⟩
  have d4 : decide (0 < n) = false := by simp; omega
  have hmk := run_make_row' (P := Try.prog) 22 3 (.int .i64 0) 8 Try.underlying22 Try.info3 rfl .i64 .i64 0 (by omega) (by omega)
  have hmk2 := run_make_row' (P := Try.prog) 29 4 (.bool false) 1 Try.underlying29 Try.info4 rfl .i64 .i64 0 (by omega) (by omega)
  rw [Int.natCast_zero] at hmk hmk2
  go_wp2_with fail
  refine (clone_nil _).mono ?_
  rintro e wa ⟨rfl, rfl⟩
  go_wp2
  refine wp_loop_rounds 1 ?_
  rw [rounds_succ]
  go_wp2_with fail
  refine (newGen_any _ _ _).mono ?_
  rintro e wb ⟨g1, p1, rfl, hg1, a3, a4, hbl⟩
  have hB : Below wa.heap.size wa wb := Below.trans (by go_grown) (hbl.mono (by simp))
  clear hbl hg1 a3 a4
  go_wp2_with fail
  refine (zsh_none _ _ _ _ _ _ (by omega)).mono ?_
  rintro e wc ⟨rfl, rfl⟩
  go_wp2_with fail
  refine (clone_nil _).mono ?_
  rintro e wd ⟨rfl, rfl⟩
  go_wp2_with fail
  refine (newGen_any _ _ _).mono ?_
  rintro e we ⟨g2, p2, rfl, hg2, b4, b5, hbl⟩
  have b6 := hB.size
  replace hB := hB.trans (hbl.mono hB.size)
  clear hbl
  go_wp2_with fail
  refine (zsh_none _ _ _ _ _ _ (by omega)).mono ?_
  rintro e wf ⟨rfl, rfl⟩
  go_wp2
  refine wp_loop_rounds 1 ?_
  rw [rounds_succ]
  have hbl : Below wf.heap.size wf (wf.alloc (.cells (madeCells #[.bool false] 0) 4)) := by go_grown
  have b7 := hB.size
  replace hg2 := hg2.keep hbl
  replace hB := hB.trans (hbl.mono hB.size)
  have b8 : p2 < (wf.alloc (.cells (madeCells #[.bool false] 0) 4)).heap.size := hg2.2.1
  have b9 : g2 < (wf.alloc (.cells (madeCells #[.bool false] 0) 4)).heap.size := hg2.1
  clear hbl
  by_cases hn0 : n < 0
  all_goals
    go_wp2_with fail
    refine (newGen_any _ _ _).mono ?_
    rintro e wg ⟨g3, p3, rfl, hg3, u1, u2, hbl⟩
    replace hg2 := hg2.keep hbl
    replace hB := hB.trans (hbl.mono hB.size)
    clear hbl
    go_wp2
    refine wp_loop_rounds 1 ?_
    rw [rounds_succ]
    go_wp2_with fail
    refine (rngNext_any _ _ _ _ _ hg2).mono ?_
    rintro e wh ⟨rfl, rfl⟩
    replace hg3 := hg3.apart (q := p2) s1 s2 (by omega) (by omega)
    replace hB := drawW_below hB (pb := p2) (by omega) s1 s2
    go_wp2_with fail
    refine (rngNext_any _ _ _ _ _ hg3).mono ?_
    rintro e wi ⟨rfl, rfl⟩
    replace hB := drawW_below hB (pb := p3) (by simp at u2; omega) s1 s2
  · go_wp2_with fail
    go_quiet (fail)
    go_wp2
    go_ret
    exact ⟨rfl, below_drewN hB _⟩
  · have hd : decide (1 ≤ n) = false := by simp; omega
    go_wp2_with fail
    go_quiet (fail)
    go_wp2
    go_ret
    exact ⟨rfl, below_drewN hB _⟩
end Go.Proofs.Qxb6613790a
