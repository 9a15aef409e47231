import Derived.Test.Qxb6612497aFmtRs
import Derived.Deep.AppendLies
import Derived.Deep.RegionLaw
namespace Go.Proofs.Qxb6612497aFmt
open Go.RowKit

theorem Tryf.info65 : (Tryf.prog.info? 65).map (fun i => (i.zero, i.size, i.bytes)) = some (some (.pointer none), 1, 8) := by kernel_rfl
theorem own_far {w : World} {base : Nat} {e : TypeId} {size : Nat} {v : Value} {n : Nat} {xs : List Value} (h : w.ownsRow base e size v n xs) {k : Nat} (hk : k < base) : some k ≠ v.ownBlock := by
  rcases h.2 with ⟨rfl, -⟩ | ⟨g, cap, cur, rfl, hb, -⟩
  · intro e; cases e
  · intro e
    have : k = g := Option.some.inj e
    omega

set_option maxHeartbeats 1000000 in
theorem zzDeclare_new (m : Nat) (l c : Int) (s : ByteArray) (w : World) (hs : s.size ≤ maxLen) (L : List (List UInt8)) (hL : L.contains s.data.toList = false) (hLl : L.length < maxLen) (hr : m + 7 < w.heap.size) (r6 : w.cell? ⟨m + 7, 6, none⟩ = some (.map (some (m + 5))))
    (hm : MapOf w (m + 5) (.agg #[.string { data := #[] }, .int .i64 l, .int .i64 c]) (.agg #[.string { data := #[] }, .int .i64 0, .int .i64 0]) L) :
    Calls Tryf.prog 8 #[.pointer (some ⟨m + 7, 0, none⟩), .agg #[.string { data := #[] }, .int .i64 l, .int .i64 c, .string s]] w fun e w' => e = .returned (.tuple #[]) ∧
      MapOf w' (m + 5) (.agg #[.string { data := #[] }, .int .i64 l, .int .i64 c]) (.agg #[.string { data := #[] }, .int .i64 0, .int .i64 0]) (s.data.toList :: L) ∧ w.grownBy w' (some (m + 5)) := by
  have HM : Hid (MapOf w (m + 5) (.agg #[.string { data := #[] }, .int .i64 l, .int .i64 c]) (.agg #[.string { data := #[] }, .int .i64 0, .int .i64 0]) L) := hm
  have HL : Hid (L.contains s.data.toList = false) := hL
  clear hm hL
  go_enter Tryf.func8, Tryf.ntmps8
  go_wp2_with fail
  generalize hwb : w.alloc _ = wb
  have hB : Below w.heap.size w wb := by rw [← hwb]; exact (Below.refl _ _).alloc (Nat.le_refl _) _
  have hsz := hB.size
  refine (declare_new m l c s wb hs L HL.out hLl (by omega) ((hB.cell (p := ⟨m + 7, 6, none⟩) hr).trans r6) (MapR.below HM.out hB (by omega))).mono ?_
  rintro e w1 ⟨rfl, h1, h2⟩
  have HE : Hid (MapOf w1 (m + 5) (.agg #[.string { data := #[] }, .int .i64 l, .int .i64 c]) (.agg #[.string { data := #[] }, .int .i64 0, .int .i64 0]) (s.data.toList :: L) ∧ w.grownBy w1 (some (m + 5))) :=
    ⟨h1, ⟨h2.os.trans hB.os, h2.tape.trans hB.tape, h2.output.trans hB.output, Nat.le_trans hB.size h2.size, fun k hk hne => (h2.block k (by omega) hne).trans (hB.block k hk)⟩⟩
  clear h1 h2
  go_wp2
  go_end0
  exact ⟨rfl, HE.out.1, HE.out.2⟩

set_option maxRecDepth 100000 in
set_option maxHeartbeats 2000000 in
theorem sortDecl_new (m q d : Nat) (l c : Int) (s : ByteArray) (w : World) (v : Value) (xs : List Value) (hs : s.size ≤ maxLen) (L : List (List UInt8)) (hL : L.contains s.data.toList = false) (hLl : L.length < 65536) (hq : m + 8 ≤ q) (hqw : q ≤ w.heap.size)
    (hd : d < w.heap.size) (hdm : d ≠ m ∧ d ≠ m + 1 ∧ d ≠ m + 6) (d3 : w.cell? ⟨d, 3, none⟩ = some (.string { data := #[] })) (d4 : w.cell? ⟨d, 4, none⟩ = some (.int .i64 l)) (d5 : w.cell? ⟨d, 5, none⟩ = some (.int .i64 c)) (d6 : w.cell? ⟨d, 6, none⟩ = some (.string s))
    (r0 : w.cell? ⟨m + 7, 0, none⟩ = some (.pointer (some ⟨m, 0, none⟩))) (r1 : w.cell? ⟨m + 7, 1, none⟩ = some (.map (some (m + 1)))) (r7 : w.cell? ⟨m + 7, 7, none⟩ = some (.map (some (m + 6))))
    (rm : w.cell? ⟨m, 0, none⟩ = some v) (rf : w.frozen? ⟨m, 0, none⟩ = false) (ho : w.ownsRow q 65 1 v L.length xs)
    (hm : MapOf w (m + 6) (.agg #[.string { data := #[] }, .int .i64 l, .int .i64 c]) (.agg #[.string { data := #[] }, .int .i64 0, .int .i64 0]) L) (hp : MapR w (m + 1) rdp L) :
    Calls Tryf.prog 13 #[.pointer (some ⟨m + 7, 0, none⟩), .pointer (some ⟨d, 0, none⟩)] w fun e w' => e = .returned (.tuple #[]) ∧
      MapOf w' (m + 6) (.agg #[.string { data := #[] }, .int .i64 l, .int .i64 c]) (.agg #[.string { data := #[] }, .int .i64 0, .int .i64 0]) (s.data.toList :: L) ∧ MapR w' (m + 1) rdp (s.data.toList :: L) ∧
      (∃ v' xs', w'.cell? ⟨m, 0, none⟩ = some v' ∧ w'.frozen? ⟨m, 0, none⟩ = false ∧ w'.ownsRow q 65 1 v' (L.length + 1) xs') ∧ Keeps m q w w' := by
  have HM : Hid (MapOf w (m + 6) (.agg #[.string { data := #[] }, .int .i64 l, .int .i64 c]) (.agg #[.string { data := #[] }, .int .i64 0, .int .i64 0]) L) := hm
  have HP : Hid (MapR w (m + 1) rdp L) := hp
  have HO : Hid (w.ownsRow q 65 1 v L.length xs) := ho
  have HL : Hid (L.contains s.data.toList = false) := hL
  have hlk : ∀ W, MapOf W (m + 6) (.agg #[.string { data := #[] }, .int .i64 l, .int .i64 c]) (.agg #[.string { data := #[] }, .int .i64 0, .int .i64 0]) L →
    (Instr.lookup 56 (.map (some (m + 6))) (.string s) true).run Tryf.prog W = .ok (.tuple #[.agg #[.string { data := #[] }, .int .i64 0, .int .i64 0], .bool false]) W := by
    intro W hW
    have := hW.look_ok Tryf.underlying56 (zero30 W) hs
    rw [hL] at this
    exact this
  obtain ⟨a, cap, rfl⟩ : ∃ a cap, v = .slice a L.length cap := by
    rcases ho.2 with ⟨rfl, h0⟩ | ⟨g, cap, cur, rfl, -⟩
    · exact ⟨none, 0, by rw [h0]⟩
    · exact ⟨_, _, rfl⟩
  have hq1 : m + 6 ≠ w.heap.size := by omega
  have hq2 : m + 7 < w.heap.size := by omega
  clear ho hp hL
  go_enter Tryf.func13, Tryf.ntmps13
  go_upto_region 0 with fail
  go_cut [5] (fun b wx => b = .bool false ∧ Below w.heap.size w wx)
  case first =>
    go_region_held3 (fun w' => MapOf w' (m + 6) (.agg #[.string { data := #[] }, .int .i64 l, .int .i64 c]) (.agg #[.string { data := #[] }, .int .i64 0, .int .i64 0]) L ∧ w'.cell? ⟨m + 7, 7, none⟩ = some (.map (some (m + 6))) ∧ w'.cell? ⟨d, 6, none⟩ = some (.string s)) (go_simp) (fail)
    all_goals
      go_wp2
      go_meet
      exact ⟨rfl, ((Below.refl _ _).alloc (Nat.le_refl _) _).drew⟩
  case rest =>
  obtain ⟨rfl, hB1⟩ := hcut
  have cs : ∀ k o u, k < w.heap.size → w.cell? ⟨k, o, none⟩ = some u → wc.cell? ⟨k, o, none⟩ = some u := fun k o u hk h => (hB1.cell (p := ⟨k, o, none⟩) hk).trans h
  have d3 := cs d 3 _ hd d3
  have d4 := cs d 4 _ hd d4
  have d5 := cs d 5 _ hd d5
  have d6 := cs d 6 _ hd d6
  have r0 := cs (m + 7) 0 _ hq2 r0
  have r1 := cs (m + 7) 1 _ hq2 r1
  have r7 := cs (m + 7) 7 _ hq2 r7
  have rm := cs m 0 _ (by omega) rm
  clear cs
  have hm1 : MapOf wc (m + 6) (.agg #[.string { data := #[] }, .int .i64 l, .int .i64 c]) (.agg #[.string { data := #[] }, .int .i64 0, .int .i64 0]) L := MapR.below HM.out hB1 (by omega)
  obtain ⟨wd, hrun, hm4, hturn⟩ := MapR.store (w := wc.drew) (t := 56) hm1 (rdr_c _ _) Tryf.underlying56 hs HL.out (by unfold maxLen; omega)
  have ct : ∀ k o u, k ≠ m + 6 → wc.cell? ⟨k, o, none⟩ = some u → wd.cell? ⟨k, o, none⟩ = some u := fun k o u hk h => (turned_cell hturn (a := ⟨k, o, none⟩) hk).trans h
  have e3 := ct d 3 _ hdm.2.2 d3
  have e4 := ct d 4 _ hdm.2.2 d4
  have e5 := ct d 5 _ hdm.2.2 d5
  have e6 := ct d 6 _ hdm.2.2 d6
  have f0 := ct (m + 7) 0 _ (by omega) r0
  have f1 := ct (m + 7) 1 _ (by omega) r1
  have f7 := ct (m + 7) 7 _ (by omega) r7
  have fm := ct m 0 _ (by omega) rm
  clear ct
  have HG : Hid (MapR wd (m + 6) (rdr (.agg #[.string { data := #[] }, .int .i64 l, .int .i64 c]) (.agg #[.string { data := #[] }, .int .i64 0, .int .i64 0])) (s.data.toList :: L) ∧ World.mapTurned wc.drew wd (m + 6) ∧ Below w.heap.size w wc) := ⟨hm4, hturn, hB1⟩
  have hszd : w.heap.size ≤ wd.heap.size := (grown_turned hB1 hturn).size
  have n1 : m + 7 < wd.heap.size := by omega
  have n2 : m < wd.heap.size := by omega
  have n3 : d < wd.heap.size := by omega
  clear hm4 hturn hB1 hm1 hlk hm hszd
  go_wp2_with fail
  go_region_held3 (fun w' => w'.cell? ⟨m + 7, 7, none⟩ = some (.map (some (m + 6))) ∧ w'.cell? ⟨d, 3, none⟩ = some (.string { data := #[] }) ∧ w'.cell? ⟨d, 4, none⟩ = some (.int .i64 l) ∧ w'.cell? ⟨d, 5, none⟩ = some (.int .i64 c) ∧ w'.cell? ⟨d, 6, none⟩ = some (.string s)) (go_simp) (fail)
  go_wp2_with fail
  go_region_held3 (fun w' => w'.cell? ⟨m + 7, 0, none⟩ = some (.pointer (some ⟨m, 0, none⟩)) ∧ w'.cell? ⟨m, 0, none⟩ = some (.slice a L.length cap) ∧ w'.cell? ⟨d, 6, none⟩ = some (.string s)) (go_simp) (fail)
  go_wp2_with fail
  generalize hwe : (wd.alloc _).drew = we
  have hBe : Below wd.heap.size wd we := by rw [← hwe]; exact ((Below.refl _ _).alloc (Nat.le_refl _) _).drew
  have hse : we.heap.size = wd.heap.size + 1 := by rw [← hwe]; simp [World.drew]
  have y0 : we.cell? ⟨wd.heap.size, 0, none⟩ = some (.string s) := by rw [← hwe]; simp [go_sem]
  have f0 := (hBe.cell (p := ⟨m + 7, 0, none⟩) n1).trans f0
  have f1 := (hBe.cell (p := ⟨m + 7, 1, none⟩) n1).trans f1
  have fm := (hBe.cell (p := ⟨m, 0, none⟩) n2).trans fm
  have hp4 : MapR we (m + 1) rdp L := by
    have h1 : MapR wc (m + 1) rdp L := HP.out.below HG.out.2.2 (by omega)
    have h2 : MapR wd (m + 1) rdp L := h1.keep (turned_block HG.out.2.1 (by omega))
    exact h2.below hBe (by omega)
  obtain ⟨wf, hrun2, hp5, hturn2⟩ := MapR.store (w := we.drew) (t := 52) (c := .pointer (some ⟨wd.heap.size, 0, none⟩)) hp4 rfl Tryf.underlying52 hs HL.out (by unfold maxLen; omega)
  have ct : ∀ k o u, k ≠ m + 1 → we.cell? ⟨k, o, none⟩ = some u → wf.cell? ⟨k, o, none⟩ = some u := fun k o u hk h => (turned_cell hturn2 (a := ⟨k, o, none⟩) hk).trans h
  have y0f := ct wd.heap.size 0 _ (by omega) y0
  have f0f := ct (m + 7) 0 _ (by omega) f0
  have f1f := ct (m + 7) 1 _ (by omega) f1
  have fmf := ct m 0 _ (by omega) fm
  clear ct
  have hb1 : ∀ k, k < wd.heap.size → k ≠ m + 1 → wf.heap[k]? = wd.heap[k]? := fun k hk hne => (turned_block hturn2 hne).trans (hBe.block k hk)
  have hb2 : ∀ k, k < w.heap.size → k ≠ m + 1 → k ≠ m + 6 → wf.heap[k]? = w.heap[k]? := fun k hk hne hne2 => (hb1 k (by have := (grown_turned HG.out.2.2 HG.out.2.1).size; omega) hne).trans ((turned_block HG.out.2.1 hne2).trans (HG.out.2.2.block k hk))
  have hsf : wf.heap.size = wd.heap.size + 1 := by
    obtain ⟨es, clock, es', clock', hb, rfl⟩ := hturn2
    show (ChangeMaps.setBlock we.drew (m + 1) _).heap.size = _
    simp only [ChangeMaps.setBlock, Array.size_setIfInBounds]
    exact hse
  have hof : wf.ownsRow q 65 1 (.slice a L.length cap) L.length xs := by
    have ho := HO.out
    refine ⟨ho.1, ?_⟩
    rcases ho.2 with ⟨e1, e2⟩ | ⟨g, cap', cur, e1, e2, e3, e4⟩
    · exact .inl ⟨e1, e2⟩
    · refine .inr ⟨g, cap', cur, e1, e2, ?_, e4⟩
      have hgl : g < w.heap.size := (Array.getElem?_eq_some_iff.1 e3).1
      rw [hb2 g hgl (by omega) (by omega)]; exact e3
  have hff : wf.frozen? ⟨m, 0, none⟩ = false := (World.frozen?_of_block (w := w) (a := ⟨m, 0, none⟩) (hb2 m (by omega) (by omega) (by omega))).trans rf
  have hm5 : MapR wf (m + 6) (rdr (.agg #[.string { data := #[] }, .int .i64 l, .int .i64 c]) (.agg #[.string { data := #[] }, .int .i64 0, .int .i64 0])) (s.data.toList :: L) := HG.out.1.keep (hb1 (m + 6) (by omega) (by omega))
  have HF : Hid (MapR wf (m + 6) (rdr (.agg #[.string { data := #[] }, .int .i64 l, .int .i64 c]) (.agg #[.string { data := #[] }, .int .i64 0, .int .i64 0])) (s.data.toList :: L) ∧ MapR wf (m + 1) rdp (s.data.toList :: L) ∧ wf.ownsRow q 65 1 (.slice a L.length cap) L.length xs ∧
      (∀ k, k < w.heap.size → k ≠ m + 1 → k ≠ m + 6 → wf.heap[k]? = w.heap[k]?) ∧ w.heap.size ≤ wf.heap.size ∧ wf.os = w.os ∧ wf.tape = w.tape ∧ wf.output = w.output) :=
    ⟨hm5, hp5, hof, hb2, by have := (grown_turned HG.out.2.2 HG.out.2.1).size; omega, hturn2.grown.os.trans (hBe.os.trans (grown_turned HG.out.2.2 HG.out.2.1).os), hturn2.grown.tape.trans (hBe.tape.trans (grown_turned HG.out.2.2 HG.out.2.1).tape), hturn2.grown.output.trans (hBe.output.trans (grown_turned HG.out.2.2 HG.out.2.1).output)⟩
  have n4 : m + 7 < wf.heap.size := by omega
  have n5 : m < wf.heap.size := by omega
  clear hwe hBe hse hp4 hp5 hturn2 hb1 hb2 hsf hof hm5
  go_region_held3 (fun w' => w'.cell? ⟨m + 7, 1, none⟩ = some (.map (some (m + 1))) ∧ w'.cell? ⟨wd.heap.size, 0, none⟩ = some (.string s)) (go_simp) (fail)
  go_wp2_with fail
  obtain ⟨i0, hi, hz0, hz1, hz2⟩ := info_parts Tryf.info65
  have hqf : q ≤ wf.heap.size := Nat.le_trans hqw HF.out.2.2.2.2.1
  go_region_law
    (first
      | (refine step_append_lies _ rfl (.tmp 89) (.tmp 91) 42 rfl q 65 i0 (.pointer none) 1 8 Tryf.underlying42 hi hz0 hz1 hz2 rfl (by decide) (.slice a L.length cap) L.length xs rfl (HF.out.2.2.1.alloc _) ⟨wf.heap.size, 0, none⟩ 1 1 [.pointer (some ⟨wd.heap.size, 0, none⟩)] rfl rfl (cell_one_new _ _ _) (by intro u hu; cases hu with | head => rfl | tail _ h => cases h) (by decide) (by unfold maxLen; omega) (by omega) (by show q ≤ (wf.alloc _).heap.size; rw [World.size_alloc]; omega) _ rfl ?_
         intro g cap1 w1 hown hgrow hat hlt
         have zb : ∀ k, k < q → w1.heap[k]? = wf.heap[k]? := fun k hk => (hgrow.block k (by show k < (wf.alloc _).heap.size; rw [World.size_alloc]; omega) (own_far HF.out.2.2.1 hk)).trans (((Below.refl wf.heap.size wf).alloc (Nat.le_refl _) _).block k (by omega))
         have z1 : w1.cell? ⟨m + 7, 0, none⟩ = some (.pointer (some ⟨m, 0, none⟩)) := (World.cell?_of_block (a := ⟨m + 7, 0, none⟩) (zb (m + 7) (by omega))).trans f0f
         have z2 : w1.cell? ⟨m, 0, none⟩ = some (.slice a L.length cap) := (World.cell?_of_block (a := ⟨m, 0, none⟩) (zb m (by omega))).trans fmf
         have z3 : w1.frozen? ⟨m, 0, none⟩ = false := (World.frozen?_of_block (a := ⟨m, 0, none⟩) (zb m (by omega))).trans hff
         have HW : Hid (w1.ownsRow q 65 1 (.slice (some ⟨g, 0, none⟩) (L.length + 1) cap1) (L.length + 1) (xs ++ [.pointer (some ⟨wd.heap.size, 0, none⟩)]) ∧ (∀ k, k < q → w1.heap[k]? = wf.heap[k]?) ∧ wf.heap.size ≤ w1.heap.size ∧ w1.os = wf.os ∧ w1.tape = wf.tape ∧ w1.output = wf.output) :=
           ⟨hown, zb, Nat.le_trans (by show wf.heap.size ≤ (wf.alloc _).heap.size; rw [World.size_alloc]; omega) hgrow.size, hgrow.os, hgrow.tape, hgrow.output⟩
         clear hown hgrow hat hlt zb))
  all_goals
    go_wp2
    go_end0
    obtain ⟨p1, p2, p3, p4, p5, p6⟩ := HW.out
    obtain ⟨q1, q2, q3, q4, q5, q6, q7, q8⟩ := HF.out
    have hk : ∀ k, k < q → k ≠ m → (w1.setCell ⟨m, 0, none⟩ (.slice (some ⟨g, 0, none⟩) (L.length + 1) cap1)).heap[k]? = wf.heap[k]? := fun k hk hne => by
      rw [Below.heap_setCell _ _ _ _ hne]; exact p2 k hk
    refine ⟨rfl, q1.keep (hk (m + 6) (by omega) (by omega)), q2.keep (hk (m + 1) (by omega) (by omega)), ⟨_, xs ++ [.pointer (some ⟨wd.heap.size, 0, none⟩)], World.cell?_setCell_same _ _ _ z2, by rw [World.frozen?_setCell]; exact z3, ?_⟩, ?_⟩
    · obtain ⟨o1, o2⟩ := p1
      refine ⟨o1, ?_⟩
      rcases o2 with ⟨e1, e2⟩ | ⟨g', cap', cur, e1, e2, e3, e4⟩
      · exact .inl ⟨e1, e2⟩
      · exact .inr ⟨g', cap', cur, e1, e2, by rw [Below.heap_setCell _ _ _ _ (by show g' ≠ m; omega)]; exact e3, e4⟩
    · refine ⟨?_, ?_, ?_, ?_, fun k hkq h1 h2 h4 => ?_⟩
      · exact p4.trans q6
      · exact p5.trans q7
      · exact p6.trans q8
      · rw [World.size_setCell]; omega
      · exact (hk k hkq h1).trans (q4 k (by omega) h2 h4)
end Go.Proofs.Qxb6612497aFmt
