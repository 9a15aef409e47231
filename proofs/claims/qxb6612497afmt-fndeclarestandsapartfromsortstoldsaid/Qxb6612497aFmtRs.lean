import Derived.Test.Qxb6612497aFmtLf
namespace Go.Proofs.Qxb6612497aFmt
open Go.RowKit

theorem turned_block {w w' : World} {b : Nat} (h : w.mapTurned w' b) {k : Nat} (hk : k ≠ b) : w'.heap[k]? = w.heap[k]? := by
  obtain ⟨es, clock, es', clock', hb, rfl⟩ := h
  exact ChangeMaps.heap_setBlock_other hb _ hk
theorem turned_cell {w w' : World} {b : Nat} (h : w.mapTurned w' b) {a : Addr} (ha : a.block ≠ b) : w'.cell? a = w.cell? a := World.cell?_of_block (turned_block h ha)
/-- Old blocks as they were, then one map turned. -/
theorem grown_turned {w wc wd : World} {b : Nat} (hB : Below w.heap.size w wc) (h : World.mapTurned wc.drew wd b) : w.grownBy wd (some b) := by
  have hg := h.grown
  refine ⟨hg.os.trans hB.os, hg.tape.trans hB.tape, hg.output.trans hB.output, Nat.le_trans hB.size hg.size, fun k hk hne => ?_⟩
  exact (turned_block h (fun e => hne (by rw [e]))).trans (hB.block k hk)

theorem zero30 (w : World) : (zeroValue 30).run Tryf.prog w = .ok (.agg #[.string { data := #[] }, .int .i64 0, .int .i64 0]) w := by kernel_rfl

@[go_sem] theorem mapOf_drew (w : World) (b : Nat) (c z : Value) (L : List (List UInt8)) : MapOf w.drew b c z L = MapOf w b c z L := rfl
@[go_sem] theorem mapOf_alloc (w : World) (b : Nat) (c z : Value) (L : List (List UInt8)) (o : Obj) (h : MapOf w b c z L) : MapOf (w.alloc o) b c z L := MapR.alloc h o
@[go_sem] theorem mapOf_setCell (w : World) (b : Nat) (c z : Value) (L : List (List UInt8)) (a : Addr) (u : Value) (h : MapOf w b c z L) (ha : b ≠ a.block) : MapOf (w.setCell a u) b c z L := MapR.setCell h ha u

/-- The two worlds differ, below q, in the blocks m, m + 1, m + 6 alone. -/
structure Keeps (m q : Nat) (w w' : World) : Prop where
  os : w'.os = w.os
  tape : w'.tape = w.tape
  output : w'.output = w.output
  size : w.heap.size ≤ w'.heap.size
  block : ∀ k, k < q → k ≠ m → k ≠ m + 1 → k ≠ m + 6 → w'.heap[k]? = w.heap[k]?

set_option maxHeartbeats 1000000 in
theorem declare_new (m : Nat) (l c : Int) (s : ByteArray) (w : World) (hs : s.size ≤ maxLen) (L : List (List UInt8)) (hL : L.contains s.data.toList = false) (hLl : L.length < maxLen) (hr : m + 7 < w.heap.size) (r6 : w.cell? ⟨m + 7, 6, none⟩ = some (.map (some (m + 5))))
    (hm : MapOf w (m + 5) (.agg #[.string { data := #[] }, .int .i64 l, .int .i64 c]) (.agg #[.string { data := #[] }, .int .i64 0, .int .i64 0]) L) :
    Calls Tryf.prog 14 #[.pointer (some ⟨m + 7, 0, none⟩), .agg #[.string { data := #[] }, .int .i64 l, .int .i64 c, .string s]] w fun e w' => e = .returned (.tuple #[]) ∧
      MapOf w' (m + 5) (.agg #[.string { data := #[] }, .int .i64 l, .int .i64 c]) (.agg #[.string { data := #[] }, .int .i64 0, .int .i64 0]) (s.data.toList :: L) ∧ w.grownBy w' (some (m + 5)) := by
  have HM : Hid (MapOf w (m + 5) (.agg #[.string { data := #[] }, .int .i64 l, .int .i64 c]) (.agg #[.string { data := #[] }, .int .i64 0, .int .i64 0]) L) := hm
  have hlk : ∀ W, MapOf W (m + 5) (.agg #[.string { data := #[] }, .int .i64 l, .int .i64 c]) (.agg #[.string { data := #[] }, .int .i64 0, .int .i64 0]) L →
    (Instr.lookup 56 (.map (some (m + 5))) (.string s) true).run Tryf.prog W = .ok (.tuple #[.agg #[.string { data := #[] }, .int .i64 0, .int .i64 0], .bool false]) W := by
    intro W hW
    have := hW.look_ok Tryf.underlying56 (zero30 W) hs
    rw [hL] at this
    exact this
  go_enter Tryf.func14, Tryf.ntmps14
  go_wp2_with fail
  generalize hwb : w.alloc _ = wb
  have hm2 : MapOf wb (m + 5) (.agg #[.string { data := #[] }, .int .i64 l, .int .i64 c]) (.agg #[.string { data := #[] }, .int .i64 0, .int .i64 0]) L := by rw [← hwb]; exact hm.alloc _
  have r6b : wb.cell? ⟨m + 7, 6, none⟩ = some (.map (some (m + 5))) := by rw [← hwb]; exact (((Below.refl w.heap.size w).alloc (Nat.le_refl _) _).cell (p := ⟨m + 7, 6, none⟩) hr).trans r6
  have hn0 : wb.cell? ⟨w.heap.size, 0, none⟩ = some (.string { data := #[] }) := by rw [← hwb]; simp [go_sem]
  have hn1 : wb.cell? ⟨w.heap.size, 1, none⟩ = some (.int .i64 l) := by rw [← hwb]; simp [go_sem]
  have hn2 : wb.cell? ⟨w.heap.size, 2, none⟩ = some (.int .i64 c) := by rw [← hwb]; simp [go_sem]
  have hn3 : wb.cell? ⟨w.heap.size, 3, none⟩ = some (.string s) := by rw [← hwb]; simp [go_sem]
  have hsz : wb.heap.size = w.heap.size + 1 := by rw [← hwb]; simp
  have hne : m + 5 < wb.heap.size := by omega
  have hne2 : m + 7 < wb.heap.size := by omega
  have hne3 : w.heap.size < wb.heap.size := by omega
  have hq1 : m + 5 ≠ wb.heap.size := by omega
  have HA : Hid (Below w.heap.size w wb) := by rw [← hwb]; exact (Below.refl _ _).alloc (Nat.le_refl _) _
  clear hm hsz
  go_region_held3 (fun w' => MapOf w' (m + 5) (.agg #[.string { data := #[] }, .int .i64 l, .int .i64 c]) (.agg #[.string { data := #[] }, .int .i64 0, .int .i64 0]) L ∧ w'.cell? ⟨m + 7, 6, none⟩ = some (.map (some (m + 5))) ∧ w'.cell? ⟨w.heap.size, 3, none⟩ = some (.string s)) (go_simp) (fail)
  all_goals
    go_wp2_with fail
    generalize hwc : (wb.alloc _).drew = wc
    have hm3 : MapOf wc (m + 5) (.agg #[.string { data := #[] }, .int .i64 l, .int .i64 c]) (.agg #[.string { data := #[] }, .int .i64 0, .int .i64 0]) L := by rw [← hwc]; exact mapOf_alloc _ _ _ _ _ _ hm2
    have hBc : Below wb.heap.size wb wc := by rw [← hwc]; exact ((Below.refl _ _).alloc (Nat.le_refl _) _).drew
    have r6c : wc.cell? ⟨m + 7, 6, none⟩ = some (.map (some (m + 5))) := (hBc.cell (p := ⟨m + 7, 6, none⟩) hne2).trans r6b
    have hc0 : wc.cell? ⟨w.heap.size, 0, none⟩ = some (.string { data := #[] }) := (hBc.cell (p := ⟨w.heap.size, 0, none⟩) hne3).trans hn0
    have hc1 : wc.cell? ⟨w.heap.size, 1, none⟩ = some (.int .i64 l) := (hBc.cell (p := ⟨w.heap.size, 1, none⟩) hne3).trans hn1
    have hc2 : wc.cell? ⟨w.heap.size, 2, none⟩ = some (.int .i64 c) := (hBc.cell (p := ⟨w.heap.size, 2, none⟩) hne3).trans hn2
    have hc3 : wc.cell? ⟨w.heap.size, 3, none⟩ = some (.string s) := (hBc.cell (p := ⟨w.heap.size, 3, none⟩) hne3).trans hn3
    obtain ⟨wd, hrun, hm4, hturn⟩ := MapR.store (w := wc.drew) (t := 56) hm3 (rdr_c _ _) Tryf.underlying56 hs hL hLl
    have g1 := turned_cell hturn (a := ⟨m + 7, 6, none⟩) (by show m + 7 ≠ m + 5; omega)
    have g2 := turned_cell hturn (a := ⟨w.heap.size, 0, none⟩) (by show w.heap.size ≠ m + 5; omega)
    have g3 := turned_cell hturn (a := ⟨w.heap.size, 1, none⟩) (by show w.heap.size ≠ m + 5; omega)
    have g4 := turned_cell hturn (a := ⟨w.heap.size, 2, none⟩) (by show w.heap.size ≠ m + 5; omega)
    have g5 := turned_cell hturn (a := ⟨w.heap.size, 3, none⟩) (by show w.heap.size ≠ m + 5; omega)
    have g1 := g1.trans r6c
    have g2 := g2.trans hc0
    have g3 := g3.trans hc1
    have g4 := g4.trans hc2
    have g5 := g5.trans hc3
    have HE : Hid (MapR wd (m + 5) (rdr (.agg #[.string { data := #[] }, .int .i64 l, .int .i64 c]) (.agg #[.string { data := #[] }, .int .i64 0, .int .i64 0])) (s.data.toList :: L) ∧ World.mapTurned wc.drew wd (m + 5) ∧ Below wb.heap.size wb wc) := ⟨hm4, hturn, hBc⟩
    clear hm4 hturn hBc hwc hm3
    go_region_held3 (fun w' => w'.cell? ⟨m + 7, 6, none⟩ = some (.map (some (m + 5))) ∧ w'.cell? ⟨w.heap.size, 0, none⟩ = some (.string { data := #[] }) ∧ w'.cell? ⟨w.heap.size, 1, none⟩ = some (.int .i64 l) ∧ w'.cell? ⟨w.heap.size, 2, none⟩ = some (.int .i64 c) ∧ w'.cell? ⟨w.heap.size, 3, none⟩ = some (.string s)) (go_simp) (fail)
    go_wp2
    go_end0
    refine ⟨rfl, HE.out.1, grown_turned ?_ HE.out.2.1⟩
    exact HA.out.trans (HE.out.2.2.mono (by omega))
end Go.Proofs.Qxb6612497aFmt
