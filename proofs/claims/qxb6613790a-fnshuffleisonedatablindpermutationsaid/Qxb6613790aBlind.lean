/-
  THE PLAIN LAW of the data-blind permutation: no Go in sight.
-/
import Derived.Test.Qxb6613790aSplit
namespace Go.Proofs.Qxb6613790a
open Go.RowKit

/-- 0, 1, 2, .. -/
def iota (n : Nat) : List Int := (List.range n).map (fun i : Nat => (i : Int))
theorem iota_length (n : Nat) : (iota n).length = n := by simp [iota]
theorem iota_getD (n k : Nat) (h : k < n) : (iota n).getD k 0 = (k : Int) := by simp [iota, List.getD_eq_getElem?_getD, h]
theorem iota_nodup (n : Nat) : (iota n).Nodup := by
  unfold iota
  refine List.Pairwise.map _ ?_ List.nodup_range
  intro a b h; omega
theorem iota_mem (n : Nat) (v : Int) (h : v ∈ iota n) : 0 ≤ v ∧ v < n := by
  simp [iota] at h
  obtain ⟨a, h1, rfl⟩ := h
  omega
theorem iota_map (zs : List Int) : (iota zs.length).map (fun v => zs.getD v.toNat 0) = zs := by
  apply List.ext_getElem?
  intro i
  by_cases h : i < zs.length
  · simp [iota, List.getD_eq_getElem?_getD, h]
  · simp [iota, h]

/-- What is known of the shuffled identity. -/
theorem blind_mem (n : Nat) (s : Int × Int) (m i : Nat) (hm : m ≤ n) (hi : i < n) : 0 ≤ (sh 0 (iota n) s m).getD i 0 ∧ (sh 0 (iota n) s m).getD i 0 < n := by
  have hl : i < (sh 0 (iota n) s m).length := by rw [sh_length, iota_length]; exact hi
  have hmem : (sh 0 (iota n) s m).getD i 0 ∈ sh 0 (iota n) s m := by
    rw [List.getD_eq_getElem?_getD, List.getElem?_eq_getElem hl]; exact List.getElem_mem _
  exact iota_mem n _ ((sh_perm (iota n) s m (by rw [iota_length]; exact hm)).mem_iff.1 hmem)
theorem blind_nodup (n : Nat) (s : Int × Int) (m : Nat) (hm : m ≤ n) : (sh 0 (iota n) s m).Nodup :=
  (sh_perm (iota n) s m (by rw [iota_length]; exact hm)).nodup_iff.2 (iota_nodup n)
theorem blind_map (zs : List Int) (s : Int × Int) (m i : Nat) (hm : m ≤ zs.length) (hi : i < zs.length) :
    (sh 0 zs s m).getD i 0 = zs.getD ((sh 0 (iota zs.length) s m).getD i 0).toNat 0 := by
  have e : sh 0 zs s m = (sh 0 (iota zs.length) s m).map (fun v => zs.getD v.toNat 0) := by
    rw [← sh_map _ _ _ _ (by rw [iota_length]; exact hm), iota_map]
  have hl : i < (sh 0 (iota zs.length) s m).length := by rw [sh_length, iota_length]; exact hi
  rw [e]
  simp [List.getD_eq_getElem?_getD, hl]

/-- Which numbers the first i places hold. -/
def seenB (L : List Int) (i j : Nat) : Bool := (L.take i).contains (j : Int)
theorem seenB_zero (L : List Int) (j : Nat) : seenB L 0 j = false := by simp [seenB]
theorem seenB_new (L : List Int) (i : Nat) (hn : L.Nodup) (hi : i < L.length) (h0 : 0 ≤ L.getD i 0) : seenB L i (L.getD i 0).toNat = false := by
  unfold seenB
  rw [Int.toNat_of_nonneg h0]
  have e : L.getD i 0 = L[i] := by simp [List.getD_eq_getElem?_getD, hi]
  rw [e]
  simp only [List.contains_eq_mem, decide_eq_false_iff_not]
  intro hmem
  obtain ⟨j, hj, e2⟩ := List.getElem_of_mem hmem
  rw [List.length_take] at hj
  rw [List.getElem_take] at e2
  exact List.pairwise_iff_getElem.1 hn j i (by omega) hi (by omega) e2
theorem seenB_succ (L : List Int) (i j : Nat) (hi : i < L.length) (h0 : 0 ≤ L.getD i 0) : seenB L (i + 1) j = if j = (L.getD i 0).toNat then true else seenB L i j := by
  unfold seenB
  have e : L.getD i 0 = L[i] := by simp [List.getD_eq_getElem?_getD, hi]
  rw [List.take_succ_eq_append_getElem hi]
  rw [e] at h0 ⊢
  simp only [List.contains_eq_mem, List.mem_append, List.mem_singleton]
  by_cases h : j = (L[i]).toNat
  · rw [if_pos h]; simp; right; omega
  · rw [if_neg h]
    have : ¬ (j : Int) = L[i] := by omega
    simp [this]

/-- The first place gets what the first draw picks. -/
theorem blind_first (zs : List Int) (s : Int × Int) (m : Nat) (h1 : 1 ≤ m) (hm : m ≤ zs.length) : (sh 0 zs s m).getD 0 0 = zs.getD (dOf 0 zs.length s) 0 := by
  have := sh_at zs s 0 m (by omega) hm
  rw [Nat.zero_add] at this
  exact this
end Go.Proofs.Qxb6613790a
