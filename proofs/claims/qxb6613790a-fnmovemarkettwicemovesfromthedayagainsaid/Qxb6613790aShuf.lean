/-
  THE SHUFFLE AS A PLAIN FUNCTION ON LISTS: no Go in sight (the generator's step and draw come from Qxb6613790aPcg).
-/
import Derived.Test.Qxb6613790aGen
namespace Go.Proofs.Qxb6613790a

/-- The generator's state behind one draw. -/
def stp (s : Int × Int) : Int × Int := (nHi s.1 s.2, nLo s.2)
/-- The generator's state behind n draws. -/
def stpN (s : Int × Int) : Nat → Int × Int
  | 0 => s
  | n + 1 => stp (stpN s n)
/-- How far beyond i the draw picks, of a list of len elements. -/
def dOf (i len : Nat) (s : Int × Int) : Nat := (outv s.1 s.2 % ((len : Int) - i)).toNat
/-- Two places change. -/
def swp (zs : List Int) (i j : Nat) : List Int := (zs.set i (zs.getD j 0)).set j (zs.getD i 0)
/-- One round at place i. -/
def rnd (zs : List Int) (i : Nat) (s : Int × Int) : List Int := swp zs i (i + dOf i zs.length s)
/-- n rounds, from place o on. -/
def sh (o : Nat) (zs : List Int) (s : Int × Int) : Nat → List Int
  | 0 => zs
  | n + 1 => rnd (sh o zs s n) (o + n) (stpN s n)

theorem swp_length (zs : List Int) (i j : Nat) : (swp zs i j).length = zs.length := by simp [swp]
theorem rnd_length (zs : List Int) (i : Nat) (s : Int × Int) : (rnd zs i s).length = zs.length := swp_length _ _ _
theorem sh_length (o : Nat) (zs : List Int) (s : Int × Int) (n : Nat) : (sh o zs s n).length = zs.length := by
  induction n with
  | zero => rfl
  | succ n ih => rw [sh, rnd_length, ih]

theorem dOf_lt (i len : Nat) (s : Int × Int) (h : i < len) : i + dOf i len s < len := by
  unfold dOf
  have h1 := Int.emod_nonneg (outv s.1 s.2) (show (len : Int) - i ≠ 0 by omega)
  have h2 := Int.emod_lt_of_pos (outv s.1 s.2) (show (0 : Int) < (len : Int) - i by omega)
  omega

theorem stpN_add (s : Int × Int) (a b : Nat) : stpN s (a + b) = stpN (stpN s a) b := by
  induction b with
  | zero => rfl
  | succ b ih => rw [← Nat.add_assoc, stpN, ih, stpN]

/-- The rounds split at any cut. -/
theorem sh_add (o : Nat) (zs : List Int) (s : Int × Int) (a b : Nat) : sh o zs s (a + b) = sh (o + a) (sh o zs s a) (stpN s a) b := by
  induction b with
  | zero => rfl
  | succ b ih => rw [← Nat.add_assoc, sh, ih, sh, stpN_add, Nat.add_assoc o a b]

theorem swp_append (A B : List Int) (i j : Nat) : swp (A ++ B) (A.length + i) (A.length + j) = A ++ swp B i j := by
  unfold swp
  have g : ∀ t, (A ++ B).getD (A.length + t) 0 = B.getD t 0 := fun t => by
    simp [List.getD_eq_getElem?_getD, List.getElem?_append_right]
  rw [g, g, List.set_append_right _ _ (by omega), List.set_append_right _ _ (by omega)]
  simp

/-- A shuffle of the rest is the shuffle from there on. -/
theorem sh_append (A B : List Int) (s : Int × Int) (n : Nat) : sh A.length (A ++ B) s n = A ++ sh 0 B s n := by
  induction n with
  | zero => rfl
  | succ n ih =>
    rw [sh, ih, sh, Nat.zero_add]
    unfold rnd
    have e : A.length + n + dOf (A.length + n) (A ++ sh 0 B s n).length (stpN s n) = A.length + (n + dOf n (sh 0 B s n).length (stpN s n)) := by
      unfold dOf
      rw [List.length_append]
      have : ((A.length + (sh 0 B s n).length : Nat) : Int) - ((A.length + n : Nat) : Int) = ((sh 0 B s n).length : Int) - (n : Int) := by omega
      rw [this]; omega
    rw [e, swp_append]

theorem sh_drop (zs : List Int) (s : Int × Int) (k n : Nat) (hk : k ≤ zs.length) : sh k zs s n = zs.take k ++ sh 0 (zs.drop k) s n := by
  have h := sh_append (zs.take k) (zs.drop k) s n
  rw [List.take_append_drop, List.length_take, Nat.min_eq_left hk] at h
  exact h

/-- The law of the cut: n rounds are k rounds and then n - k rounds of the rest. -/
theorem sh_cut (zs : List Int) (s : Int × Int) (k n : Nat) (hk : k ≤ n) (hn : n ≤ zs.length) :
    sh 0 zs s n = (sh 0 zs s k).take k ++ sh 0 ((sh 0 zs s k).drop k) (stpN s k) (n - k) := by
  obtain ⟨m, rfl⟩ := Nat.exists_eq_add_of_le hk
  rw [sh_add, Nat.zero_add, sh_drop _ _ _ _ (by rw [sh_length]; omega), Nat.add_sub_cancel_left]

theorem swp_getD (zs : List Int) (i j : Nat) (hi : i < zs.length) (hj : j < zs.length) (t : Nat) :
    (swp zs i j).getD t 0 = if t = j then zs.getD i 0 else if t = i then zs.getD j 0 else zs.getD t 0 := by
  unfold swp
  simp only [List.getD_eq_getElem?_getD, List.getElem?_set]
  by_cases h1 : j = t
  · subst h1; simp [hj]
  · by_cases h2 : i = t
    · subst h2; simp [h1, hi, Ne.symm h1]
    · simp [h1, h2, Ne.symm h1, Ne.symm h2]

/-- A round at place i leaves the places ahead of i alone. -/
theorem rnd_ahead (zs : List Int) (i t : Nat) (s : Int × Int) (hi : i < zs.length) (ht : t < i) : (rnd zs i s).getD t 0 = zs.getD t 0 := by
  unfold rnd
  rw [swp_getD _ _ _ hi (dOf_lt i _ s hi), if_neg (by omega), if_neg (by omega)]
/-- A round at place i lays there what the draw picks. -/
theorem rnd_at (zs : List Int) (i : Nat) (s : Int × Int) (hi : i < zs.length) : (rnd zs i s).getD i 0 = zs.getD (i + dOf i zs.length s) 0 := by
  unfold rnd
  rw [swp_getD _ _ _ hi (dOf_lt i _ s hi)]
  by_cases h : i = i + dOf i zs.length s
  · rw [if_pos h, ← h]
  · rw [if_neg h, if_pos rfl]

theorem sh_ahead (zs : List Int) (s : Int × Int) (k n t : Nat) (hk : k ≤ n) (hn : n ≤ zs.length) (ht : t < k) : (sh 0 zs s n).getD t 0 = (sh 0 zs s k).getD t 0 := by
  obtain ⟨m, rfl⟩ := Nat.exists_eq_add_of_le hk
  induction m with
  | zero => rfl
  | succ m ih =>
    rw [← Nat.add_assoc, sh, rnd_ahead _ _ _ _ (by rw [sh_length]; omega) (by omega)]
    exact ih (by omega) (by omega)

/-- Place k gets what draw k + 1 picks. -/
theorem sh_at (zs : List Int) (s : Int × Int) (k n : Nat) (hk : k < n) (hn : n ≤ zs.length) :
    (sh 0 zs s n).getD k 0 = (sh 0 zs s k).getD (k + dOf k zs.length (stpN s k)) 0 := by
  rw [sh_ahead zs s (k + 1) n k (by omega) hn (by omega), sh, Nat.zero_add, rnd_at _ _ _ (by rw [sh_length]; omega), sh_length]

/-- The shuffle does not look at what it moves. -/
theorem swp_map (f : Int → Int) (zs : List Int) (i j : Nat) (hi : i < zs.length) (hj : j < zs.length) : swp (zs.map f) i j = (swp zs i j).map f := by
  unfold swp
  have g : ∀ t, t < zs.length → (zs.map f).getD t 0 = f (zs.getD t 0) := fun t ht => by
    simp [List.getD_eq_getElem?_getD, ht]
  rw [g i hi, g j hj, List.map_set, List.map_set]
theorem sh_map (f : Int → Int) (zs : List Int) (s : Int × Int) (n : Nat) (hn : n ≤ zs.length) : sh 0 (zs.map f) s n = (sh 0 zs s n).map f := by
  induction n with
  | zero => rfl
  | succ n ih =>
    have hl : n < (sh 0 zs s n).length := by rw [sh_length]; omega
    rw [sh, ih (by omega), sh, Nat.zero_add]
    unfold rnd
    rw [List.length_map, swp_map f _ _ _ hl (dOf_lt _ _ _ hl)]

theorem swp_perm (zs : List Int) (i j : Nat) (hi : i < zs.length) (hj : j < zs.length) : (swp zs i j).Perm zs := by
  unfold swp
  have e1 : zs.getD j 0 = zs[j] := by simp [List.getD_eq_getElem?_getD, hj]
  have e2 : zs.getD i 0 = zs[i] := by simp [List.getD_eq_getElem?_getD, hi]
  rw [e1, e2]
  exact List.set_set_perm hi hj
theorem sh_perm (zs : List Int) (s : Int × Int) (n : Nat) (hn : n ≤ zs.length) : (sh 0 zs s n).Perm zs := by
  induction n with
  | zero => exact List.Perm.refl _
  | succ n ih =>
    have hl : n < (sh 0 zs s n).length := by rw [sh_length]; omega
    rw [sh, Nat.zero_add]
    exact (swp_perm _ _ _ hl (dOf_lt _ _ _ hl)).trans (ih (by omega))
end Go.Proofs.Qxb6613790a
