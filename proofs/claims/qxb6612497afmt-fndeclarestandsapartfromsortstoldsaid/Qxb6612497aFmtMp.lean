/-
  MAPS WHOSE ELEMENTS ARE ALL ONE VALUE c (z: the zero value), KEYED BY STRINGS: what a look-up gives, what a store of a new key leaves. Over the kit's 'ownsMap' with a reader of our own.
-/
import Derived.Test.Qxb6612497aFmtRows
import Derived.WalkKit
import Derived.WalkSpells
import Derived.WalkLawsBesides
import Derived.Maps.OwnSet
namespace Go.Proofs.Qxb6612497aFmt
open Go.RowKit Go.Maps

/-- How an element reads: c as true, z as false. -/
noncomputable def rdr (c z : Value) (v : Value) : Option (DataW Unit × List MemPlace) := by
  classical exact if v = c then some (.lit (.bool true), []) else if v = z then some (.lit (.bool false), []) else none

theorem rdr_c (c z : Value) : rdr c z c = some (.lit (.bool true), []) := by unfold rdr; rw [if_pos rfl]
theorem rdr_z (c z : Value) : ∃ zd, rdr c z z = some (zd, []) := by
  unfold rdr
  by_cases h : z = c
  · exact ⟨_, if_pos h⟩
  · exact ⟨_, by rw [if_neg h, if_pos rfl]⟩
theorem rdr_same {c z v : Value} {zd : DataW Unit} {ps : List MemPlace} (hz : rdr c z z = some (zd, [])) (h : rdr c z v = some (zd, ps)) : v = z := by
  unfold rdr at hz h
  by_cases e : z = c
  · rw [if_pos e] at hz
    by_cases e2 : v = c
    · rw [e2, e]
    · rw [if_neg e2] at h
      by_cases e3 : v = z
      · exact e3
      · rw [if_neg e3] at h; cases h
  · rw [if_neg e, if_pos rfl] at hz
    by_cases e2 : v = c
    · rw [if_pos e2] at h
      cases hz; cases h
    · rw [if_neg e2] at h
      by_cases e3 : v = z
      · exact e3
      · rw [if_neg e3] at h; cases h
theorem rdr_true {c z v : Value} {ps : List MemPlace} (h : rdr c z v = some (.lit (.bool true), ps)) : v = c := by
  unfold rdr at h
  by_cases e2 : v = c
  · exact e2
  · rw [if_neg e2] at h
    by_cases e3 : v = z
    · rw [if_pos e3] at h; cases h
    · rw [if_neg e3] at h; cases h

/-- A reader of pointers, whichever. -/
def rdp : Value → Option (DataW Unit × List MemPlace)
  | .pointer _ => some (.lit (.bool true), [])
  | _ => none
/-- A map keyed by strings that holds, at each of the different keys L and at no other, a value that reads as true. -/
def MapR (w : World) (b : Nat) (R : Value → Option (DataW Unit × List MemPlace)) (L : List (List UInt8)) : Prop :=
  ∃ n D, w.ownsMap Tryf.prog 9 R b n D ∧ n ≤ L.length ∧ size D = L.length ∧ ∀ s : List UInt8, Maps.has D (.string s) = L.contains s ∧ ∀ zd, L.contains s = true → D.atKey (.string s) zd = .lit (.bool true)

theorem MapR.keep {w w' : World} {b : Nat} {R : Value → Option (DataW Unit × List MemPlace)} {L : List (List UInt8)} (h : MapR w b R L) (e : w'.heap[b]? = w.heap[b]?) : MapR w' b R L := by
  obtain ⟨n, D, ⟨es, clock, hb, r⟩, h2⟩ := h
  exact ⟨n, D, ⟨es, clock, e.trans hb, r⟩, h2⟩
theorem MapR.lt {w : World} {b : Nat} {R : Value → Option (DataW Unit × List MemPlace)} {L : List (List UInt8)} (h : MapR w b R L) : b < w.heap.size := by
  obtain ⟨n, D, ho, -⟩ := h
  exact ho.lt
theorem MapR.below {w w' : World} {B b : Nat} {R : Value → Option (DataW Unit × List MemPlace)} {L : List (List UInt8)} (h : MapR w b R L) (hb : Below B w w') (hB : b < B) : MapR w' b R L := h.keep (hb.block b hB)
theorem MapR.alloc {w : World} {b : Nat} {R : Value → Option (DataW Unit × List MemPlace)} {L : List (List UInt8)} (h : MapR w b R L) (o : Obj) : MapR (w.alloc o) b R L := by
  obtain ⟨n, D, ho, h2⟩ := h
  exact ⟨n, D, ho.alloc o, h2⟩
theorem MapR.setCell {w : World} {b : Nat} {R : Value → Option (DataW Unit × List MemPlace)} {L : List (List UInt8)} (h : MapR w b R L) {a : Addr} (ha : b ≠ a.block) (u : Value) : MapR (w.setCell a u) b R L := by
  obtain ⟨n, D, ho, h2⟩ := h
  exact ⟨n, D, ho.setCell ha u, h2⟩
theorem MapR.drew {w : World} {b : Nat} {R : Value → Option (DataW Unit × List MemPlace)} {L : List (List UInt8)} (h : MapR w b R L) : MapR w.drew b R L := h
theorem mapR_made (w : World) (R : Value → Option (DataW Unit × List MemPlace)) : MapR (w.alloc (.map #[] 0)) w.heap.size R [] :=
  ⟨0, .map [], World.ownsMap_made w _ _ _, Nat.le_refl _, rfl, fun s => ⟨rfl, fun _ h => by cases h⟩⟩
/-- .. of one value c, the zero value being z. -/
def MapOf (w : World) (b : Nat) (c z : Value) (L : List (List UInt8)) : Prop := MapR w b (rdr c z) L

theorem val_of {c z : Value} {L : List (List UInt8)} (D : DataW Unit) (s : List UInt8) (hh : Maps.has D (.string s) = L.contains s ∧ ∀ zd, L.contains s = true → D.atKey (.string s) zd = .lit (.bool true))
    {zd : DataW Unit} {v : Value} {ps : List MemPlace} (hzd : rdr c z z = some (zd, [])) (hv : rdr c z v = some (D.atKey (.string s) zd, ps)) : v = if L.contains s then c else z := by
  by_cases h : L.contains s = true
  · rw [hh.2 zd h] at hv
    rw [if_pos h]
    exact rdr_true hv
  · have hf : Maps.has D (.string s) = false := by rw [hh.1]; simpa using h
    rw [if_neg h]
    rw [atKey_of_not_has hf] at hv
    exact rdr_same hzd hv

/-- 'v, ok := m[s]' -/
theorem MapOf.look_ok {w : World} {b : Nat} {c z : Value} {L : List (List UInt8)} (h : MapOf w b c z L) {t e : TypeId} (ht : Tryf.prog.underlying t = some (.map 9 e)) (hz : (zeroValue e).run Tryf.prog w = .ok z w) {s : ByteArray} (hs : s.size ≤ maxLen) :
    (Instr.lookup t (.map (some b)) (.string s) true).run Tryf.prog w = .ok (.tuple #[if L.contains s.data.toList then c else z, .bool (L.contains s.data.toList)]) w := by
  obtain ⟨n, D, ho, h1, h2, h3⟩ := h
  obtain ⟨zd, hzd⟩ := rdr_z c z
  obtain ⟨v, ps, hrun, hv⟩ := ho.look_ok (string_keyed Tryf.underlying9) ht hz hzd (Go.WideMaps.keyOf_string_mk Tryf.underlying9 hs)
  rw [hrun, val_of D _ (h3 _) hzd hv, (h3 _).1]
/-- 'm[s]' -/
theorem MapOf.look {w : World} {b : Nat} {c z : Value} {L : List (List UInt8)} (h : MapOf w b c z L) {t e : TypeId} (ht : Tryf.prog.underlying t = some (.map 9 e)) (hz : (zeroValue e).run Tryf.prog w = .ok z w) {s : ByteArray} (hs : s.size ≤ maxLen) :
    (Instr.lookup t (.map (some b)) (.string s) false).run Tryf.prog w = .ok (if L.contains s.data.toList then c else z) w := by
  obtain ⟨n, D, ho, h1, h2, h3⟩ := h
  obtain ⟨zd, hzd⟩ := rdr_z c z
  obtain ⟨v, ps, hrun, hv⟩ := ho.lookup (string_keyed Tryf.underlying9) ht hz hzd (Go.WideMaps.keyOf_string_mk Tryf.underlying9 hs)
  rw [hrun, val_of D _ (h3 _) hzd hv]
/-- 'len(m)' -/
theorem MapOf.len {w : World} {b : Nat} {c z : Value} {L : List (List UInt8)} (h : MapOf w b c z L) {t e : TypeId} (ht : Tryf.prog.underlying t = some (.map 9 e)) (ty : TypeId) : (Builtin.len_ #[t] ty #[.map (some b)]).run Tryf.prog w = .ok (.int .i64 L.length) w := by
  obtain ⟨n, D, ho, h1, h2, h3⟩ := h
  rw [ho.len ht, h2]
/-- 'm[s] = c' at a new key. -/
theorem MapR.store {w : World} {b : Nat} {R : Value → Option (DataW Unit × List MemPlace)} {c : Value} {L : List (List UInt8)} (h : MapR w b R L) (hc : R c = some (.lit (.bool true), [])) {t e : TypeId} (ht : Tryf.prog.underlying t = some (.map 9 e)) {s : ByteArray} (hs : s.size ≤ maxLen) (hn : L.contains s.data.toList = false) (hl : L.length < maxLen) :
    ∃ w', (Instr.mapUpdate t (.map (some b)) (.string s) c).run Tryf.prog w = .ok () w' ∧ MapR w' b R (s.data.toList :: L) ∧ w.mapTurned w' b := by
  obtain ⟨n, D, ho, h1, h2, h3⟩ := h
  obtain ⟨w', hrun, ho', ht'⟩ := ho.store (string_keyed Tryf.underlying9) ht (Nat.lt_of_le_of_lt h1 hl) (Go.WideMaps.keyOf_string_mk Tryf.underlying9 hs) hc
  refine ⟨w', hrun, ⟨n + 1, _, ho', by simpa using h1, ?_, fun k => ?_⟩, ht'⟩
  · rw [size_put (ho.tidy (string_keyed Tryf.underlying9)), (h3 _).1, hn, h2]; simp
  · by_cases e : k = s.data.toList
    · subst e
      refine ⟨?_, fun zd _ => atKey_put_same ho.isMap (k := .string s.data.toList) trivial _ _⟩
      rw [has_put_same ho.isMap (k := .string s.data.toList) trivial]; simp
    · have e' : Lit.string k ≠ Lit.string s.data.toList := fun h => e (Lit.string.inj h)
      have ec : (s.data.toList :: L).contains k = L.contains k := by
        rw [List.contains_cons]
        have : (k == s.data.toList) = false := by simpa using e
        rw [this, Bool.false_or]
      rw [ec, has_put_other e']
      exact ⟨(h3 k).1, fun zd hk => by rw [atKey_put_other e']; exact (h3 k).2 zd hk⟩
end Go.Proofs.Qxb6612497aFmt
