import Derived.Test.Qxb6613790aRows
import Derived.WalkKit
import Derived.WalkSpells
import Derived.WalkLawsBesides
import Derived.RowKit3
import Derived.Handy
import Derived.Deep.RegionHeld3
import Derived.BigQuiet
import Derived.Deep.QuietTactic
namespace Go.Proofs.Qxb6613790a
open Go.RowKit

theorem add64 (x y c : Int) (hx : 0 ≤ x) (hy : 0 ≤ y) (hc0 : 0 ≤ c) (hc : c ≤ 1) (w : World) : (callFunc 36 #[.int .u64 x, .int .u64 y, .int .u64 c]).run Try.prog w =
    .ok (.value (.tuple #[.int .u64 ((x + y + c) % 18446744073709551616), .int .u64 ((x + y + c) / 18446744073709551616)])) w := by
  rw [run_callFunc_extern Try.func36 (by kernel_rfl) (by kernel_rfl) (by kernel_rfl) (e := add64Entry) (by kernel_rfl), run_add64 x y c hx hy hc0 hc]
  rfl


theorem ret_pair {k : IntKind} {a b c d : Int} (h : a = c) (h' : b = d) : Ending.returned (.tuple #[.int k a, .int k b]) = .returned (.tuple #[.int k c, .int k d]) := by rw [h, h']
theorem ret_int {k : IntKind} {a b : Int} (h : a = b) : Ending.returned (.int k a) = .returned (.int k b) := by rw [h]
theorem u64_range (x : Int) : 0 ≤ IntKind.u64.wrap x ∧ IntKind.u64.wrap x < 18446744073709551616 := by rw [IntKind.wrap_u64]; omega

def mulT (x y : Int) : Int := IntKind.u64.wrap (IntKind.u64.wrap (x / 4294967296 * bits .and .u64 y 4294967295) + IntKind.u64.wrap (bits .and .u64 x 4294967295 * bits .and .u64 y 4294967295) / 4294967296)
/-- The high word that math/bits.Mul64 gives. -/
def mulHi (x y : Int) : Int := IntKind.u64.wrap (IntKind.u64.wrap (IntKind.u64.wrap (x / 4294967296 * (y / 4294967296)) + mulT x y / 4294967296) + IntKind.u64.wrap (bits .and .u64 (mulT x y) 4294967295 + IntKind.u64.wrap (bits .and .u64 x 4294967295 * (y / 4294967296))) / 4294967296)

set_option maxHeartbeats 400000 in
theorem mul64 (x y : Int) (w : World) :
    Calls Try.prog 35 #[.int .u64 x, .int .u64 y] w fun e w' => e = .returned (.tuple #[.int .u64 (mulHi x y), .int .u64 (IntKind.u64.wrap (x * y))]) ∧ w' = w := by
  go_enter Try.func35, Try.ntmps35
  go_wp2
  go_ret2
  exact ⟨ret_pair rfl rfl, rfl⟩

theorem add64_0 (x y : Int) (hx : 0 ≤ x) (hy : 0 ≤ y) (w : World) : (callFunc 36 #[.int .u64 x, .int .u64 y, .int .u64 0]).run Try.prog w =
    .ok (.value (.tuple #[.int .u64 ((x + y) % 18446744073709551616), .int .u64 ((x + y) / 18446744073709551616)])) w := by
  simpa using add64 x y 0 hx hy (Int.le_refl 0) (by decide) w

def preHi (hi lo : Int) : Int := IntKind.u64.wrap (mulHi lo 4865540595714422341 + IntKind.u64.wrap (IntKind.u64.wrap (hi * 4865540595714422341) + IntKind.u64.wrap (lo * 2549297995355413924)))
def preLo (lo : Int) : Int := IntKind.u64.wrap (lo * 4865540595714422341)
/-- The generator's state behind one draw. -/
def nLo (lo : Int) : Int := (preLo lo + 1442695040888963407) % 18446744073709551616
def cLo (lo : Int) : Int := (preLo lo + 1442695040888963407) / 18446744073709551616
def nHi (hi lo : Int) : Int := (preHi hi lo + 6364136223846793005 + cLo lo) % 18446744073709551616
theorem preHi_ge (hi lo : Int) : 0 ≤ preHi hi lo := (u64_range _).1
theorem preLo_ge (lo : Int) : 0 ≤ preLo lo := (u64_range _).1
theorem cLo_ge (lo : Int) : 0 ≤ cLo lo ∧ cLo lo ≤ 1 := by
  have h1 : 0 ≤ preLo lo ∧ preLo lo < 18446744073709551616 := u64_range _
  unfold cLo
  omega
theorem preHi_eq (hi lo : Int) : IntKind.u64.wrap (mulHi lo 4865540595714422341 + IntKind.u64.wrap (IntKind.u64.wrap (hi * 4865540595714422341) + IntKind.u64.wrap (lo * 2549297995355413924))) = preHi hi lo := rfl
theorem preLo_eq (lo : Int) : IntKind.u64.wrap (lo * 4865540595714422341) = preLo lo := rfl
theorem add_lo (lo : Int) (w : World) : (callFunc 36 #[.int .u64 (IntKind.u64.wrap (lo * 4865540595714422341)), .int .u64 1442695040888963407, .int .u64 0]).run Try.prog w =
    .ok (.value (.tuple #[.int .u64 (nLo lo), .int .u64 (cLo lo)])) w := add64_0 _ _ (preLo_ge lo) (by decide) w
theorem add_hi (hi lo : Int) (w : World) : (callFunc 36 #[.int .u64 (IntKind.u64.wrap (mulHi lo 4865540595714422341 + IntKind.u64.wrap (IntKind.u64.wrap (hi * 4865540595714422341) + IntKind.u64.wrap (lo * 2549297995355413924)))), .int .u64 6364136223846793005, .int .u64 (cLo lo)]).run Try.prog w =
    .ok (.value (.tuple #[.int .u64 (nHi hi lo), .int .u64 ((preHi hi lo + 6364136223846793005 + cLo lo) / 18446744073709551616)])) w := add64 _ _ _ (preHi_ge hi lo) (by decide) (cLo_ge lo).1 (cLo_ge lo).2 w

set_option maxHeartbeats 1000000 in
theorem next_any (pb : Nat) (hi lo : Int) (w : World) (h0 : w.cell? ⟨pb, 0, none⟩ = some (.int .u64 hi)) (h1 : w.cell? ⟨pb, 1, none⟩ = some (.int .u64 lo)) (f0 : w.frozen? ⟨pb, 0, none⟩ = false) (f1 : w.frozen? ⟨pb, 1, none⟩ = false) :
    Calls Try.prog 33 #[.pointer (some ⟨pb, 0, none⟩)] w fun e w' => e = .returned (.tuple #[.int .u64 (nHi hi lo), .int .u64 (nLo lo)]) ∧ w' = ((w.setCell ⟨pb, 1, none⟩ (.int .u64 (nLo lo))).setCell ⟨pb, 0, none⟩ (.int .u64 (nHi hi lo))).drew := by
  go_enter Try.func33, Try.ntmps33
  go_wp2_with (go_at_call 35; refine (mul64 _ _ _).mono ?_; rintro e w' ⟨rfl, hw⟩; subst hw)
  go_region_held3 (fun w' => w'.cell? ⟨pb, 0, none⟩ = some (.int .u64 hi) ∧ w'.cell? ⟨pb, 1, none⟩ = some (.int .u64 lo)) (go_simp) (fail)
  go_wp2_with (first | simp only [add_lo lo] | simp only [add_hi hi lo])
  go_ret2
  exact ⟨rfl, rfl⟩

def xs1 (h : Int) : Int := IntKind.u64.wrap (bits .xor .u64 h (h / 4294967296) * 15750249268501108917)
/-- What one draw gives. -/
def outv (hi lo : Int) : Int := IntKind.u64.wrap (bits .xor .u64 (xs1 (nHi hi lo)) (xs1 (nHi hi lo) / 281474976710656) * bits .or .u64 (nLo lo) 1)
theorem outv_range (hi lo : Int) : 0 ≤ outv hi lo ∧ outv hi lo < 18446744073709551616 := u64_range _

set_option maxHeartbeats 1000000 in
theorem uint64_any (pb : Nat) (hi lo : Int) (w : World) (h0 : w.cell? ⟨pb, 0, none⟩ = some (.int .u64 hi)) (h1 : w.cell? ⟨pb, 1, none⟩ = some (.int .u64 lo)) (f0 : w.frozen? ⟨pb, 0, none⟩ = false) (f1 : w.frozen? ⟨pb, 1, none⟩ = false) :
    Calls Try.prog 29 #[.pointer (some ⟨pb, 0, none⟩)] w fun e w' => e = .returned (.int .u64 (outv hi lo)) ∧ w' = ((w.setCell ⟨pb, 1, none⟩ (.int .u64 (nLo lo))).setCell ⟨pb, 0, none⟩ (.int .u64 (nHi hi lo))).drew := by
  go_enter Try.func29, Try.ntmps29
  go_wp2_with fail
  refine (next_any pb hi lo w h0 h1 f0 f1).mono ?_
  rintro e w1 ⟨rfl, rfl⟩
  go_wp2
  go_ret
  exact ⟨ret_int rfl, rfl⟩
end Go.Proofs.Qxb6613790a
