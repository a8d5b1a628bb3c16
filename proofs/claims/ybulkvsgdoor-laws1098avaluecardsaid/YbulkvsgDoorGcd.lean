import Derived.Test.YbulkvsgDoorRows
import Derived.WalkKit
import Derived.WalkSpells
import Derived.WalkLawsBesides
import Derived.Lib.TrailingZeros
import Derived.Test.YbulkvsgDoorPlain
import Derived.Test.YbulkvsgDoorShelf
set_option linter.unusedVariables false
set_option linter.unusedSimpArgs false
namespace Go.Proofs.YbulkvsgDoor
open Go.RowKit

/-- the table of math/bits in its variable -/
def TabAt (w : World) : Prop := ∀ j, j < 64 → w.cell? ⟨0, j, none⟩ = some (.int .u8 (Lib.deBruijn64tab.getD j 0))

set_option maxHeartbeats 400000 in
theorem tz64_core (x k idx : Nat) (w : World) (hx0 : ((x : Int) == 0) = false)
    (key : IntKind.u64.wrap (bits BinOp.and IntKind.u64 (x : Int) (IntKind.u64.wrap (-(x : Int))) * 285870213051353865) / 288230376151711744 = (idx : Int))
    (hi : idx < 64) (hk : k < 64) (hcell : w.cell? ⟨0, idx, none⟩ = some (.int .u8 k)) :
    Calls Ybad.prog 12 #[.int .u64 x] w fun e w' => e = .returned (.int .i64 k) ∧ w' = w := by
  go_enter Ybad.func12, Ybad.ntmps12
  go_wp2_with (simp only [key])
  go_ret
  exact ⟨rfl, rfl⟩

theorem tz64_key (x a : Nat) (hx : x < 18446744073709551616) (hx0 : x ≠ 0) (hlow : x &&& (18446744073709551616 - x) = a) :
    IntKind.u64.wrap (bits BinOp.and IntKind.u64 (x : Int) (IntKind.u64.wrap (-(x : Int))) * 285870213051353865) / 288230376151711744 = ((a * 285870213051353865 % 18446744073709551616 / 288230376151711744 : Nat) : Int) := by
  have e1 : IntKind.u64.wrap (-(x : Int)) = ((18446744073709551616 - x : Nat) : Int) := by rw [IntKind.wrap_u64]; omega
  rw [e1, bits_and_u64_nat x _ hx (by omega), hlow, IntKind.wrap_u64]
  omega

/-- math/bits.TrailingZeros64 at a number that is not 0. -/
theorem tz64_any (x : Nat) (hx : x < 18446744073709551616) (hx0 : x ≠ 0) (w : World) (hT : TabAt w) :
    Calls Ybad.prog 12 #[.int .u64 x] w fun e w' => e = .returned (.int .i64 (Lib.ctz 64 x)) ∧ w' = w := by
  obtain ⟨hlow, hk⟩ := Lib.lowest_bit 64 x hx0 hx
  obtain ⟨hi, htab⟩ := Lib.deBruijn64_at _ hk
  have hcell := hT _ hi
  rw [htab] at hcell
  exact tz64_core x _ _ w (by simp; omega) (tz64_key x _ hx hx0 hlow) hi hk hcell

set_option maxHeartbeats 400000 in
theorem abs_any (i : Int) (w : World) (h1 : -9223372036854775808 < i) (h2 : i < 9223372036854775808) :
    Calls Ybad.prog 11 #[.int .i64 i] w fun e w' => e = .returned (.int .u64 (i.natAbs : Nat)) ∧ w' = w := by
  by_cases h0 : i < 0
  · have e0 : decide (i < 0) = true := decide_eq_true h0
    have e1 : IntKind.i64.wrap (-i) = -i := by simp [IntKind.wrap, IntKind.bits, IntKind.signed]; omega
    have e2 : IntKind.u64.wrap (-i) = ((i.natAbs : Nat) : Int) := by rw [IntKind.wrap_u64]; omega
    go_enter Ybad.func11, Ybad.ntmps11
    go_wp2
    go_ret
    exact ⟨rfl, rfl⟩
  · have e0 : decide (i < 0) = false := decide_eq_false h0
    have e2 : IntKind.u64.wrap i = ((i.natAbs : Nat) : Int) := by rw [IntKind.wrap_u64]; omega
    go_enter Ybad.func11, Ybad.ntmps11
    go_wp2
    go_ret
    exact ⟨rfl, rfl⟩

set_option maxHeartbeats 400000 in
theorem add64_any (a b : Int) (w : World) (ha1 : -4611686018427387904 < a) (ha2 : a < 4611686018427387904) (hb1 : -4611686018427387904 < b) (hb2 : b < 4611686018427387904) :
    Calls Ybad.prog 7 #[.int .i64 a, .int .i64 b] w fun e w' => e = .returned (.tuple #[.int .i64 (a + b), .bool true]) ∧ w' = w := by
  have e1 : IntKind.i64.wrap (a + b) = a + b := by simp [IntKind.wrap, IntKind.bits, IntKind.signed]; omega
  obtain ⟨s, hs⟩ : ∃ s, s = a + b := ⟨_, rfl⟩
  rw [← hs] at e1 ⊢
  have e3 : (s == -9223372036854775808) = false := by simp; omega
  have e4 : (s != -9223372036854775808) = true := by simp; omega
  have hs' : a + b = s := hs.symm
  by_cases ha : a < 0
  · have ea : decide (a < 0) = true := decide_eq_true ha
    by_cases hb : b < 0
    · have eb : decide (b < 0) = true := decide_eq_true hb
      have es : decide (s < 0) = true := decide_eq_true (by omega)
      clear hs
      go_enter Ybad.func7, Ybad.ntmps7
      go_wp2
      go_ret2
      exact ⟨by simp, rfl⟩
    · have eb : decide (b < 0) = false := decide_eq_false hb
      clear hs
      go_enter Ybad.func7, Ybad.ntmps7
      go_wp2
      go_ret2
      exact ⟨by simp, rfl⟩
  · have ea : decide (a < 0) = false := decide_eq_false ha
    by_cases hb : b < 0
    · have eb : decide (b < 0) = true := decide_eq_true hb
      clear hs
      go_enter Ybad.func7, Ybad.ntmps7
      go_wp2
      go_ret2
      exact ⟨by simp, rfl⟩
    · have eb : decide (b < 0) = false := decide_eq_false hb
      have es : decide (s < 0) = false := decide_eq_false (by omega)
      clear hs
      go_enter Ybad.func7, Ybad.ntmps7
      go_wp2
      go_ret2
      exact ⟨by simp, rfl⟩
end Go.Proofs.YbulkvsgDoor
