import Derived.Test.YbulkvnyDoorRows
import Derived.Lib.Strings
import Derived.Lib.Slices
import Derived.Lib.Small
import Derived.Lib.Walk
import Derived.Lib.BitFns
set_option linter.unusedVariables false
set_option linter.unusedSimpArgs false
namespace Go.Proofs.YbulkvnyDoor

set_option maxHeartbeats 1000000 in
set_option maxRecDepth 100000 in
theorem len64_any (x : Int) (w : World) (h0 : 0 ≤ x) (h1 : x ≤ 65535) :
    Calls Ybad.prog 9 #[.int .u64 x] w fun e w' => e = .returned (.int .i64 (Lib.bitLen x.toNat)) ∧ w' = w := by
  go_enter Ybad.func9, Ybad.ntmps9
  go_wp2
  all_goals (go_ret; refine ⟨congrArg Ending.returned (congrArg (Value.int IntKind.i64) ?_), rfl⟩)
  all_goals first
    | (rw [Lib.len8_of (x / 256 % 256) (by omega) (by omega)]
       have e : (x / 256 % 256).toNat = x.toNat / 256 := by omega
       have l := Lib.bitLen_le8' (x / 256 % 256) (by omega) (by omega)
       have s := Lib.bitLen_shift8 x.toNat (by omega) (by omega)
       rw [e] at l ⊢
       omega)
    | (rw [Lib.len8_of (x % 256) (by omega) (by omega)]
       have e : (x % 256).toNat = x.toNat := by omega
       have l := Lib.bitLen_le8' (x % 256) (by omega) (by omega)
       rw [e] at l ⊢
       omega)

theorem len_any (x : Nat) (w : World) (h1 : x ≤ 65535) :
    Calls Ybad.prog 6 #[.int .u64 x] w fun e w' => e = .returned (.int .i64 (Lib.bitLen x)) ∧ w' = w := by
  go_enter Ybad.func6, Ybad.ntmps6
  go_wp2_with (go_at_call 9; refine (len64_any x _ (by omega) (by omega)).mono ?_; rintro e w' ⟨rfl, rfl⟩)
  go_ret
  exact ⟨by simp, rfl⟩

theorem bitLenAux_lt : ∀ (f x : Nat), x < 2 ^ f → x < 2 ^ Lib.bitLenAux f x
  | 0, x, h => by simpa [Lib.bitLenAux] using h
  | f + 1, x, h => by
    unfold Lib.bitLenAux
    split
    · subst_vars; simp
    · have := bitLenAux_lt f (x / 2) (by rw [Nat.pow_succ] at h; omega)
      rw [Nat.add_comm 1, Nat.pow_succ]; omega
theorem bitLen_lt (x : Nat) (h : x < 2 ^ 64) : x < 2 ^ Lib.bitLen x := bitLenAux_lt 64 x h
theorem bitLen_13 (x : Nat) (h : x ≤ 4096) : Lib.bitLen x ≤ 13 := Lib.bitLen_le x 13 (by decide) (by omega)
end Go.Proofs.YbulkvnyDoor
