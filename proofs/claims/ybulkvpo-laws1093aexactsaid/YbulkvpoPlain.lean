import Derived.Lib.EndianMore
import Derived.Lib.UnsafeStr
set_option linter.unusedVariables false
set_option linter.unusedSimpArgs false
namespace Go.Proofs.Ybulkvpo

/-- byte k of v, the greatest first -/
def b8 (v k : Nat) : Nat := v / 2 ^ (56 - 8 * k) % 256

theorem b8_lt (v k : Nat) : b8 v k < 256 := Nat.mod_lt _ (by decide)

theorem be_list (v : Nat) : ∃ b0 b1 b2 b3 b4 b5 b6 b7 : UInt8, Lib.beBytes 8 v = [b0, b1, b2, b3, b4, b5, b6, b7] := by
  have h := Lib.beBytes_length 8 v
  match hl : Lib.beBytes 8 v, h with
  | [b0, b1, b2, b3, b4, b5, b6, b7], _ => exact ⟨b0, b1, b2, b3, b4, b5, b6, b7, rfl⟩

theorem be_get (v k : Nat) (hk : k < 8) : (Lib.byteCells (Lib.beBytes 8 v))[k]? = some (.int .u8 (b8 v k)) := by
  have h8 : k = 0 ∨ k = 1 ∨ k = 2 ∨ k = 3 ∨ k = 4 ∨ k = 5 ∨ k = 6 ∨ k = 7 := by omega
  have e : Lib.beBytes 8 v = [(v / 72057594037927936 % 256).toUInt8, (v / 281474976710656 % 256).toUInt8, (v / 1099511627776 % 256).toUInt8, (v / 4294967296 % 256).toUInt8, (v / 16777216 % 256).toUInt8, (v / 65536 % 256).toUInt8, (v / 256 % 256).toUInt8, (v % 256).toUInt8] := by
    simp only [Lib.beBytes, Lib.leBytes, List.reverse_cons, List.reverse_nil, List.nil_append, List.cons_append, Nat.div_div_eq_div_mul]
  rw [e]
  rcases h8 with rfl | rfl | rfl | rfl | rfl | rfl | rfl | rfl <;> simp [Lib.byteCells, b8]
end Go.Proofs.Ybulkvpo
