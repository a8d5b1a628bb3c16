import Derived.Test.YbulkvreRows
import Derived.WalkKit
import Derived.WalkSpells
import Derived.WalkLawsBesides
import Derived.Deep.MidRow
set_option linter.unusedVariables false
set_option linter.unusedSimpArgs false
namespace Go.Proofs.Ybulkvre
open Go.RowKit

/-- the page at g: 'dec' at cells 1.., 'enc' at cells 257.. -/
def DecAt (w : World) (g : Nat) (o : Nat) (f : Nat → Nat) : Prop := ∀ b, b < 256 → w.cell? ⟨g, o + b, none⟩ = some (.int .u8 (f b))

set_option maxHeartbeats 400000 in
theorem enc_any (g : Nat) (enc : Nat → Nat) (r : Int) (w : World) (h : DecAt w g 257 enc) :
    Calls Yba.prog 8 #[.pointer (some ⟨g, 0, none⟩), .int .i32 r] w fun e w' =>
      e = .returned (.tuple #[.int .u8 (if 0 ≤ r ∧ r < 256 then (enc r.toNat : Int) else 0), .bool (decide (0 ≤ r ∧ r < 256))]) ∧ w' = w := by
  by_cases h0 : r < 0
  · have e0 : decide (r < 0) = true := decide_eq_true h0
    rw [if_neg (by omega), decide_eq_false (by omega : ¬ (0 ≤ r ∧ r < 256))]
    clear h
    go_enter Yba.func8, Yba.ntmps8
    go_wp2
    go_ret2
    exact ⟨rfl, rfl⟩
  · have e0 : decide (r < 0) = false := decide_eq_false h0
    by_cases h1 : 255 < r
    · have e1 : decide (255 < r) = true := decide_eq_true h1
      rw [if_neg (by omega), decide_eq_false (by omega : ¬ (0 ≤ r ∧ r < 256))]
      clear h
      go_enter Yba.func8, Yba.ntmps8
      go_wp2
      go_ret2
      exact ⟨rfl, rfl⟩
    · have e1 : decide (255 < r) = false := decide_eq_false h1
      rw [if_pos (by omega), decide_eq_true (by omega : (0 ≤ r ∧ r < 256))]
      obtain ⟨n, rfl⟩ : ∃ n : Nat, r = (n : Int) := ⟨r.toNat, by omega⟩
      have hc := h n (by omega)
      have hn : n < 256 := by omega
      rw [Int.toNat_natCast]
      have i1 : (0 : Int) ≤ (n : Int) := by omega
      have i2 : (n : Int) < 256 := by omega
      clear h h0 h1
      go_enter Yba.func8, Yba.ntmps8
      go_wp2
      go_ret2
      exact ⟨rfl, rfl⟩

set_option maxHeartbeats 400000 in
theorem dec_any (g : Nat) (dec : Nat → Nat) (n : Nat) (w : World) (h : DecAt w g 1 dec) (hn : n < 256) (hd : dec n < 256) :
    Calls Yba.prog 9 #[.pointer (some ⟨g, 0, none⟩), .int .u8 n] w fun e w' =>
      e = .returned (.int .i32 (dec n)) ∧ w' = w := by
  have hc := h n hn
  have i1 : (0 : Int) ≤ (n : Int) := by omega
  have i2 : (n : Int) < 256 := by omega
  clear h
  go_enter Yba.func9, Yba.ntmps9
  go_wp2
  go_ret
  exact ⟨rfl, rfl⟩
end Go.Proofs.Ybulkvre
