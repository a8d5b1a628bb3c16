import Derived.Test.YbulkvreNew
set_option linter.unusedVariables false
set_option linter.unusedSimpArgs false
namespace Go.Proofs.Ybulkvre

theorem encN_hit (dec : Nat → Nat) (q : Nat) : ∀ j, (∃ b, b < j ∧ dec b = q) → dec (encN dec j q) = q ∧ encN dec j q < j
  | 0, h => by obtain ⟨b, hb, _⟩ := h; omega
  | j + 1, h => by
    rw [encN]
    by_cases hj : dec j = q
    · rw [if_pos hj]; exact ⟨hj, by omega⟩
    · rw [if_neg hj]
      obtain ⟨b, hb, hq⟩ := h
      have hbj : b ≠ j := fun e => hj (e ▸ hq)
      have := encN_hit dec q j ⟨b, by omega, hq⟩
      exact ⟨this.1, by omega⟩

theorem odd_pow : ∀ k : Fin 128, (2 * k.val + 1) ^ 64 % 256 = 1 := by decide +kernel

/-- b -> b*K+A mod 256 -/
def aff (K A b : Nat) : Nat := (b * K + A) % 256
theorem aff_lt (K A b : Nat) : aff K A b < 256 := Nat.mod_lt _ (by decide)

theorem aff_onto (K A q : Nat) (hK : K < 256) (ho : K % 2 = 1) (hA : A < 256) (hq : q < 256) : ∃ b, b < 256 ∧ aff K A b = q := by
  have h1 : K ^ 64 % 256 = 1 := by
    have := odd_pow ⟨K / 2, by omega⟩
    have e : 2 * (K / 2) + 1 = K := by omega
    simpa only [e] using this
  refine ⟨(q + 256 - A) * K ^ 63 % 256, Nat.mod_lt _ (by decide), ?_⟩
  have h2 : ((q + 256 - A) * K ^ 63 % 256 * K) % 256 = (q + 256 - A) % 256 := by
    rw [Nat.mul_mod, Nat.mod_mod, ← Nat.mul_mod, Nat.mul_assoc, ← Nat.pow_succ, Nat.mul_mod, h1]
    omega
  unfold aff
  omega

theorem or_one_all : ∀ m : Fin 256, (m.val ||| 1) % 2 = 1 := by decide +kernel
theorem or_one (m : Nat) (hm : m < 256) : (m ||| 1) % 2 = 1 ∧ m ||| 1 < 256 :=
  ⟨or_one_all ⟨m, hm⟩, Nat.or_lt_two_pow (n := 8) hm (by decide)⟩
theorem bits_or_one_all : ∀ m : Fin 256, bits .or .u8 (m.val : Int) 1 = ((m.val ||| 1 : Nat) : Int) := by decide +kernel
end Go.Proofs.Ybulkvre
