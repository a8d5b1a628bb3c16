import Derived.Lib.TrailingZeros
set_option linter.unusedVariables false
set_option linter.unusedSimpArgs false
namespace Go.Proofs.YbulkvsgDoor

theorem odd_coprime (a k : Nat) (h : a % 2 = 1) : (2 ^ k).Coprime a := by
  apply Nat.Coprime.pow_left
  show Nat.gcd 2 a = 1
  rw [Nat.gcd_rec, h]; rfl

theorem gcd_shift (a b k : Nat) (h : a % 2 = 1) : Nat.gcd a (2 ^ k * b) = Nat.gcd a b :=
  Nat.Coprime.gcd_mul_left_cancel_right b (odd_coprime a k h)

/-- one round: a odd, b odd (after the shift). -/
theorem gcd_round (a b : Nat) : Nat.gcd (min a b) (max a b - min a b) = Nat.gcd a b := by
  rcases Nat.le_total a b with h | h
  · rw [Nat.min_eq_left h, Nat.max_eq_right h, Nat.gcd_sub_self_right h]
  · rw [Nat.min_eq_right h, Nat.max_eq_left h, Nat.gcd_sub_self_right h, Nat.gcd_comm]

/-- the whole: a = 2^i*A, b = 2^j*B, A,B odd: gcd = 2^min(i,j) * gcd A B -/
theorem gcd_parts (i j A B : Nat) (hA : A % 2 = 1) (hB : B % 2 = 1) : Nat.gcd (2 ^ i * A) (2 ^ j * B) = 2 ^ (min i j) * Nat.gcd A B := by
  rcases Nat.le_total i j with h | h
  · obtain ⟨d, rfl⟩ : ∃ d, j = i + d := ⟨j - i, by omega⟩
    rw [Nat.pow_add, Nat.mul_assoc, Nat.gcd_mul_left, gcd_shift A B d hA, Nat.min_eq_left h]
  · obtain ⟨d, rfl⟩ : ∃ d, i = j + d := ⟨i - j, by omega⟩
    rw [Nat.pow_add, Nat.mul_assoc, Nat.gcd_mul_left, Nat.gcd_comm (2 ^ d * A) B, gcd_shift B A d hB, Nat.gcd_comm B A, Nat.min_eq_right h]

/-- trailing zeros of an or. -/
theorem or_parts (i j A B : Nat) (hA : A % 2 = 1) (hB : B % 2 = 1) : ∃ C, C % 2 = 1 ∧ (2 ^ i * A) ||| (2 ^ j * B) = 2 ^ (min i j) * C := by
  have key : ∀ i d A B : Nat, A % 2 = 1 → (2 ^ i * A) ||| (2 ^ (i + d) * B) = 2 ^ i * (A ||| (2 ^ d * B)) := by
    intro i d A B hA
    rw [Nat.pow_add, Nat.mul_assoc]
    apply Nat.eq_of_testBit_eq
    intro t
    rw [Nat.testBit_or, Nat.mul_comm (2 ^ i) A, Nat.mul_comm (2 ^ i) (2 ^ d * B), Nat.mul_comm (2 ^ i) (A ||| _), Nat.testBit_mul_two_pow, Nat.testBit_mul_two_pow, Nat.testBit_mul_two_pow, Nat.testBit_or]
    cases decide (t ≥ i) <;> simp
  have oddor : ∀ A X : Nat, A % 2 = 1 → (A ||| X) % 2 = 1 := by
    intro A X h
    have h0 : (A ||| X).testBit 0 = true := by rw [Nat.testBit_or]; simp [Nat.testBit_zero, h]
    simpa [Nat.testBit_zero] using h0
  rcases Nat.le_total i j with h | h
  · obtain ⟨d, rfl⟩ : ∃ d, j = i + d := ⟨j - i, by omega⟩
    exact ⟨_, oddor A _ hA, by rw [key i d A B hA, Nat.min_eq_left h]⟩
  · obtain ⟨d, rfl⟩ : ∃ d, i = j + d := ⟨i - j, by omega⟩
    exact ⟨_, oddor B (2 ^ d * A) hB, by rw [Nat.or_comm, key j d B A hB, Nat.min_eq_right h]⟩

/-- the parts of a number are unique -/
theorem parts_unique (i j A B : Nat) (hA : A % 2 = 1) (hB : B % 2 = 1) (h : 2 ^ i * A = 2 ^ j * B) : i = j := by
  rcases Nat.lt_trichotomy i j with hl | hl | hl
  · obtain ⟨d, rfl⟩ : ∃ d, j = i + (d + 1) := ⟨j - i - 1, by omega⟩
    rw [Nat.pow_add, Nat.mul_assoc] at h
    have := Nat.eq_of_mul_eq_mul_left (Nat.pow_pos (by decide)) h
    rw [Nat.pow_succ, Nat.mul_comm _ 2, Nat.mul_assoc] at this
    omega
  · exact hl
  · obtain ⟨d, rfl⟩ : ∃ d, i = j + (d + 1) := ⟨i - j - 1, by omega⟩
    rw [Nat.pow_add, Nat.mul_assoc] at h
    have := Nat.eq_of_mul_eq_mul_left (Nat.pow_pos (by decide)) h
    rw [Nat.pow_succ, Nat.mul_comm _ 2, Nat.mul_assoc] at this
    omega

/-- x without its factors 2 -/
theorem ctz_parts (x : Nat) (hx : x < 18446744073709551616) (h0 : x ≠ 0) : ∃ A, A % 2 = 1 ∧ x = 2 ^ Lib.ctz 64 x * A ∧ x / 2 ^ Lib.ctz 64 x = A ∧ Lib.ctz 64 x < 64 := by
  obtain ⟨m, hm, hl⟩ := Lib.ctzFrom_spec 64 x (by omega) hx
  have e : Lib.ctz 64 x = Lib.ctzFrom 64 x := by unfold Lib.ctz; rw [if_neg h0]
  rw [e]
  refine ⟨2 * m + 1, by omega, hm, ?_, hl⟩
  have h2 : 0 < 2 ^ Lib.ctzFrom 64 x := Nat.pow_pos (by decide)
  generalize 2 ^ Lib.ctzFrom 64 x = p at hm h2
  rw [hm, Nat.mul_div_cancel_left _ h2]

/-- the shift at the end -/
theorem ctz_or (x y A B : Nat) (hx : x < 18446744073709551616) (hy : y < 18446744073709551616) (h0 : x ≠ 0) (h1 : y ≠ 0) (hA : A % 2 = 1) (hB : B % 2 = 1)
    (ex : x = 2 ^ Lib.ctz 64 x * A) (ey : y = 2 ^ Lib.ctz 64 y * B) : Nat.gcd A B * 2 ^ Lib.ctz 64 (x ||| y) = Nat.gcd x y ∧ x ||| y ≠ 0 ∧ x ||| y < 18446744073709551616 := by
  have hlt : x ||| y < 18446744073709551616 := Nat.or_lt_two_pow (n := 64) hx hy
  obtain ⟨C, hC, hor⟩ := or_parts (Lib.ctz 64 x) (Lib.ctz 64 y) A B hA hB
  rw [← ex, ← ey] at hor
  have hne : x ||| y ≠ 0 := by
    intro h
    rw [h] at hor
    have h2 : 0 < 2 ^ (min (Lib.ctz 64 x) (Lib.ctz 64 y)) := Nat.pow_pos (by decide)
    have h3 : 0 < C := by omega
    have := Nat.mul_pos h2 h3
    omega
  obtain ⟨D, hD, hd, -, -⟩ := ctz_parts (x ||| y) hlt hne
  have hu := parts_unique _ _ C D hC hD (hor.symm.trans hd)
  refine ⟨?_, hne, hlt⟩
  rw [← hu]
  have := gcd_parts (Lib.ctz 64 x) (Lib.ctz 64 y) A B hA hB
  rw [← ex, ← ey] at this
  rw [this, Nat.mul_comm]

/-- scaled: the law's quotients are the reduced ones -/
theorem scaled (sum : Int) (den k : Nat) (hk : 0 < k) (hden : 0 < den) :
    ∃ G, G = Nat.gcd (sum * k).natAbs (den * k) ∧ 0 < G ∧ (sum * k).tdiv G = sum.tdiv (Nat.gcd sum.natAbs den) ∧ ((den * k : Nat) : Int).tdiv G = (den : Int).tdiv (Nat.gcd sum.natAbs den) := by
  have hg : Nat.gcd (sum * k).natAbs (den * k) = Nat.gcd sum.natAbs den * k := by
    rw [Int.natAbs_mul, Int.natAbs_natCast, Nat.gcd_mul_right]
  have hp : 0 < Nat.gcd sum.natAbs den := Nat.gcd_pos_of_pos_right _ hden
  refine ⟨_, rfl, ?_, ?_, ?_⟩
  · rw [hg]; exact Nat.mul_pos hp hk
  · rw [hg, Int.natCast_mul]
    exact Int.mul_tdiv_mul_of_pos_left _ _ (by omega)
  · rw [hg, Int.natCast_mul, Int.natCast_mul]
    exact Int.mul_tdiv_mul_of_pos_left _ _ (by omega)
end Go.Proofs.YbulkvsgDoor
