import Derived.Lib.TrailingZeros
set_option linter.unusedVariables false
set_option linter.unusedSimpArgs false
namespace Go.Proofs.YbulkvnyDoor.Csa

def bit (x i : Nat) : Nat := (x.testBit i).toNat
theorem bit_le (x i : Nat) : bit x i ≤ 1 := by unfold bit; cases x.testBit i <;> decide
theorem bit_zero (i : Nat) : bit 0 i = 0 := by simp [bit]

/-- the full adder -/
theorem adder (s x y i : Nat) : bit s i + bit x i + bit y i = bit ((s ^^^ x) ^^^ y) i + 2 * bit ((s &&& x) ||| ((s ^^^ x) &&& y)) i := by
  simp only [bit, Nat.testBit_xor, Nat.testBit_or, Nat.testBit_and]
  cases s.testBit i <;> cases x.testBit i <;> cases y.testBit i <;> decide

def sumTo (f : Nat → Nat) : Nat → Nat
  | 0 => 0
  | n + 1 => sumTo f n + f n

theorem sumTo_congr (f g : Nat → Nat) (n : Nat) (h : ∀ k, k < n → f k = g k) : sumTo f n = sumTo g n := by
  induction n with
  | zero => rfl
  | succ n ih => simp only [sumTo]; rw [ih (fun k hk => h k (by omega)), h n (by omega)]

theorem sumTo_turn (f g : Nat → Nat) (n j : Nat) (hj : j < n) (h : ∀ k, k < n → k ≠ j → f k = g k) : sumTo f n + g j = sumTo g n + f j := by
  induction n with
  | zero => omega
  | succ n ih =>
    simp only [sumTo]
    by_cases e : j = n
    · subst e
      rw [sumTo_congr f g j (fun k hk => h k (by omega) (by omega))]; omega
    · have := ih (by omega) (fun k hk hn => h k (by omega) hn)
      have h2 := h n (by omega) (fun x => e x.symm)
      omega

theorem sumTo_zero (f : Nat → Nat) (m n : Nat) (hmn : m ≤ n) (h : ∀ k, m ≤ k → k < n → f k = 0) : sumTo f n = sumTo f m := by
  induction n with
  | zero => have : m = 0 := by omega
            subst this; rfl
  | succ n ih =>
    by_cases e : m = n + 1
    · subst e; rfl
    · simp only [sumTo]
      rw [ih (by omega) (fun k h1 h2 => h k h1 (by omega)), h n (by omega) (by omega)]; rfl

/-- what level k holds of bit i -/
def lev (S C : Nat → Nat) (W i k : Nat) : Nat := 2 ^ k * (bit (S k) i + bit W k * bit (C k) i)
def tot (S C : Nat → Nat) (W i n : Nat) : Nat := sumTo (lev S C W i) n

def set (f : Nat → Nat) (k v : Nat) : Nat → Nat := fun j => if j = k then v else f j
theorem set_same (f : Nat → Nat) (k v : Nat) : set f k v k = v := by simp [set]
theorem set_other (f : Nat → Nat) (k v j : Nat) (h : j ≠ k) : set f k v j = f j := by simp [set, h]

/-- the sum bit is laid at level k -/
theorem tot_setS (S C : Nat → Nat) (W i n k v : Nat) (hk : k < n) : tot (set S k v) C W i n + 2 ^ k * bit (S k) i = tot S C W i n + 2 ^ k * bit v i := by
  have h := sumTo_turn (lev (set S k v) C W i) (lev S C W i) n k hk (fun j _ hj => by simp only [lev]; rw [set_other _ _ _ _ hj])
  simp only [lev, set_same, Nat.mul_add] at h
  simp only [tot]; omega

/-- a carry is laid at level k, which did not wait -/
theorem tot_lay (S C : Nat → Nat) (W W' i n k v : Nat) (hk : k < n) (h0 : bit W k = 0) (h1 : bit W' k = 1) (hoff : ∀ j, j ≠ k → bit W' j = bit W j) :
    tot S (set C k v) W' i n = tot S C W i n + 2 ^ k * bit v i := by
  have h := sumTo_turn (lev S (set C k v) W' i) (lev S C W i) n k hk (fun j _ hj => by simp only [lev]; rw [set_other _ _ _ _ hj, hoff j hj])
  simp only [lev, set_same, Nat.mul_add, h0, h1, Nat.one_mul, Nat.zero_mul, Nat.mul_zero] at h
  simp only [tot]; omega

/-- the carry that waited at level k is taken -/
theorem tot_take (S C : Nat → Nat) (W W' i n k : Nat) (hk : k < n) (h0 : bit W k = 1) (h1 : bit W' k = 0) (hoff : ∀ j, j ≠ k → bit W' j = bit W j) :
    tot S C W' i n + 2 ^ k * bit (C k) i = tot S C W i n := by
  have h := sumTo_turn (lev S C W' i) (lev S C W i) n k hk (fun j _ hj => by simp only [lev]; rw [hoff j hj])
  simp only [lev, Nat.mul_add, h0, h1, Nat.one_mul, Nat.zero_mul, Nat.mul_zero] at h
  simp only [tot]; omega


theorem bit_one {x i : Nat} : bit x i = 1 ↔ x.testBit i = true := by unfold bit; cases x.testBit i <;> decide
theorem bit_nil {x i : Nat} : bit x i = 0 ↔ x.testBit i = false := by unfold bit; cases x.testBit i <;> decide

/-- the level's bit of a number that is a multiple of 2^k -/
theorem bit_mul (k q : Nat) : bit (2 ^ k * q) k = q % 2 := by
  unfold bit
  rw [Nat.mul_comm, Nat.testBit_mul_two_pow]
  simp [Nat.testBit_zero]
  rcases Nat.mod_two_eq_zero_or_one q with h | h <;> simp [h]

theorem or_level (k q : Nat) (h : q % 2 = 0) : 2 ^ k * q ||| 2 ^ k = 2 ^ k * (q + 1) := by
  obtain ⟨r, rfl⟩ : ∃ r, q = 2 * r := ⟨q / 2, by omega⟩
  have h1 : 2 ^ k * (2 * r) = 2 ^ (k + 1) * r := by rw [Nat.pow_succ, Nat.mul_assoc]
  rw [h1, ← Nat.two_pow_add_eq_or_of_lt (Nat.pow_lt_pow_right (by decide) (Nat.lt_succ_self k)) r, Nat.mul_add, Nat.mul_one, h1]

/-- the bit k struck out of a 64-bit number -/
theorem andNot_bit (W k j : Nat) (hW : W < 2 ^ 64) (hk : k < 64) : bit (W &&& (18446744073709551615 - 2 ^ k)) j = if j = k then 0 else bit W j := by
  have hp : 2 ^ k < 2 ^ 64 := Nat.pow_lt_pow_right (by decide) hk
  have e : 18446744073709551615 - 2 ^ k = 2 ^ 64 - (2 ^ k + 1) := by omega
  unfold bit
  rw [Nat.testBit_and, e, Nat.testBit_two_pow_sub_succ hp, Nat.testBit_two_pow]
  by_cases hj : j = k
  · subst hj; simp
  · rw [if_neg hj]
    have hkj : (k = j) = False := by simp; omega
    simp only [hkj, decide_false, Bool.not_false, Bool.and_true]
    by_cases h64 : j < 64
    · simp [h64]
    · have : W.testBit j = false := Nat.testBit_lt_two_pow (Nat.lt_of_lt_of_le hW (Nat.pow_le_pow_right (by decide) (by omega)))
      simp [this]

theorem andNot_level (k q : Nat) (h : q % 2 = 1) (hW : 2 ^ k * q < 2 ^ 64) (hk : k < 64) : 2 ^ k * q &&& (18446744073709551615 - 2 ^ k) = 2 ^ (k + 1) * (q / 2) := by
  apply Nat.eq_of_testBit_eq
  intro j
  have hb := andNot_bit (2 ^ k * q) k j hW hk
  have e2 : bit (2 ^ (k + 1) * (q / 2)) j = if j = k then 0 else bit (2 ^ k * q) j := by
    unfold bit
    rw [Nat.mul_comm, Nat.testBit_mul_two_pow, Nat.mul_comm (2 ^ k) q, Nat.testBit_mul_two_pow]
    by_cases hj : j = k
    · subst hj
      have a1 : ¬ j + 1 ≤ j := by omega
      simp [a1]
    · rw [if_neg hj]
      by_cases hl : k + 1 ≤ j
      · obtain ⟨d, rfl⟩ : ∃ d, j = k + 1 + d := ⟨j - k - 1, by omega⟩
        have a1 : k + 1 + d - (k + 1) = d := by omega
        have a2 : k + 1 + d - k = d + 1 := by omega
        have a3 : k ≤ k + 1 + d := by omega
        simp [a1, a2, a3, Nat.testBit_succ]
      · have a1 : ¬ k ≤ j := by omega
        simp [hl, a1]
  rw [← e2] at hb
  unfold bit at hb
  revert hb
  cases (2 ^ k * q &&& (18446744073709551615 - 2 ^ k)).testBit j <;> cases (2 ^ (k + 1) * (q / 2)).testBit j <;> simp

/-- the bits of a number with the bit k set -/
theorem or_bit (W k j : Nat) : bit (W ||| 2 ^ k) j = if j = k then 1 else bit W j := by
  unfold bit
  rw [Nat.testBit_or, Nat.testBit_two_pow]
  by_cases hj : j = k
  · subst hj; simp
  · have hkj : (k = j) = False := by simp; omega
    simp [hj, hkj]

/-- x and x - 1: the lowest bit is struck -/
theorem and_pred (x : Nat) (hx : x < 2 ^ 64) (h0 : x ≠ 0) : Lib.ctz 64 x < 64 ∧ bit x (Lib.ctz 64 x) = 1 ∧ (∀ j, bit (x &&& (x - 1)) j = if j = Lib.ctz 64 x then 0 else bit x j) ∧ (x &&& (x - 1)) < x := by
  obtain ⟨m, hm, hk⟩ := Lib.ctzFrom_spec 64 x (by omega) hx
  have hc : Lib.ctz 64 x = Lib.ctzFrom 64 x := by simp [Lib.ctz, h0]
  rw [hc]
  generalize Lib.ctzFrom 64 x = k at *
  have hb : bit x k = 1 := by rw [hm, bit_mul]; omega
  have key : ∀ j, bit (x &&& (x - 1)) j = if j = k then 0 else bit x j := by
    intro j
    have e : x - 1 = 2 ^ k * (2 * m) + (2 ^ k - 1) := by
      rw [hm, Nat.mul_add, Nat.mul_one]
      have := Nat.two_pow_pos k
      omega
    have hlt : 2 ^ k - 1 < 2 ^ k := by have := Nat.two_pow_pos k; omega
    unfold bit
    rw [Nat.testBit_and, e, Nat.testBit_two_pow_mul_add _ hlt, hm, Nat.mul_comm (2 ^ k), Nat.testBit_mul_two_pow]
    by_cases hj : j = k
    · subst hj; simp [Nat.testBit_zero]
    · rw [if_neg hj]
      by_cases hl : j < k
      · have a1 : ¬ k ≤ j := by omega
        simp [a1]
      · obtain ⟨d, rfl⟩ : ∃ d, j = k + 1 + d := ⟨j - k - 1, by omega⟩
        have a1 : k + 1 + d - k = d + 1 := by omega
        have a2 : k ≤ k + 1 + d := by omega
        have a3 : ¬ k + 1 + d < k := by omega
        have a4 : (2 * m + 1) / 2 = m := by omega
        simp [a1, a2, a3, Nat.testBit_succ, a4]
  refine ⟨hk, hb, key, ?_⟩
  have hle : x &&& (x - 1) ≤ x - 1 := Nat.and_le_right
  omega

/-- p pairs have been added -/
structure Held (word : Nat → Nat) (p : Nat) (S C : Nat → Nat) : Prop where
  tot : ∀ i, i < 64 → tot S C (2 * p) i 16 = sumTo (fun k => bit (word k) i) (2 * p)
  zero : ∀ k, p < 2 ^ k → S k = 0

/-- the pair behind p pairs is being added: at level K, X and Y are still to be added -/
structure Lvl (word : Nat → Nat) (p K q X Y : Nat) (S C : Nat → Nat) : Prop where
  wt : 2 ^ (K + 1) * (q + 1) = 2 * (p + 1)
  tot : ∀ i, i < 64 → tot S C (2 ^ (K + 1) * q) i 16 + 2 ^ K * (bit X i + bit Y i) = sumTo (fun k => bit (word k) i) (2 * (p + 1))
  zero : ∀ k, p + 1 < 2 ^ k → S k = 0

theorem Held.start (word C : Nat → Nat) : Held word 0 (fun _ => 0) C := by
  refine ⟨fun i _ => ?_, fun _ _ => rfl⟩
  unfold Csa.tot
  rw [sumTo_zero _ 0 16 (by decide) (fun k _ _ => by simp [lev, bit_zero])]
  rfl

theorem Held.enter {word S C : Nat → Nat} {p : Nat} (h : Held word p S C) : Lvl word p 0 p (word (2 * p)) (word (2 * p + 1)) S C := by
  refine ⟨by omega, fun i hi => ?_, fun k hk => h.zero k (by omega)⟩
  have e : 2 * (p + 1) = 2 * p + 1 + 1 := by omega
  have e1 : 2 ^ (0 + 1) * p = 2 * p := by omega
  rw [e1, h.tot i hi, e]
  simp only [sumTo]
  omega

theorem Lvl.level_lt {word S C : Nat → Nat} {p K q X Y : Nat} (h : Lvl word p K q X Y S C) (hp : p < 2048) : K + 1 ≤ 12 := by
  apply Nat.le_of_not_lt
  intro hk
  have h1 : 2 ^ 13 ≤ 2 ^ (K + 1) := Nat.pow_le_pow_right (by decide) (by omega)
  have h2 := h.wt
  have h3 : 2 ^ (K + 1) ≤ 2 ^ (K + 1) * (q + 1) := Nat.le_mul_of_pos_right _ (by omega)
  omega

theorem Lvl.touched {word S C : Nat → Nat} {p K q X Y : Nat} (h : Lvl word p K q X Y S C) {k : Nat} (hk : p + 1 < 2 ^ k) : k ≠ K := by
  intro e
  subst e
  have h2 := h.wt
  have h3 : 2 ^ (k + 1) ≤ 2 ^ (k + 1) * (q + 1) := Nat.le_mul_of_pos_right _ (by omega)
  rw [Nat.pow_succ] at h2 h3
  omega

theorem Lvl.stop {word S C : Nat → Nat} {p K q X Y : Nat} (h : Lvl word p K q X Y S C) (hq : q % 2 = 0) (hK : K + 1 < 16) :
    Held word (p + 1) (set S K ((S K ^^^ X) ^^^ Y)) (set C (K + 1) ((S K &&& X) ||| ((S K ^^^ X) &&& Y))) := by
  refine ⟨fun i hi => ?_, fun k hk => ?_⟩
  · have h1 := tot_setS S C (2 ^ (K + 1) * q) i 16 K ((S K ^^^ X) ^^^ Y) (by omega)
    have hb0 : bit (2 ^ (K + 1) * q) (K + 1) = 0 := by rw [bit_mul]; exact hq
    have e := or_level (K + 1) q hq
    rw [h.wt] at e
    have h2 := tot_lay (set S K ((S K ^^^ X) ^^^ Y)) C (2 ^ (K + 1) * q) (2 * (p + 1)) i 16 (K + 1) ((S K &&& X) ||| ((S K ^^^ X) &&& Y)) hK hb0
      (by rw [← e, or_bit, if_pos rfl]) (fun j hj => by rw [← e, or_bit, if_neg hj])
    have h3 := h.tot i hi
    have h4 := adder (S K) X Y i
    rw [h2, ← h3]
    clear h2 e hb0
    generalize Csa.tot (set S K ((S K ^^^ X) ^^^ Y)) C (2 ^ (K + 1) * q) i 16 = A at *
    generalize Csa.tot S C (2 ^ (K + 1) * q) i 16 = B at *
    generalize bit ((S K ^^^ X) ^^^ Y) i = t at *
    generalize bit ((S K &&& X) ||| ((S K ^^^ X) &&& Y)) i = c at *
    generalize bit (S K) i = s at *
    generalize bit X i = x at *
    generalize bit Y i = y at *
    rw [Nat.pow_succ]
    generalize 2 ^ K = P at *
    have h5 : P * (s + x + y) = P * (t + 2 * c) := by rw [h4]
    simp only [Nat.mul_add] at h5 ⊢
    have h6 : P * (2 * c) = P * 2 * c := (Nat.mul_assoc _ _ _).symm
    omega
  · rw [set_other _ _ _ _ (h.touched hk)]
    exact h.zero k hk

theorem Lvl.next {word S C : Nat → Nat} {p K q X Y : Nat} (h : Lvl word p K q X Y S C) (hq : q % 2 = 1) (hK : K + 1 < 16) :
    Lvl word p (K + 1) (q / 2) (C (K + 1)) ((S K &&& X) ||| ((S K ^^^ X) &&& Y)) (set S K ((S K ^^^ X) ^^^ Y)) C := by
  have hqq : 2 ^ (K + 1 + 1) * (q / 2 + 1) = 2 ^ (K + 1) * (q + 1) := by
    rw [Nat.pow_succ 2 (K + 1), Nat.mul_assoc]
    congr 1
    omega
  refine ⟨hqq.trans h.wt, fun i hi => ?_, fun k hk => ?_⟩
  · have h1 := tot_setS S C (2 ^ (K + 1) * q) i 16 K ((S K ^^^ X) ^^^ Y) (by omega)
    have hb0 : bit (2 ^ (K + 1) * q) (K + 1) = 1 := by rw [bit_mul]; exact hq
    have eW : 2 ^ (K + 1 + 1) * (q / 2) = 2 ^ (K + 1) * (q - 1) := by
      rw [Nat.pow_succ 2 (K + 1), Nat.mul_assoc]
      congr 1
      omega
    have hor : 2 ^ (K + 1) * (q - 1) ||| 2 ^ (K + 1) = 2 ^ (K + 1) * q := by
      have := or_level (K + 1) (q - 1) (by omega)
      rw [this]; congr 1; omega
    have hb1 : bit (2 ^ (K + 1) * (q - 1)) (K + 1) = 0 := by rw [bit_mul]; omega
    have h2 := tot_take (set S K ((S K ^^^ X) ^^^ Y)) C (2 ^ (K + 1) * q) (2 ^ (K + 1) * (q - 1)) i 16 (K + 1) hK hb0 hb1
      (fun j hj => by rw [← hor, or_bit, if_neg hj])
    have h3 := h.tot i hi
    have h4 := adder (S K) X Y i
    rw [eW, ← h3]
    generalize Csa.tot (set S K ((S K ^^^ X) ^^^ Y)) C (2 ^ (K + 1) * q) i 16 = A at *
    generalize Csa.tot (set S K ((S K ^^^ X) ^^^ Y)) C (2 ^ (K + 1) * (q - 1)) i 16 = D at *
    generalize Csa.tot S C (2 ^ (K + 1) * q) i 16 = B at *
    generalize bit ((S K ^^^ X) ^^^ Y) i = t at *
    generalize bit ((S K &&& X) ||| ((S K ^^^ X) &&& Y)) i = c at *
    generalize bit (C (K + 1)) i = d at *
    generalize bit (S K) i = s at *
    generalize bit X i = x at *
    generalize bit Y i = y at *
    rw [Nat.pow_succ] at h2 ⊢
    generalize 2 ^ K = P at *
    have h5 : P * (s + x + y) = P * (t + 2 * c) := by rw [h4]
    simp only [Nat.mul_add] at h5 ⊢
    have h6 : P * (2 * c) = P * 2 * c := (Nat.mul_assoc _ _ _).symm
    omega
  · rw [set_other _ _ _ _ (h.touched hk)]
    exact h.zero k hk

theorem lt_two_pow_of_lt {x m k : Nat} (h : x < 2 ^ m) (hk : m ≤ k) : x < 2 ^ k := Nat.lt_of_lt_of_le h (Nat.pow_le_pow_right (by decide) hk)

/-- the levels below L hold all -/
theorem Held.finish {word S C : Nat → Nat} {p : Nat} (h : Held word p S C) (L : Nat) (hL : L ≤ 16) (hp : 2 * p < 2 ^ L) (i : Nat) (hi : i < 64) :
    sumTo (lev S C (2 * p) i) L = sumTo (fun k => bit (word k) i) (2 * p) := by
  rw [← h.tot i hi]
  unfold Csa.tot
  rw [sumTo_zero _ L 16 hL]
  intro k hk _
  have h1 : 2 * p < 2 ^ k := lt_two_pow_of_lt hp hk
  have h2 : bit (2 * p) k = 0 := by rw [bit_nil]; exact Nat.testBit_lt_two_pow h1
  simp [lev, h.zero k (by omega), h2, bit_zero]

theorem add_mod_level (g f1 s T K b : Nat) (h : g % 18446744073709551616 = (f1 + 2 ^ s * T) % 18446744073709551616) :
    (g + b * (2 ^ (K + s) % 18446744073709551616)) % 18446744073709551616 = (f1 + 2 ^ s * (T + 2 ^ K * b)) % 18446744073709551616 := by
  rw [Nat.add_mod, Nat.mul_mod, Nat.mod_mod, ← Nat.mul_mod, ← Nat.add_mod]
  have e : f1 + 2 ^ s * (T + 2 ^ K * b) = (f1 + 2 ^ s * T) + b * 2 ^ (K + s) := by
    rw [Nat.mul_add, ← Nat.add_assoc, ← Nat.mul_assoc, ← Nat.pow_add, Nat.mul_comm (2 ^ (s + K)) b, Nat.add_comm s K]
  rw [e, Nat.add_mod, h, ← Nat.add_mod]
end Go.Proofs.YbulkvnyDoor.Csa
