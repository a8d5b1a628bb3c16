import Derived.Test.YbulkvsgDoorGcd
set_option linter.unusedVariables false
set_option linter.unusedSimpArgs false
namespace Go.Proofs.YbulkvsgDoor
open Go.RowKit

set_option maxHeartbeats 400000 in
theorem mul64_any (a b : Int) (w : World) (ha1 : -9223372036854775808 < a) (ha2 : a < 9223372036854775808) (hb1 : -9223372036854775808 < b) (hb2 : b < 9223372036854775808) (hab : a.natAbs * b.natAbs < 9223372036854775808) :
    Calls Ybad.prog 10 #[.int .i64 a, .int .i64 b] w fun e w' => e = .returned (.tuple #[.int .i64 (a * b), .bool true]) ∧ w' = w := by
  have hm := Ybad.bits_Mul64 a.natAbs b.natAbs (by omega) (by omega) w
  obtain ⟨q, hq⟩ : ∃ q, q = a.natAbs * b.natAbs := ⟨_, rfl⟩
  rw [← hq, Nat.div_eq_of_lt (by omega), Nat.mod_eq_of_lt (by omega)] at hm
  rw [← hq] at hab
  have t1 : decide ((9223372036854775807 : Int) < (q : Int)) = false := decide_eq_false (by omega)
  have cv : IntKind.i64.wrap (q : Int) = (q : Int) := by simp [IntKind.wrap, IntKind.bits, IntKind.signed]; omega
  have cn : IntKind.i64.wrap (-(q : Int)) = -(q : Int) := by simp [IntKind.wrap, IntKind.bits, IntKind.signed]; omega
  have hsame : (decide (a < 0) = decide (b < 0)) → a * b = (q : Int) := fun h => by
    rw [hq, Int.natCast_mul]
    by_cases ha : a < 0
    · have hb : b < 0 := by simpa [ha] using h
      have e1 : (a.natAbs : Int) = -a := by omega
      have e2 : (b.natAbs : Int) = -b := by omega
      rw [e1, e2, Int.neg_mul_neg]
    · have hb : ¬ b < 0 := by simpa [ha] using h
      have e1 : (a.natAbs : Int) = a := by omega
      have e2 : (b.natAbs : Int) = b := by omega
      rw [e1, e2]
  have hdiff : (decide (a < 0) = !decide (b < 0)) → a * b = -(q : Int) := fun h => by
    rw [hq, Int.natCast_mul]
    by_cases ha : a < 0
    · have hb : ¬ b < 0 := by simpa [ha] using h
      have e1 : (a.natAbs : Int) = -a := by omega
      have e2 : (b.natAbs : Int) = b := by omega
      rw [e1, e2, Int.neg_mul, Int.neg_neg]
    · have hb : b < 0 := by simpa [ha] using h
      have e1 : (a.natAbs : Int) = a := by omega
      have e2 : (b.natAbs : Int) = -b := by omega
      rw [e1, e2, Int.mul_neg, Int.neg_neg]
  obtain ⟨sa, hsa⟩ : ∃ sa, decide (a < 0) = sa := ⟨_, rfl⟩
  obtain ⟨sb, hsb⟩ : ∃ sb, decide (b < 0) = sb := ⟨_, rfl⟩
  rw [hsa, hsb] at hsame hdiff
  have e1 := abs_any a w ha1 ha2
  have e2 := abs_any b w hb1 hb2
  generalize a.natAbs = x at e1 hm hq
  generalize b.natAbs = y at e2 hm hq
  cases sa <;> cases sb
  · rw [hsame rfl]
    clear hsame hdiff hq
    go_enter Ybad.func10, Ybad.ntmps10
    go_wp2_with fail
    refine e1.mono ?_
    rintro e w' ⟨rfl, rfl⟩
    go_wp2_with fail
    refine e2.mono ?_
    rintro e w' ⟨rfl, rfl⟩
    go_wp2_with fail
    refine hm.mono ?_
    rintro e w' ⟨rfl, rfl⟩
    go_wp2
    go_ret2
    exact ⟨rfl, rfl⟩
  · rw [hdiff rfl]
    clear hsame hdiff hq
    go_enter Ybad.func10, Ybad.ntmps10
    go_wp2_with fail
    refine e1.mono ?_
    rintro e w' ⟨rfl, rfl⟩
    go_wp2_with fail
    refine e2.mono ?_
    rintro e w' ⟨rfl, rfl⟩
    go_wp2_with fail
    refine hm.mono ?_
    rintro e w' ⟨rfl, rfl⟩
    go_wp2
    go_ret2
    exact ⟨rfl, rfl⟩
  · rw [hdiff rfl]
    clear hsame hdiff hq
    go_enter Ybad.func10, Ybad.ntmps10
    go_wp2_with fail
    refine e1.mono ?_
    rintro e w' ⟨rfl, rfl⟩
    go_wp2_with fail
    refine e2.mono ?_
    rintro e w' ⟨rfl, rfl⟩
    go_wp2_with fail
    refine hm.mono ?_
    rintro e w' ⟨rfl, rfl⟩
    go_wp2
    go_ret2
    exact ⟨rfl, rfl⟩
  · rw [hsame rfl]
    clear hsame hdiff hq
    go_enter Ybad.func10, Ybad.ntmps10
    go_wp2_with fail
    refine e1.mono ?_
    rintro e w' ⟨rfl, rfl⟩
    go_wp2_with fail
    refine e2.mono ?_
    rintro e w' ⟨rfl, rfl⟩
    go_wp2_with fail
    refine hm.mono ?_
    rintro e w' ⟨rfl, rfl⟩
    go_wp2
    go_ret2
    exact ⟨rfl, rfl⟩

/-- the state of Stein's loop -/
def Stein (G a b : Nat) : Prop := a % 2 = 1 ∧ a < 18446744073709551616 ∧ b < 18446744073709551616 ∧ Nat.gcd a b = G

set_option maxHeartbeats 1000000 in
set_option maxRecDepth 100000 in
theorem gcd_any (x y : Nat) (w : World) (hx : x < 18446744073709551616) (hy : y < 18446744073709551616) (hT : TabAt w) :
    Calls Ybad.prog 9 #[.int .u64 x, .int .u64 y] w fun e w' => e = .returned (.int .u64 (Nat.gcd x y)) ∧ w' = w := by
  by_cases h0 : x = 0
  · subst h0
    have e0 : bits .or .u64 0 (y : Int) = (y : Int) := by have := bits_or_u64_nat 0 y (by decide) hy; simpa using this
    clear hT
    go_enter Ybad.func9, Ybad.ntmps9
    go_wp2
    go_ret
    exact ⟨by simp, rfl⟩
  by_cases h1 : y = 0
  · subst h1
    have t0 : ((x : Int) == 0) = false := by simp; omega
    have e0 : bits .or .u64 (x : Int) 0 = (x : Int) := by have := bits_or_u64_nat x 0 hx (by decide); simpa using this
    clear hT
    go_enter Ybad.func9, Ybad.ntmps9
    go_wp2
    go_ret
    exact ⟨by simp, rfl⟩
  have t0 : ((x : Int) == 0) = false := by simp; omega
  have t1 : ((y : Int) == 0) = false := by simp; omega
  by_cases h2 : x = 1
  · subst h2
    clear hT
    go_enter Ybad.func9, Ybad.ntmps9
    go_wp2
    go_ret
    exact ⟨by simp, rfl⟩
  have t2 : ((x : Int) == 1) = false := by simp; omega
  by_cases h3 : y = 1
  · subst h3
    clear hT
    go_enter Ybad.func9, Ybad.ntmps9
    go_wp2
    go_ret
    exact ⟨by simp, rfl⟩
  have t3 : ((y : Int) == 1) = false := by simp; omega
  obtain ⟨A, hA, ex, dx, lx⟩ := ctz_parts x hx h0
  obtain ⟨B, hB, ey, dy, ly⟩ := ctz_parts y hy h1
  obtain ⟨hG, hne, hlt⟩ := ctz_or x y A B hx hy h0 h1 hA hB ex ey
  have eor := bits_or_u64_nat x y hx hy
  have c1 := tz64_any (x ||| y) hlt hne w hT
  have c2 := tz64_any x hx h0 w hT
  generalize x ||| y = o at hG eor c1 hlt hne
  generalize hk : Lib.ctz 64 o = k at hG c1
  generalize hi : Lib.ctz 64 x = i at ex dx lx c2
  have HG := show Hid (Nat.gcd A B * 2 ^ k = Nat.gcd x y) from hG
  have Hx := show Hid (A % 2 = 1 ∧ x = 2 ^ i * A ∧ x / 2 ^ i = A) from ⟨hA, ex, dx⟩
  have Hy := show Hid (B % 2 = 1 ∧ y = 2 ^ Lib.ctz 64 y * B) from ⟨hB, ey⟩
  have sx : (x : Int) / 2 ^ i = (A : Int) := by have h := congrArg Int.ofNat dx; simpa using h
  have hA64 : A < 18446744073709551616 := by rw [← dx]; exact Nat.lt_of_le_of_lt (Nat.div_le_self _ _) hx
  have hgy : Nat.gcd A y = Nat.gcd A B := by rw [ey]; exact gcd_shift A B _ hA
  have hS : Stein (Nat.gcd A B) A y := ⟨hA, hA64, hy, hgy⟩
  have lk : k < 64 := by rw [← hk]; exact (ctz_parts o hlt hne).choose_spec.2.2.2
  have lx1 : (i : Int) < 64 := by omega
  have lx0 : (0 : Int) ≤ (i : Int) := by omega
  clear hG hA ex dx hB ey dy ly hk hi hlt hne h0 h1 h2 h3
  go_enter Ybad.func9, Ybad.ntmps9
  go_wp2_with fail
  refine c1.mono ?_
  rintro e w' ⟨rfl, rfl⟩
  go_wp2_with fail
  refine c2.mono ?_
  rintro e w' ⟨rfl, rfl⟩
  clear c1 c2 hgy
  go_wp2_with fail
  clear sx eor lx1 lx0 Hx Hy
  generalize Nat.gcd A B = G1 at HG hS
  go_loopw [0, 1] (fun va vb w2 => ∃ a b : Nat, va = .int .u64 a ∧ vb = .int .u64 b ∧ Stein G1 a b ∧ w2 = w') (fun va vb _ => (intOf va + intOf vb).toNat)
  case atStart => exact ⟨A, y, rfl, rfl, hS, rfl⟩
  case round =>
    clear hS
    obtain ⟨a, b, rfl, rfl, hS, rfl⟩ := hrel
    by_cases hb : b = 0
    · subst hb
      obtain ⟨ha, ha2, -, hg⟩ := hS
      rw [Nat.gcd_zero_right] at hg
      subst hg
      have hle : Nat.gcd x y < 18446744073709551616 := Nat.lt_of_le_of_lt (Nat.gcd_le_left _ (by simp at t0; omega)) hx
      have s1 : (a : Int) * 2 ^ k = (Nat.gcd x y : Nat) := by have h := congrArg Int.ofNat HG.out; simpa using h
      have s2 : IntKind.u64.wrap ((Nat.gcd x y : Nat) : Int) = ((Nat.gcd x y : Nat) : Int) := by rw [IntKind.wrap_u64]; omega
      have k1 : (k : Int) < 64 := by omega
      have k0 : (0 : Int) ≤ (k : Int) := by omega
      generalize hgg : Nat.gcd x y = gxy at s1 s2
      have Hgg := show Hid (Nat.gcd x y = gxy) from hgg
      clear ha HG hle hgg
      go_wp2
      go_ret
      exact ⟨by rw [Hgg.out]; rfl, rfl⟩
    · have hb0 : ((b : Int) == 0) = false := by simp; omega
      have hb1 : ((b : Int) != 0) = true := by simp; omega
      obtain ⟨ha, ha2, hb2, hg⟩ := hS
      obtain ⟨b', hb', eb, db, lb⟩ := ctz_parts b hb2 hb
      have c3 := tz64_any b hb2 hb wr hT
      generalize Lib.ctz 64 b = c at eb db lb c3
      have sb : (b : Int) / 2 ^ c = (b' : Int) := by have h := congrArg Int.ofNat db; simpa using h
      have hg2 : Nat.gcd a b' = G1 := by rw [← hg, eb]; exact (gcd_shift a b' c ha).symm
      have hle : b' ≤ b := by rw [← db]; exact Nat.div_le_self _ _
      have Hf := show Hid (a % 2 = 1 ∧ b' % 2 = 1 ∧ Nat.gcd a b' = G1 ∧ b' ≤ b) from ⟨ha, hb', hg2, hle⟩
      have lc1 : (c : Int) < 64 := by omega
      have lc0 : (0 : Int) ≤ (c : Int) := by omega
      clear ha hb' hg2 hle hg eb db HG
      by_cases hlt : b' < a
      · have tl : decide ((b' : Int) < (a : Int)) = true := decide_eq_true (by omega)
        obtain ⟨d, hd⟩ : ∃ d, d = a - b' := ⟨_, rfl⟩
        have sd : (a : Int) - (b' : Int) = (d : Int) := by omega
        have sw : IntKind.u64.wrap (d : Int) = (d : Int) := by rw [IntKind.wrap_u64]; omega
        have Hd := show Hid (d = a - b') from hd
        clear hd
        go_wp2_with fail
        refine c3.mono ?_
        rintro e w5 ⟨rfl, rfl⟩
        clear c3
        go_wp2
        have hd := Hd.out
        obtain ⟨fa, fb, fg, fl⟩ := Hf.out
        go_roundw
        case rel => exact ⟨b', d, rfl, rfl, ⟨fb, by omega, by omega, by rw [hd, Nat.gcd_sub_self_right (by omega), Nat.gcd_comm]; exact fg⟩, by first | rfl | trivial⟩
        case measure => simp only [intOf]; omega
      · have tl : decide ((b' : Int) < (a : Int)) = false := decide_eq_false (by omega)
        obtain ⟨d, hd⟩ : ∃ d, d = b' - a := ⟨_, rfl⟩
        have sd : (b' : Int) - (a : Int) = (d : Int) := by omega
        have hb64 : b' < 18446744073709551616 := by have := Hf.out.2.2.2; omega
        have sw : IntKind.u64.wrap (d : Int) = (d : Int) := by rw [IntKind.wrap_u64]; omega
        have Hd := show Hid (d = b' - a) from hd
        clear hd
        go_wp2_with fail
        refine c3.mono ?_
        rintro e w5 ⟨rfl, rfl⟩
        clear c3
        go_wp2
        have hd := Hd.out
        obtain ⟨fa, fb, fg, fl⟩ := Hf.out
        go_roundw
        case rel => exact ⟨a, d, rfl, rfl, ⟨fa, by omega, by omega, by rw [hd, Nat.gcd_sub_self_right (by omega)]; exact fg⟩, by first | rfl | trivial⟩
        case measure => simp only [intOf]; omega
end Go.Proofs.YbulkvsgDoor
