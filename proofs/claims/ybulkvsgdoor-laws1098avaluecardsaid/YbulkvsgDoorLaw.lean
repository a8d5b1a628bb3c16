import Derived.Test.YbulkvsgDoorAdd
set_option linter.unusedVariables false
set_option linter.unusedSimpArgs false
namespace Go.Proofs.YbulkvsgDoor
open Go.RowKit

set_option maxHeartbeats 1000000 in
set_option maxRecDepth 100000 in
theorem law_out (a c : Int) (b d : Nat) (w : World) (h : a < -1048576 ∨ 1048576 < a ∨ c < -1048576 ∨ 1048576 < c) :
    Calls Ybad.prog 3 #[.int .i64 a, .int .u16 b, .int .i64 c, .int .u16 d] w fun e w' => e = .returned (.bool true) ∧ Below w.heap.size w w' := by
  by_cases h1 : a < -1048576
  · have t1 : decide (a < -1048576) = true := decide_eq_true h1
    go_enter Ybad.func3, Ybad.ntmps3
    go_wp2
    go_ret
    exact ⟨rfl, Below.refl _ _⟩
  have t1 : decide (a < -1048576) = false := decide_eq_false h1
  by_cases h2 : 1048576 < a
  · have t2 : decide (1048576 < a) = true := decide_eq_true h2
    go_enter Ybad.func3, Ybad.ntmps3
    go_wp2
    go_ret
    exact ⟨rfl, Below.refl _ _⟩
  have t2 : decide (1048576 < a) = false := decide_eq_false h2
  by_cases h3 : c < -1048576
  · have t3 : decide (c < -1048576) = true := decide_eq_true h3
    go_enter Ybad.func3, Ybad.ntmps3
    go_wp2
    go_ret
    exact ⟨rfl, Below.refl _ _⟩
  have t3 : decide (c < -1048576) = false := decide_eq_false h3
  have t4 : decide (1048576 < c) = true := decide_eq_true (by omega)
  go_enter Ybad.func3, Ybad.ntmps3
  go_wp2
  go_ret
  exact ⟨rfl, Below.refl _ _⟩

set_option maxHeartbeats 1000000 in
set_option maxRecDepth 100000 in
theorem law_in (a c : Int) (b d : Nat) (w : World) (hb : b < 65536) (hd : d < 65536) (hT : TabAt w) (h : ¬ (a < -1048576 ∨ 1048576 < a ∨ c < -1048576 ∨ 1048576 < c)) :
    Calls Ybad.prog 3 #[.int .i64 a, .int .u16 b, .int .i64 c, .int .u16 d] w fun e w' => e = .returned (.bool true) ∧ Below w.heap.size w w' := by
  have t1 : decide (a < -1048576) = false := decide_eq_false (by omega)
  have t2 : decide (1048576 < a) = false := decide_eq_false (by omega)
  have t3 : decide (c < -1048576) = false := decide_eq_false (by omega)
  have t4 : decide (1048576 < c) = false := decide_eq_false (by omega)
  obtain ⟨B, eB⟩ : ∃ B, B = b + 1 := ⟨_, rfl⟩
  obtain ⟨D, eD⟩ : ∃ D, D = d + 1 := ⟨_, rfl⟩
  have sB : (b : Int) + 1 = (B : Int) := by omega
  have sD : (d : Int) + 1 = (D : Int) := by omega
  have wb : IntKind.i64.wrap (b : Int) = (b : Int) := by simp [IntKind.wrap, IntKind.bits, IntKind.signed]; omega
  have wd : IntKind.i64.wrap (d : Int) = (d : Int) := by simp [IntKind.wrap, IntKind.bits, IntKind.signed]; omega
  have wB : IntKind.i64.wrap (B : Int) = (B : Int) := by simp [IntKind.wrap, IntKind.bits, IntKind.signed]; omega
  have wD : IntKind.i64.wrap (D : Int) = (D : Int) := by simp [IntKind.wrap, IntKind.bits, IntKind.signed]; omega
  obtain ⟨G, N, M, hG, hG0, hN, hM, hcall⟩ := addFrac_any a c B D w (by omega) (by omega) (by omega) (by omega) (by omega) (by omega) hT
  have m1 := mul_bound a D (by omega) (by omega)
  have m2 := mul_bound c B (by omega) (by omega)
  have lB : B ≤ 65536 := by omega
  have lD : D ≤ 65536 := by omega
  have m3 : B * D ≤ 4294967296 := Nat.mul_le_mul lB lD
  have m3p : 0 < B * D := Nat.mul_pos (by omega) (by omega)
  have w1 : IntKind.i64.wrap (a * (D : Int)) = a * (D : Int) := by simp [IntKind.wrap, IntKind.bits, IntKind.signed]; omega
  have w2 : IntKind.i64.wrap (c * (B : Int)) = c * (B : Int) := by simp [IntKind.wrap, IntKind.bits, IntKind.signed]; omega
  have w3 : IntKind.i64.wrap (a * (D : Int) + c * (B : Int)) = a * (D : Int) + c * (B : Int) := by simp [IntKind.wrap, IntKind.bits, IntKind.signed]; omega
  have e4 : (B : Int) * (D : Int) = ((B * D : Nat) : Int) := (Int.natCast_mul _ _).symm
  have w4 : IntKind.i64.wrap ((B : Int) * (D : Int)) = ((B * D : Nat) : Int) := by rw [e4]; simp only [IntKind.wrap, IntKind.bits, IntKind.signed]; simp; omega
  have cE := fun w' => euclid_any (a * (D : Int) + c * (B : Int)) ((B * D : Nat) : Int) w' (by omega) (by omega) (by omega) (by omega)
  rw [Int.natAbs_natCast] at cE
  rw [← hG] at cE
  have lN : N.natAbs ≤ (a * (D : Int) + c * (B : Int)).natAbs := by rw [hN, Int.natAbs_tdiv]; exact Nat.div_le_self _ _
  have lM : M.natAbs ≤ B * D := by rw [hM, Int.natAbs_tdiv, Int.natAbs_natCast]; exact Nat.div_le_self _ _
  have wN : IntKind.i64.wrap N = N := by simp [IntKind.wrap, IntKind.bits, IntKind.signed]; omega
  have wM : IntKind.i64.wrap M = M := by simp [IntKind.wrap, IntKind.bits, IntKind.signed]; omega
  clear hG m1 m2 m3 m3p lN lM e4 eB eD
  obtain ⟨n, hn⟩ : ∃ n, n = a * (D : Int) + c * (B : Int) := ⟨_, rfl⟩
  obtain ⟨m, hm⟩ : ∃ m, m = B * D := ⟨_, rfl⟩
  rw [← hn] at cE w3 hN
  rw [← hm] at cE w4 hM
  obtain ⟨x, hx⟩ : ∃ x, x = a * (D : Int) := ⟨_, rfl⟩
  obtain ⟨y, hy⟩ : ∃ y, y = c * (B : Int) := ⟨_, rfl⟩
  rw [← hx] at w1 hn
  rw [← hy] at w2 hn
  have hn' := hn.symm
  have hx' := hx.symm
  have hy' := hy.symm
  clear hn hm hx hy
  have hN' := hN.symm
  have hM' := hM.symm
  clear hN hM
  have g1 : ¬ G = 0 := by omega
  have g2 : ((G : Int) == 0) = false := by simp; omega
  go_enter Ybad.func3, Ybad.ntmps3
  go_wp2_with fail
  refine hcall.mono ?_
  rintro e w5 ⟨rfl, hB5⟩
  clear hcall
  go_wp2_with fail
  refine (cE _).mono ?_
  rintro e w6 ⟨rfl, hB6⟩
  have hz : (w5.alloc (.cells #[.int .i64 N, .int .i64 M, .pointer none] 25)).heap.size = w5.heap.size + 1 := World.size_alloc ..
  have hB6' : Below (w5.heap.size + 1) (w5.alloc (.cells #[.int .i64 N, .int .i64 M, .pointer none] 25)) w6 := by rw [← hz]; exact hB6
  have k0 : w6.cell? ⟨w5.heap.size, 0, none⟩ = some (.int .i64 N) := by
    rw [hB6'.cell (by show w5.heap.size < w5.heap.size + 1; omega), World.cell?_alloc_new]; rfl
  have k1 : w6.cell? ⟨w5.heap.size, 1, none⟩ = some (.int .i64 M) := by
    rw [hB6'.cell (by show w5.heap.size < w5.heap.size + 1; omega), World.cell?_alloc_new]; rfl
  have k2 : w6.cell? ⟨w5.heap.size, 2, none⟩ = some (.pointer none) := by
    rw [hB6'.cell (by show w5.heap.size < w5.heap.size + 1; omega), World.cell?_alloc_new]; rfl
  have hB7 : Below w.heap.size w w6 := (hB5.alloc hB5.size _).trans (hB6'.mono (by have := hB5.size; omega))
  clear hB6 hB6' hz cE hB5
  go_wp2_with fail
  go_quiet (fail)
  go_wp2
  go_ret
  exact ⟨rfl, below_drewN hB7 _⟩
end Go.Proofs.YbulkvsgDoor
