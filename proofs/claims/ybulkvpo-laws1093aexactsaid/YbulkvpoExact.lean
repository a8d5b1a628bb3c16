import Derived.Test.YbulkvpoTrip
set_option linter.unusedVariables false
set_option linter.unusedSimpArgs false
namespace Go.Proofs.Ybulkvpo
open Go.RowKit

set_option maxRecDepth 100000 in
theorem byte_any (v k : Nat) (hv : v < 18446744073709551616) (hk : k < 8) (w : World) :
    Calls Yba.prog 6 #[.int .u64 v, .int .i64 k] w fun e w' => e = .returned (.int .u8 (b8 v k)) ∧ w' = w := by
  go_enter Yba.func6, Yba.ntmps6
  go_wp2
  go_ret
  exact ⟨by simp [b8], rfl⟩

/-- byte i of the magic -/
def mg (i : Nat) : Nat := (magic.getD i 0).toNat
theorem HeadAt.mg {w : World} {g E M C : Nat} (h : HeadAt w g E M C) (i : Nat) (hi : i < 16) : w.cell? ⟨g, i, none⟩ = some (.int .u8 (Ybulkvpo.mg i)) := by
  refine h.magic i _ ?_
  have h16 : i = 0 ∨ i = 1 ∨ i = 2 ∨ i = 3 ∨ i = 4 ∨ i = 5 ∨ i = 6 ∨ i = 7 ∨ i = 8 ∨ i = 9 ∨ i = 10 ∨ i = 11 ∨ i = 12 ∨ i = 13 ∨ i = 14 ∨ i = 15 := by omega
  rcases h16 with rfl | rfl | rfl | rfl | rfl | rfl | rfl | rfl | rfl | rfl | rfl | rfl | rfl | rfl | rfl | rfl <;> rfl

theorem HeadAt.drewN {w : World} {g E M C : Nat} (h : HeadAt w g E M C) : ∀ n, HeadAt (w.drewN n) g E M C
  | 0 => h
  | n + 1 => ((h.drewN n) : HeadAt (w.drewN n) g E M C)

theorem wrap_small (m : Nat) (h : m < 64) : IntKind.i64.wrap (m : Int) = (m : Int) := by
  simp [IntKind.wrap, IntKind.bits, IntKind.signed]; omega

theorem mg_str (i : Nat) (hp : i < ({ data := #[97, 109, 101, 110, 100, 115, 45, 108, 105, 115, 116, 105, 110, 103, 49, 10] } : ByteArray).size) :
    (({ data := #[97, 109, 101, 110, 100, 115, 45, 108, 105, 115, 116, 105, 110, 103, 49, 10] } : ByteArray)[i]'hp).toNat = Ybulkvpo.mg i := by
  have hi : i < 16 := hp
  have h16 : i = 0 ∨ i = 1 ∨ i = 2 ∨ i = 3 ∨ i = 4 ∨ i = 5 ∨ i = 6 ∨ i = 7 ∨ i = 8 ∨ i = 9 ∨ i = 10 ∨ i = 11 ∨ i = 12 ∨ i = 13 ∨ i = 14 ∨ i = 15 := by omega
  rcases h16 with rfl | rfl | rfl | rfl | rfl | rfl | rfl | rfl | rfl | rfl | rfl | rfl | rfl | rfl | rfl | rfl <;> rfl

set_option maxHeartbeats 1000000 in
set_option maxRecDepth 100000 in
theorem exact_any (es mk : Int) (E M C : Nat) (w : World) (hE : IntKind.u64.wrap es = (E : Int)) (hM : IntKind.u64.wrap mk = (M : Int)) (hE1 : E < 18446744073709551616) (hM1 : M < 18446744073709551616) (hC1 : C < 18446744073709551616) :
    Calls Yba.prog 3 #[.int .i64 es, .int .i64 mk, .int .u64 C] w fun e w' => e = .returned (.bool true) ∧ Below w.heap.size w w' := by
  have hcell : ∀ (cs : Array Value), cs[1]? = some (.int .i64 es) → (w.alloc (.cells cs 26)).cell? ⟨w.heap.size, 1, none⟩ = some (.int .i64 es) := fun cs h => by
    rw [World.cell?_alloc_new]; exact h
  go_enter Yba.func3, Yba.ntmps3
  go_wp2_with fail
  refine (header_any w.heap.size es mk E M C _ (by rw [World.size_alloc]; omega) (hcell _ rfl) hE hM hE1 hM1 hC1).mono ?_
  rintro e w1 ⟨g, cap, rfl, hbel, hcap, hh0⟩
  have hB1 : Below w.heap.size w w1 := ((Below.refl w.heap.size w).alloc (Nat.le_refl _) _).trans (hbel.mono (by rw [World.size_alloc]; omega))
  have hh : HeadAt w1 g E M C := hh0
  clear hbel hh0 hcell
  go_wp2
  go_loopw [10] (fun i w2 => ∃ j : Nat, j ≤ 16 ∧ i = .int .i64 j ∧ Below w.heap.size w w2 ∧ HeadAt w2 g E M C) (fun i _ => 16 - (intOf i).toNat)
  case atStart => exact ⟨0, by omega, rfl, hB1, hh⟩
  case round =>
    clear hB1 hh
    obtain ⟨j, hj, rfl, hB1, hh⟩ := hrel
    by_cases hlt : j < 16
    · have hd : decide ((j : Int) < 16) = true := decide_eq_true (by omega)
      have cm := hh.mg j hlt
      have i1 : (0 : Int) ≤ (j : Int) := by omega
      have i2 : (j : Int) < 64 := by omega
      have i3 : (j : Int) < 16 := by omega
      go_wp2
      have key := mg_str j
      go_quiet (fail)
      go_wp2
      go_roundw
      case rel => exact ⟨j + 1, by omega, by go_num, below_drewN hB1 _, HeadAt.drewN hh _⟩
      case measure => simp only [intOf]; omega
    · have hd : decide ((j : Int) < 16) = false := decide_eq_false (by omega)
      go_wp2
      clear hd hlt hj
      go_loopw [11] (fun i w2 => ∃ k : Nat, k ≤ 8 ∧ i = .int .i64 k ∧ Below w.heap.size w w2 ∧ HeadAt w2 g E M C) (fun i _ => 8 - (intOf i).toNat)
      case atStart => exact ⟨0, by omega, rfl, hB1, hh⟩
      case round =>
        clear hB1 hh
        obtain ⟨k, hk, rfl, hB1, hh⟩ := hrel
        by_cases hlt2 : k < 8
        · have hd : decide ((k : Int) < 8) = true := decide_eq_true (by omega)
          obtain ⟨m1, hm1⟩ : ∃ m, m = 16 + k := ⟨_, rfl⟩
          obtain ⟨m2, hm2⟩ : ∃ m, m = 24 + k := ⟨_, rfl⟩
          obtain ⟨m3, hm3⟩ : ∃ m, m = 32 + k := ⟨_, rfl⟩
          have c1 := hh.size k _ (be_get E k hlt2)
          have c2 := hh.mark k _ (be_get M k hlt2)
          have c3 := hh.count k _ (be_get C k hlt2)
          rw [← hm1] at c1
          rw [← hm2] at c2
          rw [← hm3] at c3
          have a1 : (16 : Int) + (k : Int) = (m1 : Int) := by omega
          have a2 : (24 : Int) + (k : Int) = (m2 : Int) := by omega
          have a3 : (32 : Int) + (k : Int) = (m3 : Int) := by omega
          have z1 : (0 : Int) ≤ (m1 : Int) := by omega
          have z2 : (0 : Int) ≤ (m2 : Int) := by omega
          have z3 : (0 : Int) ≤ (m3 : Int) := by omega
          have y1 : IntKind.i64.wrap (m1 : Int) = (m1 : Int) := wrap_small m1 (by omega)
          have y2 : IntKind.i64.wrap (m2 : Int) = (m2 : Int) := wrap_small m2 (by omega)
          have y3 : IntKind.i64.wrap (m3 : Int) = (m3 : Int) := wrap_small m3 (by omega)
          have l0 : (k : Int) < 8 := by omega
          have l1 : (m1 : Int) < 64 := by omega
          have l2 : (m2 : Int) < 64 := by omega
          have l3 : (m3 : Int) < 64 := by omega
          clear hm1 hm2 hm3
          go_wp2
          go_region_held3 (fun w' => w'.cell? ⟨g, m1, none⟩ = some (.int .u8 (b8 E k))) (exact c1)
            ((go_at_call 6; refine (byte_any E k hE1 hlt2 _).mono ?_; rintro e w' ⟨rfl, rfl⟩))
          go_wp2
          go_region_held3 (fun w' => w'.cell? ⟨g, m2, none⟩ = some (.int .u8 (b8 M k))) (exact c2)
            ((go_at_call 6; refine (byte_any M k hM1 hlt2 _).mono ?_; rintro e w' ⟨rfl, rfl⟩))
          go_wp2
          go_region_held3 (fun w' => w'.cell? ⟨g, m3, none⟩ = some (.int .u8 (b8 C k))) (exact c3)
            ((go_at_call 6; refine (byte_any C k hC1 hlt2 _).mono ?_; rintro e w' ⟨rfl, rfl⟩))
          go_wp2
          go_roundw
          case rel => exact ⟨k + 1, by omega, by go_num, hB1.drew.drew.drew, hh⟩
          case measure => simp only [intOf]; omega
        · have hd : decide ((k : Int) < 8) = false := decide_eq_false (by omega)
          go_wp2
          clear hd hlt2 hk
          go_loopw [12] (fun i w2 => ∃ k : Nat, k ≤ 24 ∧ i = .int .i64 ((40 + k : Nat) : Int) ∧ Below w.heap.size w w2 ∧ HeadAt w2 g E M C) (fun i _ => 64 - (intOf i).toNat)
          case atStart => exact ⟨0, by omega, rfl, hB1, hh⟩
          case round =>
            clear hB1 hh
            obtain ⟨k, hk, rfl, hB1, hh⟩ := hrel
            by_cases hlt3 : k < 24
            · have c1 := hh.zero k hlt3
              obtain ⟨m, hm⟩ : ∃ m, m = 40 + k := ⟨_, rfl⟩
              rw [← hm] at c1 ⊢
              have hd : decide ((m : Int) < 64) = true := decide_eq_true (by omega)
              have i1 : (0 : Int) ≤ (m : Int) := by omega
              have i2 : (m : Int) < 64 := by omega
              have Hm := show Hid (m = 40 + k) from hm
              clear hm
              go_wp2
              go_roundw
              case rel => exact ⟨k + 1, by omega, by have := Hm.out; rw [show m = 40 + k from this]; go_num, hB1, hh⟩
              case measure => simp only [intOf]; have := Hm.out; omega
            · have hd : decide (((40 + k : Nat) : Int) < 64) = false := decide_eq_false (by omega)
              go_wp2
              go_ret
              exact ⟨rfl, hB1⟩
end Go.Proofs.Ybulkvpo
