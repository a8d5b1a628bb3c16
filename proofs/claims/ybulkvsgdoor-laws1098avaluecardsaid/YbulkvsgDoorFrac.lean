import Derived.Test.YbulkvsgDoorStein
import Derived.BigQuiet
import Derived.Deep.RegionHeld3
set_option linter.unusedVariables false
set_option linter.unusedSimpArgs false
namespace Go.Proofs.YbulkvsgDoor
open Go.RowKit

theorem TabAt.below {B : Nat} {w w' : World} (h : TabAt w) (hb : Below B w w') (hB : 0 < B) : TabAt w' := fun j hj => (hb.cell (p := ⟨0, j, none⟩) hB).trans (h j hj)
theorem TabAt.pos {w : World} (h : TabAt w) : 0 < w.heap.size := World.block_lt_of_cell? (a := ⟨0, 0, none⟩) _ (h 0 (by decide))
theorem TabAt.alloc {w : World} (h : TabAt w) (o : Obj) : TabAt (w.alloc o) := fun j hj => (World.cell?_alloc_lt _ _ _ h.pos).trans (h j hj)

set_option maxHeartbeats 1000000 in
set_option maxRecDepth 100000 in
theorem euclid_any (x y : Int) (w : World) (hx1 : -9223372036854775808 < x) (hx2 : x < 9223372036854775808) (hy1 : 0 < y) (hy2 : y < 9223372036854775808) :
    Calls Ybad.prog 6 #[.int .i64 x, .int .i64 y] w fun e w' => e = .returned (.int .i64 (Nat.gcd x.natAbs y.natAbs : Nat)) ∧ Below w.heap.size w w' := by
  have ty : decide (y < 0) = false := decide_eq_false (by omega)
  obtain ⟨Y, rfl⟩ : ∃ Y : Nat, y = Y := ⟨y.toNat, by omega⟩
  have main : ∀ X : Nat, X = x.natAbs → X < 9223372036854775808 := fun X h => by omega
  obtain ⟨X, hX⟩ : ∃ X, X = x.natAbs := ⟨_, rfl⟩
  have hX2 := main X hX
  clear main
  rw [← hX, Int.natAbs_natCast]
  have en : x < 0 → IntKind.i64.wrap (-x) = (X : Int) := fun h => by simp [IntKind.wrap, IntKind.bits, IntKind.signed]; omega
  have ep : ¬ x < 0 → x = (X : Int) := fun h => by omega
  clear hX
  by_cases h0 : x < 0
  · have tx : decide (x < 0) = true := decide_eq_true h0
    have e1 := en h0
    clear en ep
    go_enter Ybad.func6, Ybad.ntmps6
    go_wp2_with fail
    clear ty tx e1
    obtain ⟨G, hG⟩ : ∃ G, G = Nat.gcd X Y := ⟨_, rfl⟩
    have hY2 : Y < 9223372036854775808 := by omega
    go_loopw [0, 1] (fun va vb w2 => ∃ a b : Nat, va = .int .i64 a ∧ vb = .int .i64 b ∧ (a < 9223372036854775808 ∧ b < 9223372036854775808 ∧ Nat.gcd a b = G) ∧ Below w.heap.size w w2) (fun va vb _ => (intOf vb).toNat)
    case atStart => exact ⟨X, Y, rfl, rfl, ⟨hX2, hY2, hG.symm⟩, Below.refl _ _⟩
    case round =>
      obtain ⟨a, b, rfl, rfl, ⟨ha, hb, hg⟩, hB⟩ := hrel
      by_cases hb0 : b = 0
      · subst hb0
        rw [Nat.gcd_zero_right] at hg
        have Hg := show Hid (a = Nat.gcd X Y) from hg.trans hG
        clear hg hG
        go_wp2
        go_ret
        exact ⟨by rw [← Hg.out]; rfl, hB⟩
      · have t0 : ((b : Int) == 0) = false := by simp; omega
        have t1 : ((b : Int) != 0) = true := by simp; omega
        have t2 : ¬ (b : Int) = 0 := by omega
        obtain ⟨m, hm⟩ : ∃ m, m = a % b := ⟨_, rfl⟩
        have sm : (a : Int).tmod (b : Int) = (m : Int) := by rw [hm]; rfl
        have hml : m < b := by rw [hm]; exact Nat.mod_lt _ (by omega)
        have sw : IntKind.i64.wrap (m : Int) = (m : Int) := by simp [IntKind.wrap, IntKind.bits, IntKind.signed]; omega
        have hg2 : Nat.gcd b m = G := by rw [hm, ← hg, Nat.gcd_comm b, ← Nat.gcd_rec, Nat.gcd_comm]
        have Hg2 := show Hid (Nat.gcd b m = G) from hg2
        clear hm hg hg2 hG
        go_wp2_with fail
        go_quiet (fail)
        go_wp2
        go_roundw
        case rel => exact ⟨b, m, rfl, rfl, ⟨hb, by omega, Hg2.out⟩, below_drewN hB _⟩
        case measure => simp only [intOf]; omega
  · have tx : decide (x < 0) = false := decide_eq_false h0
    have e1 := ep h0
    subst e1
    clear en ep
    go_enter Ybad.func6, Ybad.ntmps6
    go_wp2_with fail
    clear ty tx
    obtain ⟨G, hG⟩ : ∃ G, G = Nat.gcd X Y := ⟨_, rfl⟩
    have hY2 : Y < 9223372036854775808 := by omega
    go_loopw [0, 1] (fun va vb w2 => ∃ a b : Nat, va = .int .i64 a ∧ vb = .int .i64 b ∧ (a < 9223372036854775808 ∧ b < 9223372036854775808 ∧ Nat.gcd a b = G) ∧ Below w.heap.size w w2) (fun va vb _ => (intOf vb).toNat)
    case atStart => exact ⟨X, Y, rfl, rfl, ⟨hX2, hY2, hG.symm⟩, Below.refl _ _⟩
    case round =>
      obtain ⟨a, b, rfl, rfl, ⟨ha, hb, hg⟩, hB⟩ := hrel
      by_cases hb0 : b = 0
      · subst hb0
        rw [Nat.gcd_zero_right] at hg
        have Hg := show Hid (a = Nat.gcd X Y) from hg.trans hG
        clear hg hG
        go_wp2
        go_ret
        exact ⟨by rw [← Hg.out]; rfl, hB⟩
      · have t0 : ((b : Int) == 0) = false := by simp; omega
        have t1 : ((b : Int) != 0) = true := by simp; omega
        have t2 : ¬ (b : Int) = 0 := by omega
        obtain ⟨m, hm⟩ : ∃ m, m = a % b := ⟨_, rfl⟩
        have sm : (a : Int).tmod (b : Int) = (m : Int) := by rw [hm]; rfl
        have hml : m < b := by rw [hm]; exact Nat.mod_lt _ (by omega)
        have sw : IntKind.i64.wrap (m : Int) = (m : Int) := by simp [IntKind.wrap, IntKind.bits, IntKind.signed]; omega
        have hg2 : Nat.gcd b m = G := by rw [hm, ← hg, Nat.gcd_comm b, ← Nat.gcd_rec, Nat.gcd_comm]
        have Hg2 := show Hid (Nat.gcd b m = G) from hg2
        clear hm hg hg2 hG
        go_wp2_with fail
        go_quiet (fail)
        go_wp2
        go_roundw
        case rel => exact ⟨b, m, rfl, rfl, ⟨hb, by omega, Hg2.out⟩, below_drewN hB _⟩
        case measure => simp only [intOf]; omega

theorem size25 : (Ybad.prog.info? 25).map (·.size) = some 3 := by kernel_rfl

set_option maxHeartbeats 1000000 in
set_option maxRecDepth 100000 in
theorem reduced_any (num : Int) (den : Nat) (w : World) (hn1 : -9223372036854775808 < num) (hn2 : num < 9223372036854775808) (hd1 : 0 < den) (hd2 : den < 9223372036854775808) (hT : TabAt w) :
    Calls Ybad.prog 8 #[.int .i64 num, .int .i64 den] w fun e w' => e = .returned (.agg #[.int .i64 (num.tdiv (Nat.gcd num.natAbs den : Nat)), .int .i64 ((den : Int).tdiv (Nat.gcd num.natAbs den : Nat)), .pointer none]) ∧ Below w.heap.size w w' := by
  have cd : IntKind.u64.wrap (den : Int) = (den : Int) := by rw [IntKind.wrap_u64]; omega
  have hg0 : 0 < Nat.gcd num.natAbs den := Nat.gcd_pos_of_pos_right _ hd1
  have hgl : Nat.gcd num.natAbs den ≤ den := Nat.gcd_le_right _ hd1
  have cA := fun w' => abs_any num w' hn1 hn2
  have cG := fun w' hT' => gcd_any num.natAbs den w' (by omega) (by omega) hT'
  generalize Nat.gcd num.natAbs den = g at hg0 hgl cG
  have cv : IntKind.i64.wrap (g : Int) = (g : Int) := by simp [IntKind.wrap, IntKind.bits, IntKind.signed]; omega
  have g0 : ((g : Int) == 0) = false := by simp; omega
  have g1 : ¬ g = 0 := by omega
  have hT' := fun o => hT.alloc o
  obtain ⟨n1, hn⟩ : ∃ n1, n1 = num.tdiv (g : Int) := ⟨_, rfl⟩
  obtain ⟨d1, hd⟩ : ∃ d1, d1 = (den : Int).tdiv (g : Int) := ⟨_, rfl⟩
  have ln : n1.natAbs ≤ num.natAbs := by rw [hn, Int.natAbs_tdiv]; exact Nat.div_le_self _ _
  have ld : d1.natAbs ≤ den := by rw [hd, Int.natAbs_tdiv]; exact Nat.div_le_self _ _
  have wn : IntKind.i64.wrap n1 = n1 := by simp [IntKind.wrap, IntKind.bits, IntKind.signed]; omega
  have wd : IntKind.i64.wrap d1 = d1 := by simp [IntKind.wrap, IntKind.bits, IntKind.signed]; omega
  rw [← hn, ← hd]
  have hn' := hn.symm
  have hd' := hd.symm
  clear hn hd ln ld
  go_enter Ybad.func8, Ybad.ntmps8
  go_wp2_with fail
  refine (cA _).mono ?_
  rintro e w2 ⟨rfl, rfl⟩
  go_wp2_with fail
  refine (cG _ (hT' _)).mono ?_
  rintro e w2 ⟨rfl, rfl⟩
  clear cA cG
  go_wp2_with fail
  go_region_held3 (fun w' => True) (trivial) (fail)
  go_wp2
  refine bodyPost_ret (results_cell_row rfl _ _ w.heap.size 25 #[.int .i64 n1, .int .i64 d1, .pointer none] (0, 0) _ rfl (heap_alloc_new w _) Ybad.underlying25 rfl size25) rfl ?_
  exact ⟨rfl, ((Below.refl _ _).alloc (Nat.le_refl _) _).drew⟩
end Go.Proofs.YbulkvsgDoor
