import Derived.Test.YbulkvnyDoorLaw1
set_option linter.unusedVariables false
set_option linter.unusedSimpArgs false
namespace Go.Proofs.YbulkvnyDoor
open Go.RowKit Go.Deep

set_option maxHeartbeats 2000000 in
set_option maxRecDepth 100000 in
theorem law_zero (a0 a3 a4 : Nat) (da ra ia : Option Addr) (dn dc db doff rn rc rb roff inn ic ib ioff : Nat) (D R I : Nat → Nat) (w : World)
    (h0 : a0 < 256) (h3 : a3 < 256) (h4 : a4 < 256) (hdn : dn ≤ 4096) (hrn : rn ≤ 4096) (hin : inn ≤ 4096) (hd0 : dn = 0)
    (hD : Arg w .u64 da dn db doff D) (hR : Arg w .u8 ra rn rb roff R) (hI : Arg w .u64 ia inn ib ioff I)
    (hDb : ∀ j, D j < 18446744073709551616) (hRb : ∀ j, R j < 256) (hIb : ∀ j, I j < 18446744073709551616) (hT : TabAt w) (hg : 0 < w.heap.size) :
    Calls Ybad.prog 3 #[.int .u8 a0, .slice da dn dc, .slice ra rn rc, .int .u8 a3, .int .u8 a4, .slice ia inn ic] w fun e w' => e = .returned (.bool true) ∧ Below w.heap.size w w' := by
  have c1 : decide ((4096 : Int) < (dn : Int)) = false := decide_eq_false (by omega)
  have c2 : decide ((4096 : Int) < (rn : Int)) = false := decide_eq_false (by omega)
  have c3 : decide ((4096 : Int) < (inn : Int)) = false := decide_eq_false (by omega)
  have c4 : decide ((0 : Int) < (dn : Int)) = false := decide_eq_false (by omega)
  have c5 : decide (0 < dn) = false := decide_eq_false (by omega)
  have c6 : ¬ (0 < dn) := by omega
  obtain ⟨W, hW⟩ : ∃ W, W = 1 + a0 % 4 := ⟨_, rfl⟩
  have eW : (1 : Int) + (a0 : Int) % 4 = (W : Int) := by omega
  have hW1 : 1 ≤ W := by omega
  have hW4 : W ≤ 4 := by omega
  obtain ⟨q, hq⟩ : ∃ q, q = dn / W := ⟨_, rfl⟩
  have eq1 : (dn : Int) / (W : Int) = (q : Int) := by rw [hq]; simp
  have hq1 : q ≤ 4096 := by rw [hq]; exact Nat.le_trans (Nat.div_le_self _ _) hdn
  obtain ⟨M, hM⟩ : ∃ M, M = (q + 1) * W := ⟨_, rfl⟩
  have eM : ((q : Int) + 1) * (W : Int) = (M : Int) := by rw [hM]; simp
  have hM1 : M ≤ 20000 := by rw [hM]; exact Nat.le_trans (Nat.mul_le_mul (by omega : q + 1 ≤ 4097) hW4) (by decide)
  have HW : Hid (W = 1 + a0 % 4) := hW
  have Hq : Hid (q = dn / W) := hq
  have HM : Hid (M = (q + 1) * W) := hM
  clear hW hq hM
  have Hd0 : Hid (dn = 0) := hd0
  clear hd0
  have hmk := run_make_row' (P := Ybad.prog) 22 24 (.int .u64 0) 8 Ybad.underlying22 info24 rfl .i64 .i64 M (by omega) (by omega)
  go_enter Ybad.func3, Ybad.ntmps3
  have hO2 : Own (w.alloc (.cells (madeCells #[.int .u64 0] M) 24)) w.heap.size .u64 (fun _ => 0) M := Own.made w .u64 M 24
  have hB1 : Below w.heap.size w (w.alloc (.cells (madeCells #[.int .u64 0] M) 24)) := (Below.refl w.heap.size w).alloc (Nat.le_refl _) _
  have hz1 : (w.alloc (.cells (madeCells #[.int .u64 0] M) 24)).heap.size = w.heap.size + 1 := by simp
  have hBfb : ∀ j, (fun _ => 0 : Nat → Nat) j < 18446744073709551616 := fun j => by show (0 : Nat) < _; decide
  generalize (fun _ => 0 : Nat → Nat) = Bf at hO2 hBfb
  have hmk := run_make_row' (P := Ybad.prog) 25 3 (.int .i64 0) 8 Ybad.underlying25 info3 rfl .i64 .i64 rn (by omega) (by omega)
  go_wp2
  clear hmk
  have hOb := hO2.alloc (.cells (madeCells #[.int .i64 0] rn) 3)
  have hOr := Own.made (w.alloc (.cells (madeCells #[.int .u64 0] M) 24)) .i64 rn 3
  have hB2 := hB1.alloc (by rw [hz1]; omega) (.cells (madeCells #[.int .i64 0] rn) 3)
  rw [hz1] at hOr
  have hz2 : ((w.alloc (.cells (madeCells #[.int .u64 0] M) 24)).alloc (.cells (madeCells #[.int .i64 0] rn) 3)).heap.size = w.heap.size + 2 := by rw [World.size_alloc, hz1]
  clear hO2 hB1 hz1
  go_loopw [81] (fun i w2 => ∃ j : Nat, j ≤ rn ∧ i = .int .i64 j ∧ Below w.heap.size w w2 ∧ w2.heap.size = w.heap.size + 2 ∧ Own w2 w.heap.size .u64 Bf M ∧ Own w2 (w.heap.size + 1) .i64 (fun t => if t < j then R t % (q + 1) else 0) rn) (fun i _ => rn - (intOf i).toNat)
  case atStart => exact ⟨0, Nat.zero_le _, rfl, hB2, hz2, hOb, hOr.congr (fun j hj => by simp)⟩
  case round =>
    clear hOb hOr hB2 hz2
    obtain ⟨j2, hj2, rfl, hB2, hz2, hOb, hOr⟩ := hrel
    by_cases hlt2 : j2 < rn
    · have hd2 : decide ((j2 : Int) < (rn : Int)) = true := decide_eq_true (by omega)
      obtain rfl := hR.at' (by omega)
      obtain ⟨rm, hrm⟩ : ∃ x, x = R j2 % (q + 1) := ⟨_, rfl⟩
      have erm : (R j2 : Int) % ((q : Int) + 1) = (rm : Int) := by rw [hrm]; simp
      have hR8 := hRb j2
      have hrm1 : rm < q + 1 := by rw [hrm]; exact Nat.mod_lt _ (by omega)
      have cR := hR.later hB2 j2 hlt2
      have cO := hOr.cell j2 hlt2
      have fO := hOr.fz j2 hlt2
      have oS := hOr.set j2 rm hlt2
      have hN := oS.congr (g := fun t => if t < j2 + 1 then R t % (q + 1) else 0) (fun t ht => by
        by_cases e : t = j2
        · rw [e, Csa.set_same, if_pos (by omega), hrm]
        · rw [Csa.set_other _ _ _ _ e]
          by_cases e2 : t < j2
          · rw [if_pos e2, if_pos (by omega)]
          · rw [if_neg e2, if_neg (by omega)])
      have HN := show Hid (Own (wr.setCell ⟨w.heap.size + 1, j2, none⟩ (.int .i64 rm)) (w.heap.size + 1) .i64 (fun t => if t < j2 + 1 then R t % (q + 1) else 0) rn) from hN
      clear hN oS hrm
      go_wp2
      go_roundw
      case rel => exact ⟨j2 + 1, by omega, by go_num, hB2.setCell (by simp) _, by simpa [World.setCell] using hz2, hOb.other (by simp) _, HN.out⟩
      case measure => simp only [intOf]; omega
    · have hd2 : decide ((j2 : Int) < (rn : Int)) = false := decide_eq_false (by omega)
      have hOr' := hOr.congr (g := fun t => R t % (q + 1)) (fun t ht => by rw [if_pos (by omega)])
      have hrq : ∀ t, (fun t => R t % (q + 1)) t < q + 1 := fun t => Nat.mod_lt _ (by omega)
      generalize (fun t => R t % (q + 1)) = rf at hOr' hrq
      clear hOr
      obtain ⟨wi, hwi⟩ : ∃ x, x = a3 % W := ⟨_, rfl⟩
      have ewi : (a3 : Int) % (W : Int) = (wi : Int) := by rw [hwi]; simp
      have hwi1 : wi < W := by rw [hwi]; exact Nat.mod_lt _ (by omega)
      obtain ⟨sh, hsh⟩ : ∃ x, x = a4 % 64 := ⟨_, rfl⟩
      have esh : (a4 : Int) % 64 = (sh : Int) := by rw [hsh]; simp
      have hsh1 : sh < 64 := by rw [hsh]; exact Nat.mod_lt _ (by omega)
      obtain ⟨C, hC⟩ : ∃ x, x = 64 * W := ⟨_, rfl⟩
      have eC : (64 : Int) * (W : Int) = (C : Int) := by omega
      have hC1 : C ≤ 256 := by omega
      have HC := show Hid (C = 64 * W) from hC
      clear hC hwi hsh
      have hmk := run_make_row' (P := Ybad.prog) 22 24 (.int .u64 0) 8 Ybad.underlying22 info24 rfl .i64 .i64 C (by omega) (by omega)
      go_wp2
      rw [ewi, esh]
      clear hmk ewi esh
      have hOb3 := hOb.alloc (.cells (madeCells #[.int .u64 0] C) 24)
      have hOr3 := hOr'.alloc (.cells (madeCells #[.int .u64 0] C) 24)
      have hOc3 := Own.made wr .u64 C 24
      have hB3 := hB2.alloc (by rw [hz2]; omega) (.cells (madeCells #[.int .u64 0] C) 24)
      rw [hz2] at hOc3
      have hz3 : (wr.alloc (.cells (madeCells #[.int .u64 0] C) 24)).heap.size = w.heap.size + 3 := by rw [World.size_alloc, hz2]
      clear hOb hOr' hB2 hz2
      go_loopw [107] (fun i w3 => ∃ j : Nat, j ≤ C ∧ i = .int .i64 j ∧ Below w.heap.size w w3 ∧ w3.heap.size = w.heap.size + 3 ∧ Own w3 w.heap.size .u64 Bf M ∧ Own w3 (w.heap.size + 1) .i64 rf rn ∧
          Own w3 (w.heap.size + 2) .u64 (fun t => if t < j ∧ t < inn then I t else 0) C) (fun i _ => C - (intOf i).toNat)
      case atStart => exact ⟨0, Nat.zero_le _, rfl, hB3, hz3, hOb3, hOr3, hOc3.congr (fun j hj => by simp)⟩
      case round =>
        clear hOb3 hOr3 hOc3 hB3 hz3
        obtain ⟨j3, hj3, rfl, hB3, hz3, hOb3, hOr3, hOc3⟩ := hrel
        by_cases hlt3 : j3 < C
        · have hd3 : decide ((j3 : Int) < (C : Int)) = true := decide_eq_true (by omega)
          by_cases hin3 : j3 < inn
          · have hd4 : decide ((j3 : Int) < (inn : Int)) = true := decide_eq_true (by omega)
            obtain rfl := hI.at' (by omega)
            have cI := hI.later hB3 j3 hin3
            have cO := hOc3.cell j3 hlt3
            have fO := hOc3.fz j3 hlt3
            have oS := hOc3.set j3 (I j3) hlt3
            have HN := show Hid (Own (wr.setCell ⟨w.heap.size + 2, j3, none⟩ (.int .u64 (I j3))) (w.heap.size + 2) .u64 (fun t => if t < j3 + 1 ∧ t < inn then I t else 0) C) from oS.congr (fun t ht => by
              by_cases e : t = j3
              · rw [e, Csa.set_same, if_pos (by omega)]
              · rw [Csa.set_other _ _ _ _ e]
                by_cases e2 : t < j3 ∧ t < inn
                · rw [if_pos e2, if_pos (by omega)]
                · rw [if_neg e2, if_neg (by omega)])
            clear oS
            obtain ⟨oldc, cO'⟩ : ∃ v, wr.cell? ⟨w.heap.size + 2, j3, none⟩ = some v := ⟨_, cO⟩
            clear cO
            go_wp2
            go_roundw
            case rel => exact ⟨j3 + 1, by omega, by go_num, hB3.setCell (by simp) _, by simpa [World.setCell] using hz3, hOb3.other (by simp) _, hOr3.other (by simp) _, HN.out⟩
            case measure => simp only [intOf]; omega
          · have hd4 : decide ((j3 : Int) < (inn : Int)) = false := decide_eq_false (by omega)
            have HN := show Hid (Own wr (w.heap.size + 2) .u64 (fun t => if t < j3 + 1 ∧ t < inn then I t else 0) C) from hOc3.congr (fun t ht => by
              by_cases e2 : t < j3 ∧ t < inn
              · rw [if_pos e2, if_pos (by omega)]
              · rw [if_neg e2, if_neg (by omega)])
            go_wp2
            go_roundw
            case rel => exact ⟨j3 + 1, by omega, by go_num, hB3, hz3, hOb3, hOr3, HN.out⟩
            case measure => simp only [intOf]; omega
        · have hd3 : decide ((j3 : Int) < (C : Int)) = false := decide_eq_false (by omega)
          have hOc := hOc3.congr (g := fun t => if t < inn then I t else 0) (fun t ht => by
            by_cases e : t < inn
            · rw [if_pos (by omega), if_pos e]
            · rw [if_neg (by omega), if_neg e])
          have hcfb : ∀ t, (fun t => if t < inn then I t else 0) t < 18446744073709551616 := fun t => by
            show (if t < inn then I t else 0) < _
            split
            · exact hIb t
            · decide
          generalize (fun t => if t < inn then I t else 0) = cf at hOc hcfb
          clear hOc3
          have hmk := run_make_row' (P := Ybad.prog) 22 24 (.int .u64 0) 8 Ybad.underlying22 info24 rfl .i64 .i64 C (by omega) (by omega)
          have hOe := Own.made wr .u64 C 24
          rw [hz3] at hOe
          have hOb4 := hOb3.alloc (.cells (madeCells #[.int .u64 0] C) 24)
          have hOr4 := hOr3.alloc (.cells (madeCells #[.int .u64 0] C) 24)
          have hOc4 := hOc.alloc (.cells (madeCells #[.int .u64 0] C) 24)
          have hB4 := hB3.alloc (by rw [hz3]; omega) (.cells (madeCells #[.int .u64 0] C) 24)
          have hz4 : (wr.alloc (.cells (madeCells #[.int .u64 0] C) 24)).heap.size = w.heap.size + 4 := by rw [World.size_alloc, hz3]
          have hcp := copy_run _ _ _ _ _ _ hOe hOc4
          obtain ⟨wt, hwt⟩ : ∃ x, x = 2 ^ sh := ⟨_, rfl⟩
          have hwt1 : wt < 18446744073709551616 := by rw [hwt]; exact Nat.pow_lt_pow_right (by decide) hsh1
          have ewt := wrap_pow sh wt (by rw [← hwt, Nat.mod_eq_of_lt hwt1])
          have HWT := show Hid (wt = 2 ^ sh) from hwt
          clear hwt
          go_wp2
          have ht5 := setCells_keeps (w.heap.size + 3) (cellsOfRow cf C) 0 (wr.alloc (.cells (madeCells #[.int .u64 0] C) 24))
          have hOb5 := hOb4.touch ht5 (by omega)
          have hOr5 := hOr4.touch ht5 (by omega)
          have hOc5 := hOc4.touch ht5 (by omega)
          have hOe5 := (copied _ _ _ _ cf hOe).congr (g := colsOut cf (fun k => Bf (rf k * W + wi)) 0 wi sh) (fun j hj => (colsOut_zero _ _ _ _ _ (hcfb j)).symm)
          have hB5 := hB4.trans (ht5.below (by omega))
          have hz5 := ht5.size.trans hz4
          clear hmk hcp hOe hOb4 hOr4 hOc4 hB4 hz4 hOb3 hOr3 hOc hB3 hz3 ht5 ewt
          go_loopw [133] (fun i w5 => ∃ t : Nat, t ≤ rn ∧ i = .int .i64 t ∧ Below w.heap.size w w5 ∧ w5.heap.size = w.heap.size + 4 ∧ Own w5 w.heap.size .u64 Bf M ∧ Own w5 (w.heap.size + 1) .i64 rf rn ∧
              Own w5 (w.heap.size + 2) .u64 cf C ∧ Own w5 (w.heap.size + 3) .u64 (colsOut cf (fun k => Bf (rf k * W + wi)) t wi sh) C) (fun i _ => rn - (intOf i).toNat)
          case atStart => exact ⟨0, Nat.zero_le _, rfl, hB5, hz5, hOb5, hOr5, hOc5, hOe5⟩
          case round =>
            clear hOb5 hOr5 hOc5 hOe5 hB5 hz5
            obtain ⟨t, ht, rfl, hB5, hz5, hOb5, hOr5, hOc5, hOe5⟩ := hrel
            by_cases hlt5 : t < rn
            · have hd5 : decide ((t : Int) < (rn : Int)) = true := decide_eq_true (by omega)
              have cR := hOr5.cell t hlt5
              have hrt := hrq t
              obtain ⟨a1, ha1⟩ : ∃ x, x = rf t * W := ⟨_, rfl⟩
              have ea1 : (rf t : Int) * (W : Int) = (a1 : Int) := by rw [ha1]; simp
              have ha1M : a1 + wi < M := by
                have h1 : rf t * W ≤ q * W := Nat.mul_le_mul_right _ (by omega)
                have h2 := HM.out
                rw [Nat.add_mul, Nat.one_mul] at h2
                omega
              have cB := hOb5.cell (a1 + wi) ha1M
              have hwd := hBfb (a1 + wi)
              have HWD := show Hid ((fun k => Bf (rf k * W + wi)) t = Bf (a1 + wi)) from by show Bf (rf t * W + wi) = _; rw [ha1]
              clear ha1
              generalize Bf (a1 + wi) = wd at cB hwd HWD
              go_wp2
              have hOe6 := hOe5.congr (g := mixOut cf (fun k => Bf (rf k * W + wi)) t wi sh 0) (fun j hj => (mixOut_start _ _ _ _ _ _).symm)
              clear hOe5 cR cB ea1
              go_loopw [28] (fun b w6 => ∃ bb : Nat, bb ≤ 64 ∧ b = .int .i64 bb ∧ Below w.heap.size w w6 ∧ w6.heap.size = w.heap.size + 4 ∧ Own w6 w.heap.size .u64 Bf M ∧ Own w6 (w.heap.size + 1) .i64 rf rn ∧
                  Own w6 (w.heap.size + 2) .u64 cf C ∧ Own w6 (w.heap.size + 3) .u64 (mixOut cf (fun k => Bf (rf k * W + wi)) t wi sh bb) C) (fun b _ => 64 - (intOf b).toNat)
              case atStart => exact ⟨0, Nat.zero_le _, rfl, hB5, hz5, hOb5, hOr5, hOc5, hOe6⟩
              case round =>
                clear hOb5 hOr5 hOc5 hOe6 hB5 hz5
                obtain ⟨bb, hbb, rfl, hB6, hz6, hOb6, hOr6, hOc6, hOe6⟩ := hrel
                by_cases hlt6 : bb < 64
                · have hd6 : decide ((bb : Int) < 64) = true := decide_eq_true (by omega)
                  have hjC : 64 * wi + bb < C := by have := HC.out; omega
                  have cO := hOe6.cell (64 * wi + bb) hjC
                  have fO := hOe6.fz (64 * wi + bb) hjC
                  have hvb : mixOut cf (fun k => Bf (rf k * W + wi)) t wi sh bb (64 * wi + bb) < 18446744073709551616 := by rw [mixOut_at]; exact colsOut_lt _ _ _ _ _ _ (hcfb _)
                  generalize hov : mixOut cf (fun k => Bf (rf k * W + wi)) t wi sh bb (64 * wi + bb) = ov at cO hvb
                  have Hov := show Hid (mixOut cf (fun k => Bf (rf k * W + wi)) t wi sh bb (64 * wi + bb) = ov) from hov
                  clear hov
                  have hbw := bit_walk wd bb hwd
                  by_cases hbit : Csa.bit wd bb = 0
                  · rw [hbit] at hbw
                    have hbw' : bits .and .u64 ((wd : Int) / 2 ^ bb) 1 = 0 := hbw
                    have HN := show Hid (Own wr (w.heap.size + 3) .u64 (mixOut cf (fun k => Bf (rf k * W + wi)) t wi sh (bb + 1)) C) from hOe6.congr (fun j hj => by
                      rw [mixOut_next _ _ _ _ _ _ _ hlt6, HWD.out, hbit, Nat.zero_mul, Nat.add_zero]
                      split
                      · rename_i e; rw [e, Hov.out, Nat.mod_eq_of_lt hvb]
                      · rfl)
                    clear hbw hbit
                    go_wp2
                    go_roundw
                    case rel => exact ⟨bb + 1, by omega, by go_num, hB6, hz6, hOb6, hOr6, hOc6, HN.out⟩
                    case measure => simp only [intOf]; omega
                  · have hbit1 : Csa.bit wd bb = 1 := by have := Csa.bit_le wd bb; omega
                    rw [hbit1] at hbw
                    have hbw' : bits .and .u64 ((wd : Int) / 2 ^ bb) 1 = 1 := hbw
                    obtain ⟨nv, hnv⟩ : ∃ x, x = (ov + wt) % 18446744073709551616 := ⟨_, rfl⟩
                    have env : IntKind.u64.wrap ((ov : Int) + (wt : Int)) = (nv : Int) := by rw [IntKind.wrap_u64, hnv]; omega
                    have HN := show Hid (Own (wr.setCell ⟨w.heap.size + 3, 64 * wi + bb, none⟩ (.int .u64 nv)) (w.heap.size + 3) .u64 (mixOut cf (fun k => Bf (rf k * W + wi)) t wi sh (bb + 1)) C) from (hOe6.set (64 * wi + bb) nv hjC).congr (fun j hj => by
                      rw [mixOut_next _ _ _ _ _ _ _ hlt6, HWD.out, hbit1, Nat.one_mul, ← HWT.out, Hov.out, ← hnv]
                      split
                      · rename_i e; rw [e, Csa.set_same]
                      · rename_i e; rw [Csa.set_other _ _ _ _ e])
                    clear hbw hbit hbit1 hnv
                    go_wp2
                    go_roundw
                    case rel => exact ⟨bb + 1, by omega, by go_num, hB6.setCell (by simp) _, by simpa [World.setCell] using hz6, hOb6.other (by simp) _, hOr6.other (by simp) _, hOc6.other (by simp) _, HN.out⟩
                    case measure => simp only [intOf]; omega
                · have hd6 : decide ((bb : Int) < 64) = false := decide_eq_false (by omega)
                  have hOe7 := hOe6.congr (g := colsOut cf (fun k => Bf (rf k * W + wi)) (t + 1) wi sh) (fun j hj => by
                    have e : bb = 64 := by omega
                    rw [e, mixOut_end])
                  clear hOe6
                  go_wp2
                  go_roundw
                  case rel => exact ⟨t + 1, by omega, by go_num, hB6, hz6, hOb6, hOr6, hOc6, hOe7⟩
                  case measure => simp only [intOf]; omega
            · have hd5 : decide ((t : Int) < (rn : Int)) = false := decide_eq_false (by omega)
              have hOe7 := hOe5.congr (g := colsOut cf (fun k => Bf (rf k * W + wi)) rn wi sh) (fun j hj => by
                have e : t = rn := by omega
                rw [e])
              clear hOe5
              have hmk := run_make_row' (P := Ybad.prog) 27 24 (.int .u64 0) 8 Ybad.underlying27 info24 rfl .i64 .i64 W (by omega) (by omega)
              go_wp2_with fail
              refine (law_call w wr rn M C W wi sh q Bf rf cf hrn hW1 hW4 hwi1 hsh1 hM1 HM.out HC.out hg hT hB5 hz5 hBfb hrq hcfb hOb5 hOr5 hOc5 hOe7).mono ?_
              rintro e w9 ⟨rfl, hB9, hc9, hOc9, hOe9⟩
              clear hmk hOb5 hOr5 hOc5 hOe7 hB5 hz5
              generalize colsOut cf (fun k => Bf (rf k * W + wi)) rn wi sh = ef at hOc9 hOe9
              go_wp2
              go_loopw [177] (fun i w10 => ∃ j : Nat, j ≤ C ∧ i = .int .i64 j ∧ Below w.heap.size w w10 ∧ w10.cell? ⟨w.heap.size + 4 + 1, 16, none⟩ = some (.slice (some ⟨w.heap.size + 2, 0, none⟩) C C) ∧
                  Own w10 (w.heap.size + 2) .u64 ef C ∧ Own w10 (w.heap.size + 3) .u64 ef C) (fun i _ => C - (intOf i).toNat)
              case atStart => exact ⟨0, Nat.zero_le _, rfl, hB9, hc9, hOc9, hOe9⟩
              case round =>
                clear hB9 hc9 hOc9 hOe9
                obtain ⟨j6, hj6, rfl, hB9, hc9, hOc9, hOe9⟩ := hrel
                by_cases hlt9 : j6 < C
                · have hd9 : decide ((j6 : Int) < (C : Int)) = true := decide_eq_true (by omega)
                  have cC := hOc9.cell j6 hlt9
                  have cE := hOe9.cell j6 hlt9
                  generalize ef j6 = ev at cC cE
                  go_wp2
                  go_quiet (fail)
                  go_wp2
                  go_roundw
                  case rel => exact ⟨j6 + 1, by omega, by go_num, below_drewN hB9 _, hc9, hOc9.drewN _, hOe9.drewN _⟩
                  case measure => simp only [intOf]; omega
                · have hd9 : decide ((j6 : Int) < (C : Int)) = false := decide_eq_false (by omega)
                  go_wp2
                  go_ret
                  exact ⟨rfl, hB9⟩
end Go.Proofs.YbulkvnyDoor
