import Derived.Test.YbulkvreNew
set_option linter.unusedVariables false
set_option linter.unusedSimpArgs false
namespace Go.Proofs.Ybulkvre
open Go.RowKit

theorem encN_none (dec : Nat → Nat) (R j : Nat) : ∀ k, (∀ b, j ≤ b → b < j + k → dec b ≠ R) → encN dec (j + k) R = encN dec j R
  | 0, _ => rfl
  | k + 1, h => by
    show encN dec (j + k + 1) R = _
    rw [encN, if_neg (h (j + k) (by omega) (by omega)), encN_none dec R j k (fun b h1 h2 => h b h1 (by omega))]

set_option maxHeartbeats 1000000 in
set_option maxRecDepth 100000 in
theorem any_any (cs : List Value) (dec : Nat → Nat) (r : Int) (w : World) (hl : cs.length = 256) (hc : ∀ b, b < 256 → cs[b]? = some (.int .u8 (dec b))) (hd : ∀ b, dec b < 256) :
    Calls Yba.prog 4 #[.agg cs.toArray, .int .i32 r] w fun e w' => e = .returned (.bool true) ∧ Below w.heap.size w w' := by
  have hi : (Yba.prog.info? 22).map (·.size) = some cs.length := by rw [hl]; exact size22
  have hr : (w.alloc (.cells cs.toArray 22)).rangeAt w.heap.size 0 cs := fun j v hv => by
    rw [Nat.zero_add, World.cell?_alloc_new]; simpa using hv
  have hn : (w.alloc (.cells cs.toArray 22)).heap.size = w.heap.size + 1 := World.size_alloc ..
  go_enter Yba.func4, Yba.ntmps4
  go_wp2_with (refine wpList_load_mid (by rfl) 22 (.tmp 2) (by rfl) w.heap.size 0 (by rfl) cs _ (by exact hr) Yba.underlying22 rfl hi ?_)
  refine (new_any _ cs dec _ hl hc hd).mono ?_
  rintro e w1 ⟨g, rfl, hg, hbel, hd1, he1⟩
  rw [hn] at hg hbel
  have hB : Below w.heap.size w w1 := ((Below.refl w.heap.size w).alloc (Nat.le_refl _) _).trans (hbel.mono (by omega))
  have hD : DecAt w1 w.heap.size 0 dec := fun b hb => by
    rw [hbel.cell (by show w.heap.size < w.heap.size + 1; omega)]
    exact hr b _ (hc b hb)
  clear hr hbel hi hd1 hn hg
  go_wp2_with fail
  refine (enc_any g _ r _ he1).mono ?_
  rintro e w' ⟨rfl, rfl⟩
  clear he1
  by_cases hin : 0 ≤ r ∧ r < 256
  · obtain ⟨R, rfl⟩ : ∃ R : Nat, r = (R : Int) := ⟨r.toNat, by omega⟩
    rw [if_pos hin, decide_eq_true hin, Int.toNat_natCast]
    have e0 : decide ((R : Int) < 0) = false := decide_eq_false (by omega)
    have e1 : decide ((255 : Int) < (R : Int)) = false := decide_eq_false (by omega)
    have cv : IntKind.u8.wrap (R : Int) = (R : Int) := by simp [IntKind.wrap, IntKind.bits, IntKind.signed]; omega
    obtain ⟨X, hX⟩ : ∃ X, X = encN dec 256 R := ⟨_, rfl⟩
    rw [← hX]
    have HX := show Hid (X = encN dec 256 R) from hX
    clear hX
    go_wp2
    go_loopw [8, 9] (fun wt i w2 => ∃ j : Nat, j ≤ 256 ∧ i = .int .i64 ((j : Int) - 1) ∧ wt = .int .u8 0 ∧ w2 = w' ∧ ∀ b, j ≤ b → b < 256 → dec b ≠ R) (fun _ i _ => (intOf i + 1).toNat)
    case atStart => exact ⟨256, by omega, rfl, rfl, rfl, fun b h1 h2 => absurd h1 (by omega)⟩
    case round =>
      obtain ⟨j, hj, rfl, rfl, rfl, hno⟩ := hrel
      match j, hj, hno with
      | 0, hj, hno =>
        have hX0 : X = 0 := by rw [HX.out]; exact encN_none dec R 0 256 (fun b h1 h2 => hno b h1 (by omega))
        subst hX0
        clear hno
        go_wp2
        go_ret
        exact ⟨by simp, hB⟩
      | j + 1, hj, hno =>
        have hjj : (((j + 1 : Nat) : Int) - 1) = (j : Int) := by omega
        rw [hjj]
        have t0 : decide ((0 : Int) ≤ (j : Int)) = true := decide_eq_true (by omega)
        have cJ := hD j (by omega)
        rw [Nat.zero_add] at cJ
        have i1 : (0 : Int) ≤ (j : Int) := by omega
        have i2 : (j : Int) < 256 := by omega
        have Hno := show Hid (∀ b, j + 1 ≤ b → b < 256 → dec b ≠ R) from hno
        clear hno
        obtain ⟨y, hy⟩ : ∃ y, y = dec j := ⟨_, rfl⟩
        rw [← hy] at cJ
        by_cases hyR : y = R
        · subst hyR
          have hXj : X = j := by
            rw [HX.out, show (256 : Nat) = (j + 1) + (255 - j) by omega, encN_none dec y (j + 1) (255 - j) (fun b h1 h2 => Hno.out b h1 (by omega)), encN, if_pos hy.symm]
          subst hXj
          clear hy
          have cj : IntKind.u8.wrap (X : Int) = (X : Int) := by simp [IntKind.wrap, IntKind.bits, IntKind.signed]; omega
          go_wp2
          go_ret
          exact ⟨by simp, hB⟩
        · have t1 : ((y : Int) == (R : Int)) = false := by simp; omega
          have Hy := show Hid (y = dec j) from hy
          clear hy
          go_wp2
          go_roundw
          case rel => exact ⟨j, by omega, by first | rfl | go_num, by first | rfl | trivial, by first | rfl | trivial, fun b h1 h2 => by
            by_cases hbj : b = j
            · rw [hbj, ← Hy.out]; exact hyR
            · exact Hno.out b (by omega) h2⟩
          case measure => simp only [intOf]; omega
  · rw [if_neg hin, decide_eq_false hin]
    by_cases h0 : r < 0
    · have e0 : decide (r < 0) = true := decide_eq_true h0
      go_wp2
      go_ret
      exact ⟨rfl, hB⟩
    · have e0 : decide (r < 0) = false := decide_eq_false h0
      have e1 : decide (255 < r) = true := decide_eq_true (by omega)
      go_wp2
      go_ret
      exact ⟨rfl, hB⟩
end Go.Proofs.Ybulkvre
