import Derived.Test.YbulkvrePerm
set_option linter.unusedVariables false
set_option linter.unusedSimpArgs false
namespace Go.Proofs.Ybulkvre
open Go.RowKit

theorem DecAt.lt {w : World} {g o : Nat} {f : Nat → Nat} (h : DecAt w g o f) : g < w.heap.size := World.block_lt_of_cell? _ _ (h 0 (by decide))
theorem DecAt.below {w w' : World} {B g o : Nat} {f : Nat → Nat} (h : DecAt w g o f) (hb : Below B w w') (hB : g < B) : DecAt w' g o f := fun b hb' => (hb.cell (p := ⟨g, o + b, none⟩) hB).trans (h b hb')

set_option maxHeartbeats 1000000 in
set_option maxRecDepth 100000 in
theorem check_any (g : Nat) (cs : List Value) (dec enc : Nat → Nat) (r : Int) (w : World) (hl : cs.length = 256) (hc : ∀ b, b < 256 → cs[b]? = some (.int .u8 (dec b)))
    (h1 : DecAt w g 1 dec) (h2 : DecAt w g 257 enc) (hok : ∀ q, q < 256 → dec (enc q) = q ∧ enc q < 256) :
    Calls Yba.prog 7 #[.pointer (some ⟨g, 0, none⟩), .agg cs.toArray, .int .i32 r] w fun e w' => e = .returned (.bool true) ∧ Below w.heap.size w w' := by
  have hB : Below w.heap.size w (w.alloc (.cells cs.toArray 22)) := (Below.refl _ _).alloc (Nat.le_refl _) _
  have h1' := h1.below hB h1.lt
  have h2' := h2.below hB h2.lt
  have hr : ∀ b, b < 256 → (w.alloc (.cells cs.toArray 22)).cell? ⟨w.heap.size, b, none⟩ = some (.int .u8 (dec b)) := fun b hb => by
    rw [World.cell?_alloc_new]; simpa using hc b hb
  clear h1 h2 hc
  go_enter Yba.func7, Yba.ntmps7
  go_wp2_with fail
  refine (enc_any g enc r _ h2').mono ?_
  rintro e w' ⟨rfl, rfl⟩
  by_cases hin : 0 ≤ r ∧ r < 256
  · obtain ⟨R, rfl⟩ : ∃ R : Nat, r = (R : Int) := ⟨r.toNat, by omega⟩
    rw [if_pos hin, decide_eq_true hin, Int.toNat_natCast]
    have e0 : decide ((R : Int) < 0) = false := decide_eq_false (by omega)
    have e1 : decide ((255 : Int) < (R : Int)) = false := decide_eq_false (by omega)
    have cv : IntKind.u8.wrap (R : Int) = (R : Int) := by simp [IntKind.wrap, IntKind.bits, IntKind.signed]; omega
    obtain ⟨x, hx⟩ : ∃ x, x = enc R := ⟨_, rfl⟩
    have hk := hok R (by omega)
    rw [← hx] at hk ⊢
    have cE := hr x hk.2
    rw [hk.1] at cE
    have i1 : (0 : Int) ≤ (x : Int) := by omega
    have i2 : (x : Int) < 256 := by omega
    have hdx := show Hid (dec x = R ∧ x < 256) from hk
    clear hk hx hr hok h2'
    go_wp2_with fail
    have hx2 := hdx.out.2
    have hx1 := hdx.out.1
    refine (dec_any g dec x _ h1' hx2 (by omega)).mono ?_
    rintro e w2 ⟨rfl, rfl⟩
    rw [hx1]
    clear hx1 hx2 hdx h1'
    go_wp2
    go_ret
    exact ⟨rfl, hB⟩
  · rw [if_neg hin, decide_eq_false hin]
    clear hr hok h1' h2'
    by_cases h0 : r < 0
    · have e0 : decide (r < 0) = true := decide_eq_true h0
      go_wp2
      go_ret
      exact ⟨rfl, hB⟩
    · have e0 : decide (r < 0) = false := decide_eq_false h0
      have e1 : decide (255 < r) = true := decide_eq_true (by omega)
      go_wp2
      go_ret
      exact ⟨rfl, hB⟩

/-- what the law's loop keeps -/
structure Keep (n p g : Nat) (cs : List Value) (dec enc : Nat → Nat) (w w2 : World) : Prop where
  bel : Below n w w2
  le : n ≤ w2.heap.size
  tab : w2.rangeAt p 0 cs
  plt : p < w2.heap.size
  d : DecAt w2 g 1 dec
  e : DecAt w2 g 257 enc

theorem Keep.step {n p g : Nat} {cs : List Value} {dec enc : Nat → Nat} {w w2 w3 : World} (h : Keep n p g cs dec enc w w2) (hb : Below w2.heap.size w2 w3) : Keep n p g cs dec enc w w3 :=
  ⟨h.bel.trans (hb.mono h.le), Nat.le_trans h.le hb.size, fun j v hv => (hb.cell (p := ⟨p, 0 + j, none⟩) h.plt).trans (h.tab j v hv), Nat.lt_of_lt_of_le h.plt hb.size, h.d.below hb h.d.lt, h.e.below hb h.e.lt⟩

set_option maxHeartbeats 1000000 in
set_option maxRecDepth 100000 in
theorem trip_any (mul A : Nat) (r : Int) (w : World) (hm : mul < 256) (hA : A < 256) :
    Calls Yba.prog 3 #[.int .u8 mul, .int .u8 A, .int .i32 r] w fun e w' => e = .returned (.bool true) ∧ Below w.heap.size w w' := by
  have hok : ∀ q, q < 256 → aff (mul ||| 1) A (encN (aff (mul ||| 1) A) 256 q) = q ∧ encN (aff (mul ||| 1) A) 256 q < 256 := fun q hq =>
    encN_hit _ q 256 (aff_onto _ A q (or_one mul hm).2 (or_one mul hm).1 hA hq)
  have hd : ∀ b, aff (mul ||| 1) A b < 256 := aff_lt _ _
  go_enter Yba.func3, Yba.ntmps3
  go_wp2_with fail
  refine (perm_any mul A w hm hA).mono ?_
  rintro e w1 ⟨cs, rfl, hl, hc, hB1⟩
  generalize hdec : aff (mul ||| 1) A = dec at hok hd hc
  generalize henc : encN dec 256 = enc at hok
  have z1 := run_zero22 w1
  have hn1 : (w1.alloc (.cells blank22 22)).heap.size = w1.heap.size + 1 := World.size_alloc ..
  have hi : (Yba.prog.info? 22).map (·.size) = some cs.length := by rw [hl]; exact size22
  have hone : ∀ v ∈ cs, v.oneCell' = true := fun v hv => by
    obtain ⟨b, hb⟩ := List.getElem?_of_mem hv
    have hb2 : b < 256 := by rw [← hl]; exact (List.getElem?_eq_some_iff.1 hb).1
    rw [hc b hb2] at hb
    injection hb with hb
    rw [← hb]; rfl
  have hth : (w1.alloc (.cells blank22 22)).there w1.heap.size 0 256 := fun b hb => by
    rw [World.cell?_alloc_new, World.frozen?_alloc_new, blank22_get _ (by omega)]
    exact ⟨rfl, rfl⟩
  have hst : (storeCells ⟨w1.heap.size, 0, none⟩ cs).run Yba.prog (w1.alloc (.cells blank22 22)) = .ok () ((w1.alloc (.cells blank22 22)).setCells w1.heap.size 0 cs) := by
    have := run_storeCells_cells (P := Yba.prog) w1.heap.size 0 cs 0 (w1.alloc (.cells blank22 22)) (fun j hj => by simpa using (hth j (by omega)).1) (fun j hj => by have := (hth j (by omega)).2; rwa [Nat.zero_add] at this ⊢) hone
    simpa using this
  obtain ⟨w2, hw2⟩ : ∃ w2, w2 = (w1.alloc (.cells blank22 22)).setCells w1.heap.size 0 cs := ⟨_, rfl⟩
  have hr2 : w2.rangeAt w1.heap.size 0 cs := by rw [hw2]; exact World.rangeAt_setCells_same _ _ 0 cs (by rw [hl]; exact hth)
  have hB2 : Below w1.heap.size w1 w2 := by rw [hw2]; exact below_setCells ((Below.refl _ _).alloc (Nat.le_refl _) _) (Nat.le_refl _) cs 0
  rw [← hw2] at hst
  clear hw2 hth hn1
  have hB2' : Below w.heap.size w w2 := hB1.trans (hB2.mono hB1.size)
  go_wp2_with (refine wpList_load_mid (by rfl) 22 (.tmp 7) (by rfl) w1.heap.size 0 (by rfl) cs _ (by exact hr2) Yba.underlying22 rfl hi ?_)
  refine (new_any _ cs dec _ hl hc hd).mono ?_
  rintro e w3 ⟨g, rfl, hg, hB3, hd3, he3⟩
  rw [henc] at he3
  have hplt : w1.heap.size < w2.heap.size := World.block_lt_of_cell? _ _ (hr2 0 _ (hc 0 (by decide)))
  have hk : Keep w.heap.size w1.heap.size g cs dec enc w w3 :=
    ⟨hB2'.trans (hB3.mono hB2'.size), Nat.le_trans hB2'.size hB3.size, fun j v hv => (hB3.cell (p := ⟨w1.heap.size, 0 + j, none⟩) hplt).trans (hr2 j v hv), Nat.lt_of_lt_of_le hplt hB3.size, hd3, he3⟩
  clear hst z1 hr2 hB2 hB2' hB3 hd3 he3 hplt hone hB1 hdec henc hg hd
  generalize w1.heap.size = p at hk
  go_wp2_with fail
  go_loopw [9] (fun i w4 => ∃ j : Nat, j ≤ 258 ∧ i = .int .i32 ((j : Int) - 1) ∧ Keep w.heap.size p g cs dec enc w w4) (fun i _ => (257 - intOf i).toNat)
  case atStart => exact ⟨0, by omega, rfl, hk⟩
  case round =>
    clear hk
    obtain ⟨j, hj, rfl, hk⟩ := hrel
    obtain ⟨q, hq⟩ : ∃ q : Int, q = (j : Int) - 1 := ⟨_, rfl⟩
    rw [← hq]
    have hrp := hk.tab
    by_cases hlt : q ≤ 256
    · have e1 : decide (q ≤ 256) = true := decide_eq_true hlt
      have Hq := show Hid (q = (j : Int) - 1) from hq
      have cv : IntKind.i32.wrap (q + 1) = q + 1 := by simp [IntKind.wrap, IntKind.bits, IntKind.signed]; omega
      clear hq
      go_wp2_with (refine wpList_load_mid (by rfl) 22 (.tmp 7) (by rfl) p 0 (by rfl) cs _ (by exact hrp) Yba.underlying22 rfl hi ?_)
      refine (check_any g cs dec enc q _ hl hc hk.d hk.e hok).mono ?_
      rintro e w5 ⟨rfl, hB5⟩
      have hk5 := hk.step hB5
      clear hrp hk hc hl hok
      go_wp2
      go_roundw
      case rel => exact ⟨j + 1, by have := Hq.out; omega, by have := Hq.out; congr 1; omega, hk5⟩
      case measure => simp only [intOf]; omega
    · have e1 : decide (q ≤ 256) = false := decide_eq_false hlt
      clear hq
      go_wp2_with (refine wpList_load_mid (by rfl) 22 (.tmp 7) (by rfl) p 0 (by rfl) cs _ (by exact hrp) Yba.underlying22 rfl hi ?_)
      refine (check_any g cs dec enc r _ hl hc hk.d hk.e hok).mono ?_
      rintro e w5 ⟨rfl, hB5⟩
      have hk5 := hk.step hB5
      clear hrp hk hc hl hok
      go_wp2
      go_ret
      exact ⟨rfl, hk5.bel⟩
end Go.Proofs.Ybulkvre
