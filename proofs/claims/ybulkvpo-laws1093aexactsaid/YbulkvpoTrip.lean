import Derived.Test.YbulkvpoHead
import Derived.Test.YbulkvpoPlain
import Derived.Laws.BytesArg
set_option linter.unusedVariables false
set_option linter.unusedSimpArgs false
namespace Go.Proofs.Ybulkvpo
open Go.RowKit

/-- the header's cells lie in block g -/
def HeadAt (w : World) (g E M C : Nat) : Prop := ∀ j u, (headCells E M C)[j]? = some u → w.cell? ⟨g, j, none⟩ = some u

theorem bytes_len (v : Nat) : (Lib.byteCells (Lib.beBytes 8 v)).length = 8 := by simp [Lib.byteCells, Lib.beBytes_length]
theorem magic_len : (Lib.byteCells magic).length = 16 := rfl

theorem HeadAt.magic {w : World} {g E M C : Nat} (h : HeadAt w g E M C) (j : Nat) (u : Value) (hj : (Lib.byteCells magic)[j]? = some u) : w.cell? ⟨g, j, none⟩ = some u := by
  have hl := (List.getElem?_eq_some_iff.1 hj).1
  rw [magic_len] at hl
  refine h j u ?_
  unfold headCells
  rw [List.getElem?_append_left (by simp [magic_len, bytes_len]; omega), List.getElem?_append_left (by simp [magic_len, bytes_len]; omega), List.getElem?_append_left (by simp [magic_len, bytes_len]; omega), List.getElem?_append_left (by simp [magic_len]; omega)]
  exact hj
theorem HeadAt.size {w : World} {g E M C : Nat} (h : HeadAt w g E M C) (j : Nat) (u : Value) (hj : (Lib.byteCells (Lib.beBytes 8 E))[j]? = some u) : w.cell? ⟨g, 16 + j, none⟩ = some u := by
  have hl := (List.getElem?_eq_some_iff.1 hj).1
  rw [bytes_len] at hl
  refine h (16 + j) u ?_
  unfold headCells
  rw [List.getElem?_append_left (by simp [magic_len, bytes_len]; omega), List.getElem?_append_left (by simp [magic_len, bytes_len]; omega), List.getElem?_append_left (by simp [magic_len, bytes_len]; omega), List.getElem?_append_right (by simp [magic_len])]
  simpa [magic_len] using hj
theorem HeadAt.mark {w : World} {g E M C : Nat} (h : HeadAt w g E M C) (j : Nat) (u : Value) (hj : (Lib.byteCells (Lib.beBytes 8 M))[j]? = some u) : w.cell? ⟨g, 24 + j, none⟩ = some u := by
  have hl := (List.getElem?_eq_some_iff.1 hj).1
  rw [bytes_len] at hl
  refine h (24 + j) u ?_
  unfold headCells
  rw [List.getElem?_append_left (by simp [magic_len, bytes_len]; omega), List.getElem?_append_left (by simp [magic_len, bytes_len]; omega), List.getElem?_append_right (by simp [magic_len, bytes_len])]
  simpa [magic_len, bytes_len] using hj
theorem HeadAt.count {w : World} {g E M C : Nat} (h : HeadAt w g E M C) (j : Nat) (u : Value) (hj : (Lib.byteCells (Lib.beBytes 8 C))[j]? = some u) : w.cell? ⟨g, 32 + j, none⟩ = some u := by
  have hl := (List.getElem?_eq_some_iff.1 hj).1
  rw [bytes_len] at hl
  refine h (32 + j) u ?_
  unfold headCells
  rw [List.getElem?_append_left (by simp [magic_len, bytes_len]; omega), List.getElem?_append_right (by simp [magic_len, bytes_len])]
  simpa [magic_len, bytes_len] using hj
theorem HeadAt.zero {w : World} {g E M C : Nat} (h : HeadAt w g E M C) (j : Nat) (hj : j < 24) : w.cell? ⟨g, 40 + j, none⟩ = some (.int .u8 0) := by
  refine h (40 + j) _ ?_
  unfold headCells
  rw [List.getElem?_append_right (by simp [magic_len, bytes_len])]
  have e : 40 + j - ((Lib.byteCells Ybulkvpo.magic ++ Lib.byteCells (Lib.beBytes 8 E)) ++ Lib.byteCells (Lib.beBytes 8 M) ++ Lib.byteCells (Lib.beBytes 8 C)).length = j := by simp [magic_len, bytes_len]
  rw [e]
  unfold zeros
  rw [List.getElem?_replicate, if_pos hj]
theorem HeadAt.lt {w : World} {g E M C : Nat} (h : HeadAt w g E M C) : g < w.heap.size := World.block_lt_of_cell? _ _ (h.zero 0 (by decide))
theorem HeadAt.below {w w' : World} {g E M C B : Nat} (h : HeadAt w g E M C) (hb : Below w.heap.size w w') : HeadAt w' g E M C := fun j u hu => (hb.cell (p := ⟨g, j, none⟩) h.lt).trans (h j u hu)

/-- binary.BigEndian.Uint64 of the eight bytes of v -/
theorem be_read (g o n c v : Nat) (hv : v < 18446744073709551616) (w : World) (hn : 8 ≤ n) (hc : ∀ j u, (Lib.byteCells (Lib.beBytes 8 v))[j]? = some u → w.cell? ⟨g, o + j, none⟩ = some u) :
    Calls Yba.prog 7 #[.agg #[], .slice (some ⟨g, o, none⟩) n c] w fun e w' => e = .returned (.int .u64 v) ∧ Below w.heap.size w w' := by
  obtain ⟨b0, b1, b2, b3, b4, b5, b6, b7, e⟩ := be_list v
  have hb := Lib.beNat_beBytes 8 v hv
  rw [e] at hb hc
  refine (Yba.binary_BE_Uint64 g o n c b0 b1 b2 b3 b4 b5 b6 b7 w hn (hc 0 _ rfl) (hc 1 _ rfl) (hc 2 _ rfl) (hc 3 _ rfl) (hc 4 _ rfl) (hc 5 _ rfl) (hc 6 _ rfl) (hc 7 _ rfl)).mono ?_
  rintro e' w' ⟨rfl, h⟩
  rw [hb]
  exact ⟨rfl, h⟩

theorem str_magic (w : World) (g cap E M C : Nat) (h : HeadAt w g E M C) : (convert 27 9 (.slice (some ⟨g, 0, none⟩) 16 cap)).run Yba.prog w =
    .ok (.string { data := #[97, 109, 101, 110, 100, 115, 45, 108, 105, 115, 116, 105, 110, 103, 49, 10] }) w := by
  have := run_convert_bytes_arg (P := Yba.prog) w 27 5 Yba.underlying27 Yba.underlying5 g 0 16 cap (magic.map fun b => ((b.toNat : Nat) : Int)) rfl (fun i hi => by
    rw [Nat.zero_add]
    refine h.magic i _ ?_
    have h16 : i = 0 ∨ i = 1 ∨ i = 2 ∨ i = 3 ∨ i = 4 ∨ i = 5 ∨ i = 6 ∨ i = 7 ∨ i = 8 ∨ i = 9 ∨ i = 10 ∨ i = 11 ∨ i = 12 ∨ i = 13 ∨ i = 14 ∨ i = 15 := by omega
    rcases h16 with rfl | rfl | rfl | rfl | rfl | rfl | rfl | rfl | rfl | rfl | rfl | rfl | rfl | rfl | rfl | rfl <;> rfl) 9 Yba.underlying9
  rw [this]
  rfl

set_option maxHeartbeats 1000000 in
set_option maxRecDepth 100000 in
theorem trip_any (es mk : Int) (E M C : Nat) (w : World) (hE : IntKind.u64.wrap es = (E : Int)) (hM : IntKind.u64.wrap mk = (M : Int)) (hE1 : E < 18446744073709551616) (hM1 : M < 18446744073709551616) (hC1 : C < 18446744073709551616)
    (hback : IntKind.i64.wrap (M : Int) = mk) :
    Calls Yba.prog 4 #[.int .i64 es, .int .i64 mk, .int .u64 C] w fun e w' => e = .returned (.bool true) ∧ Below w.heap.size w w' := by
  have hcell : ∀ (cs : Array Value), cs[1]? = some (.int .i64 es) → (w.alloc (.cells cs 26)).cell? ⟨w.heap.size, 1, none⟩ = some (.int .i64 es) := fun cs h => by
    rw [World.cell?_alloc_new]; exact h
  go_enter Yba.func4, Yba.ntmps4
  go_wp2_with fail
  refine (header_any w.heap.size es mk E M C _ (by rw [World.size_alloc]; omega) (hcell _ rfl) hE hM hE1 hM1 hC1).mono ?_
  rintro e w1 ⟨g, cap, rfl, hbel, hcap, hh0⟩
  have hB1 : Below w.heap.size w w1 := ((Below.refl w.heap.size w).alloc (Nat.le_refl _) _).trans (hbel.mono (by rw [World.size_alloc]; omega))
  have hh : HeadAt w1 g E M C := hh0
  have hstr := str_magic w1 g cap E M C hh
  have q1 : (64 : Int) ≤ (cap : Int) := by omega
  have q2 : ¬ cap = 16 := by omega
  have q3 : ¬ cap = 24 := by omega
  have q4 : ¬ cap = 32 := by omega
  clear hbel hh0 hcell
  go_wp2
  clear hstr
  have hs1 := hh.size
  go_region_held3 (fun w' => HeadAt w' g E M C) (first | exact hh | exact HeadAt.below (B := 0) (w := w1.drew) hh hb2)
    ((go_at_call 7; refine (be_read g 16 48 (cap - 16) E hE1 _ (by omega) (by exact hh.size)).mono ?_; rintro e w2 ⟨rfl, hb2⟩))
  have hh2 : HeadAt w2 g E M C := HeadAt.below (B := 0) (w := w1.drew) hh hb2
  have hB2 : Below w.heap.size w w2 := hB1.drew.trans (hb2.mono hB1.size)
  go_wp2
  go_region_held3 (fun w' => HeadAt w' g E M C) (first | exact hh2 | exact HeadAt.below (B := 0) (w := w2.drew) hh2 hb3)
    ((go_at_call 7; refine (be_read g 24 40 (cap - 24) M hM1 _ (by omega) (by exact hh2.mark)).mono ?_; rintro e w3 ⟨rfl, hb3⟩))
  have hh3 : HeadAt w3 g E M C := HeadAt.below (B := 0) (w := w2.drew) hh2 hb3
  have hB3 : Below w.heap.size w w3 := hB2.drew.trans (hb3.mono hB2.size)
  go_wp2
  go_region_held3 (fun w' => HeadAt w' g E M C) (first | exact hh3 | exact HeadAt.below (B := 0) (w := w3.drew) hh3 hb4)
    ((go_at_call 7; refine (be_read g 32 32 (cap - 32) C hC1 _ (by omega) (by exact hh3.count)).mono ?_; rintro e w4 ⟨rfl, hb4⟩))
  have hB4 : Below w.heap.size w w4 := hB3.drew.trans (hb4.mono hB3.size)
  go_wp2
  go_ret
  exact ⟨by simp, hB4⟩
end Go.Proofs.Ybulkvpo
