import Derived.Test.YbulkvpoRows
import Derived.Test.YbulkvpoShelf
import Derived.WalkKit
import Derived.WalkSpells
import Derived.WalkLawsBesides
import Derived.Lib.SlBytesConst
import Derived.Lib.AppendZerosOnto
import Derived.Lib.EndianMore
import Derived.Deep.QuietTactic
import Derived.BigQuiet
import Derived.Deep.RegionHeld3
set_option linter.unusedVariables false
set_option linter.unusedSimpArgs false
namespace Go.Proofs.Ybulkvpo
open Go.RowKit

def magic : List UInt8 := [97, 109, 101, 110, 100, 115, 45, 108, 105, 115, 116, 105, 110, 103, 49, 10]

theorem info5 : (Yba.prog.info? 5).map (fun i => (i.zero, i.size, i.bytes)) = some (some (.int .u8 0), 1, 1) := by kernel_rfl

/-- the first append: the constant's row has no room -/
theorem be_first (g v : Nat) (hv : v < 18446744073709551616) (olds : List Value) (w : World) (hlo : olds.length = 16) (holds : ∀ j u, olds[j]? = some u → w.cell? ⟨g, 0 + j, none⟩ = some u) :
    Calls Yba.prog 8 #[.agg #[], .slice (some ⟨g, 0, none⟩) 16 16, .int .u64 v] w fun e w' => ∃ g' cap', e = .returned (.slice (some ⟨g', 0, none⟩) 24 cap') ∧
      w'.ownsRow w.heap.size 5 1 (.slice (some ⟨g', 0, none⟩) 24 cap') 24 (olds ++ Lib.byteCells (Lib.beBytes 8 v)) ∧ Below w.heap.size w w' := by
  refine (Yba.binary_BE_AppendUint64_arg g 0 16 16 v hv olds w hlo holds (fun h => by omega) (by omega)).mono ?_
  rintro e w' (⟨h, _⟩ | ⟨_, v', rfl, hown, hbel⟩)
  · omega
  · have h2 := hown.2
    rcases h2 with ⟨_, h0⟩ | ⟨g', cap', cur, rfl, h3, h4⟩
    · omega
    · exact ⟨g', cap', rfl, ⟨hown.1, .inr ⟨g', cap', cur, rfl, by omega, h4⟩⟩, hbel⟩

/-- each later append -/
theorem be_own (B g n cap v : Nat) (hv : v < 18446744073709551616) (xs : List Value) (w : World) (hown : w.ownsRow B 5 1 (.slice (some ⟨g, 0, none⟩) n cap) n xs) (hB : B ≤ w.heap.size) (hn : n ≤ 1000) :
    Calls Yba.prog 8 #[.agg #[], .slice (some ⟨g, 0, none⟩) n cap, .int .u64 v] w fun e w' => ∃ g' cap', e = .returned (.slice (some ⟨g', 0, none⟩) (n + 8) cap') ∧
      w'.ownsRow B 5 1 (.slice (some ⟨g', 0, none⟩) (n + 8) cap') (n + 8) (xs ++ Lib.byteCells (Lib.beBytes 8 v)) ∧ Below B w w' := by
  refine (Yba.binary_BE_AppendUint64 B n v hv _ xs w hown hB (by omega)).mono ?_
  rintro e w' ⟨v', rfl, hown', hbel⟩
  rcases hown'.2 with ⟨_, h0⟩ | ⟨g', cap', cur, rfl, h3, h4⟩
  · omega
  · exact ⟨g', cap', rfl, hown', hbel⟩

theorem setCells_below (b : Nat) : ∀ (vs : List Value) (o : Nat) (w : World) {B : Nat}, B ≤ b → Below B w (w.setCells b o vs)
  | [], _, w, B, _ => Below.refl _ _
  | v :: r, o, w, B, h => ((Below.refl B w).setCell (p := ⟨b, o, none⟩) h v).trans (setCells_below b r (o + 1) _ h)

def zeros (n : Nat) : List Value := List.replicate n (.int .u8 0)

/-- append(head, make([]byte, 24)...) -/
theorem zeros_run (B g cap : Nat) (xs : List Value) (w : World) (hown : w.ownsRow B 5 1 (.slice (some ⟨g, 0, none⟩) 40 cap) 40 xs) (hB : B ≤ w.heap.size) (ty : TypeId) :
    ∃ g' cap' w', (Builtin.append_ #[27, 3] ty #[.slice (some ⟨g, 0, none⟩) 40 cap, .int .i64 24]).run Yba.prog w = .ok (.slice (some ⟨g', 0, none⟩) 64 cap') w' ∧ Below B w w' ∧ 64 ≤ cap' ∧
      ∀ j u, (xs ++ zeros 24)[j]? = some u → w'.cell? ⟨g', j, none⟩ = some u := by
  obtain ⟨i, hi, hz0, hz1, hz2⟩ := info_parts info5
  obtain ⟨hlen, h2⟩ := hown
  rcases h2 with ⟨_, h0⟩ | ⟨g0, cap0, cur, hv, h3, hblk, hnc, hcm, hcs, htake⟩
  · omega
  simp only [Value.slice.injEq, Option.some.injEq, Addr.mk.injEq, and_true, true_and] at hv
  obtain ⟨rfl, rfl⟩ := hv
  have hcell : ∀ j, w.cell? ⟨g, j, none⟩ = cur[j]? := fun j => by simp [World.cell?, hblk]
  have hold : ∀ j u, xs[j]? = some u → w.cell? ⟨g, j, none⟩ = some u := fun j u hu => by
    rw [hcell, ← Array.getElem?_toList]
    rw [← htake, List.getElem?_take] at hu
    split at hu
    · exact hu
    · cases hu
  have hfz : ∀ j, w.frozen? ⟨g, j, none⟩ = false := fun j => by simp [World.frozen?, hblk]
  have hlx : xs.length = 40 := by simpa using hlen
  by_cases hroom : 64 ≤ cap
  · have hst := run_storeCells_cells (P := Yba.prog) g 40 (zeros 24) 0 w (fun j hj => by
      simp [zeros] at hj
      rw [hcell]
      simp [hcs]; omega) (fun j hj => hfz _) (fun v hv => by
      have := List.eq_of_mem_replicate hv
      rw [this]; rfl)
    have hzc : (Builtin.zeroCells (Value.int .u8 0).cells 24).toList = zeros 24 := by kernel_rfl
    have hadd : (⟨g, 0, none⟩ : Addr).add 40 = ⟨g, 40, none⟩ := rfl
    have hw24 : IntKind.i64.wrap 24 = 24 := by decide
    refine ⟨g, cap, w.setCells g 40 (zeros 24), ?_, setCells_below g (zeros 24) 40 w (by omega), hroom, ?_⟩
    · simp [Builtin.append_, run_underlying Yba.underlying27, run_underlying Yba.underlying3, sizeOf, typeInfo, zeroValue, hi, hz0, hz1, hz2, asInt, asIntOf, hw24, hroom, hzc, hadd, hst]
    · intro j u hj
      by_cases hj40 : j < 40
      · rw [List.getElem?_append_left (by omega)] at hj
        rw [World.cell?_setCells_out g _ _ _ _ (fun _ _ => Or.inl hj40)]
        exact hold j u hj
      · rw [List.getElem?_append_right (by omega), hlx] at hj
        have hlt : j - 40 < (zeros 24).length := by
          have := (List.getElem?_eq_some_iff.1 hj).1
          exact this
        have h5 := World.cell?_setCells_in g (zeros 24) 40 w (fun j hj => by
          simp [zeros] at hj
          rw [hcell]
          simp [hcs]; omega) (j - 40) hlt
        have e : 40 + (j - 40) = j := by omega
        rw [e] at h5
        rw [h5, ← hj, List.getElem?_eq_getElem hlt]
  · have hr := Lib.run_append_grow_zeros (P := Yba.prog) w 27 3 ty 5 i (.int .u8 0) .i64 .i64 Yba.underlying27 Yba.underlying3 hi hz0 (some ⟨g, 0, none⟩) 40 cap xs (by
      have := run_firstCells_some (P := Yba.prog) w.drew i.size 40 ⟨g, 0, none⟩ 40 cap xs (by rw [hz1, hlx]) (fun j v hj => by
        have e : (⟨g, 0, none⟩ : Addr).add j = ⟨g, j, none⟩ := by unfold Addr.add; split <;> simp_all
        rw [e]; exact hold j v hj)
      exact this) 24 (by omega) (by rw [hz1]; omega) (by omega) (by omega) (by rw [hz2]; omega) (by
        rw [hz2]
        have := nextslicecap_le (need := 40 + 24) (old := cap) (by omega)
        omega)
    refine ⟨_, _, _, hr, ((Below.refl B w).drew).alloc hB _, grownCap_ge w (40 + 24) cap 5, ?_⟩
    intro j u hj
    have e1 := World.cell?_alloc_new w.drew (xs.toArray ++ Builtin.zeroCells (Value.int .u8 0).cells 24 ++ Builtin.zeroCells (Value.int .u8 0).cells (grownCap w (40 + 24) cap 5 - (40 + 24))) 5 j
    refine Eq.trans e1 ?_
    have hzc : Builtin.zeroCells (Value.int .u8 0).cells 24 = (zeros 24).toArray := by kernel_rfl
    rw [hzc]
    have hjl : j < (xs ++ zeros 24).length := (List.getElem?_eq_some_iff.1 hj).1
    rw [Array.getElem?_append_left (by simpa using hjl), ← Array.getElem?_toList]
    simpa using hj

/-- the 64 cells of a header -/
def headCells (E M C : Nat) : List Value := ((Lib.byteCells magic ++ Lib.byteCells (Lib.beBytes 8 E)) ++ Lib.byteCells (Lib.beBytes 8 M)) ++ Lib.byteCells (Lib.beBytes 8 C) ++ zeros 24

set_option maxHeartbeats 1000000 in
set_option maxRecDepth 100000 in
theorem header_any (lb : Nat) (es mk : Int) (E M C : Nat) (w : World) (hl : lb < w.heap.size) (hc : w.cell? ⟨lb, 1, none⟩ = some (.int .i64 es))
    (hE : IntKind.u64.wrap es = (E : Int)) (hM : IntKind.u64.wrap mk = (M : Int)) (hE1 : E < 18446744073709551616) (hM1 : M < 18446744073709551616) (hC1 : C < 18446744073709551616) :
    Calls Yba.prog 5 #[.pointer (some ⟨lb, 0, none⟩), .int .i64 mk, .int .u64 C] w fun e w' => ∃ g cap, e = .returned (.slice (some ⟨g, 0, none⟩) 64 cap) ∧ Below w.heap.size w w' ∧ 64 ≤ cap ∧
      ∀ j u, (headCells E M C)[j]? = some u → w'.cell? ⟨g, j, none⟩ = some u := by
  have hconv : (convert 27 27 (.slice (some ⟨w.heap.size, 0, none⟩) 16 16)).run Yba.prog (w.alloc (.cells #[.int .u8 97, .int .u8 109, .int .u8 101, .int .u8 110, .int .u8 100, .int .u8 115, .int .u8 45, .int .u8 108, .int .u8 105, .int .u8 115, .int .u8 116, .int .u8 105, .int .u8 110, .int .u8 103, .int .u8 49, .int .u8 10] 5)).drew = .ok (.slice (some ⟨w.heap.size, 0, none⟩) 16 16) (w.alloc (.cells #[.int .u8 97, .int .u8 109, .int .u8 101, .int .u8 110, .int .u8 100, .int .u8 115, .int .u8 45, .int .u8 108, .int .u8 105, .int .u8 115, .int .u8 116, .int .u8 105, .int .u8 110, .int .u8 103, .int .u8 49, .int .u8 10] 5 (16, 17))).drew :=
    Lib.run_convert_bytes_const (P := Yba.prog) w.drew 27 5 #[.int .u8 97, .int .u8 109, .int .u8 101, .int .u8 110, .int .u8 100, .int .u8 115, .int .u8 45, .int .u8 108, .int .u8 105, .int .u8 115, .int .u8 116, .int .u8 105, .int .u8 110, .int .u8 103, .int .u8 49, .int .u8 10] 16 16 Yba.underlying27 Yba.underlying5
  have hmg : ∀ j u, (Lib.byteCells magic)[j]? = some u → (w.alloc (.cells #[.int .u8 97, .int .u8 109, .int .u8 101, .int .u8 110, .int .u8 100, .int .u8 115, .int .u8 45, .int .u8 108, .int .u8 105, .int .u8 115, .int .u8 116, .int .u8 105, .int .u8 110, .int .u8 103, .int .u8 49, .int .u8 10] 5 (16, 17))).drew.cell? ⟨w.heap.size, 0 + j, none⟩ = some u := fun j u hj => by
    rw [Nat.zero_add]
    have := World.cell?_alloc_mark w #[.int .u8 97, .int .u8 109, .int .u8 101, .int .u8 110, .int .u8 100, .int .u8 115, .int .u8 45, .int .u8 108, .int .u8 105, .int .u8 115, .int .u8 116, .int .u8 105, .int .u8 110, .int .u8 103, .int .u8 49, .int .u8 10] 5 (16, 17) j
    refine this.trans ?_
    have e : (#[.int .u8 97, .int .u8 109, .int .u8 101, .int .u8 110, .int .u8 100, .int .u8 115, .int .u8 45, .int .u8 108, .int .u8 105, .int .u8 115, .int .u8 116, .int .u8 105, .int .u8 110, .int .u8 103, .int .u8 49, .int .u8 10] : Array Value) = (Lib.byteCells magic).toArray := by kernel_rfl
    rw [e, List.getElem?_toArray]
    exact hj
  have hbel0 : Below w.heap.size w (w.alloc (.cells #[.int .u8 97, .int .u8 109, .int .u8 101, .int .u8 110, .int .u8 100, .int .u8 115, .int .u8 45, .int .u8 108, .int .u8 105, .int .u8 115, .int .u8 116, .int .u8 105, .int .u8 110, .int .u8 103, .int .u8 49, .int .u8 10] 5 (16, 17))).drew := ((Below.refl w.heap.size w).alloc (Nat.le_refl _) _).drew
  have hlen16 : (Lib.byteCells magic).length = 16 := rfl
  have hmgH := show Hid (∀ j u, (Lib.byteCells magic)[j]? = some u → (w.alloc (.cells #[.int .u8 97, .int .u8 109, .int .u8 101, .int .u8 110, .int .u8 100, .int .u8 115, .int .u8 45, .int .u8 108, .int .u8 105, .int .u8 115, .int .u8 116, .int .u8 105, .int .u8 110, .int .u8 103, .int .u8 49, .int .u8 10] 5 (16, 17))).drew.cell? ⟨w.heap.size, 0 + j, none⟩ = some u) from hmg
  clear hmg
  go_enter Yba.func5, Yba.ntmps5
  go_wp2
  go_region_with (go_at_call 8; refine (be_first w.heap.size E hE1 (Lib.byteCells magic) _ hlen16 (by exact hmgH.out)).mono ?_; rintro e w1 ⟨g1, cap1, rfl, hown1, hbel1⟩)
  all_goals
    have hB1 := hbel0.trans (hbel1.mono hbel0.size)
    have hs1 := hbel1.size
    go_wp2_with fail
    refine (be_own _ g1 24 cap1 M hM1 _ w1 hown1 hs1 (by omega)).mono ?_
    rintro e w2 ⟨g2, cap2, rfl, hown2, hbel2⟩
    have hown2' := show Hid (w2.ownsRow _ 5 1 (.slice (some ⟨g2, 0, none⟩) 32 cap2) 32 _) from hown2
    have hs2 := Nat.le_trans hs1 hbel2.size
    have hB2 := hB1.trans (hbel2.mono hbel0.size)
    clear hown1 hown2 hbel1 hbel2 hB1 hs1
    go_wp2_with fail
    refine (be_own _ g2 32 cap2 C hC1 _ w2 hown2'.out hs2 (by omega)).mono ?_
    rintro e w3 ⟨g3, cap3, rfl, hown3, hbel3⟩
    have hown3' := show Hid (w3.ownsRow _ 5 1 (.slice (some ⟨g3, 0, none⟩) 40 cap3) 40 _) from hown3
    have hs3 := Nat.le_trans hs2 hbel3.size
    have hB3 := hB2.trans (hbel3.mono hbel0.size)
    clear hown2' hown3 hbel3 hB2 hs2
    obtain ⟨g4, cap4, w4, hrun, hbel4, hcap4, hcells⟩ := zeros_run _ g3 cap3 _ w3 hown3'.out hs3 27
    have hB4 := hB3.trans (hbel4.mono hbel0.size)
    have hcells' := show Hid (∀ j u, (headCells E M C)[j]? = some u → w4.cell? ⟨g4, j, none⟩ = some u) from hcells
    clear hown3' hs3 hB3 hbel4 hcells
    go_wp2_with (at_builtin; refine Lib.wpList_append_run _ (by rfl) _ _ 27 3 (by rfl) _ _ (by rfl) (by rfl) _ _ (by exact hrun) ?_)
    go_ret
    exact ⟨g4, cap4, rfl, hB4, hcap4, hcells'.out⟩
end Go.Proofs.Ybulkvpo
