import Derived.Test.YbulkvnyBytes
import Derived.Test.YbulkvnyLocks
import Derived.Conc.MuLone
import Derived.Deep.QuietTactic
import Derived.BigQuiet
import Derived.Deep.RegionHeld3
set_option linter.unusedVariables false
set_option linter.unusedSimpArgs false
namespace Go.Proofs.Ybulkvny
open Go.RowKit Go.MuLone

/-- the participant: its lock is free, its map lies in block mb -/
structure Part (w : World) (pb mb : Nat) (V : Nat → Option Value) : Prop where
  mu : w.cell? ⟨pb, 2, none⟩ = some (.int .i32 0)
  fmu : w.frozen? ⟨pb, 2, none⟩ = false
  own : w.cell? ⟨pb, 40, none⟩ = some (.map (some mb))
  map : MapSt w mb V
  ne : mb ≠ pb
  lt : pb < w.heap.size

/-- the 32 cells of a MessageID with the first byte k -/
def keyCells (k : Nat) : List Value := [.int .u8 k, .int .u8 0, .int .u8 0, .int .u8 0, .int .u8 0, .int .u8 0, .int .u8 0, .int .u8 0, .int .u8 0, .int .u8 0, .int .u8 0, .int .u8 0, .int .u8 0, .int .u8 0, .int .u8 0, .int .u8 0, .int .u8 0, .int .u8 0, .int .u8 0, .int .u8 0, .int .u8 0, .int .u8 0, .int .u8 0, .int .u8 0, .int .u8 0, .int .u8 0, .int .u8 0, .int .u8 0, .int .u8 0, .int .u8 0, .int .u8 0, .int .u8 0]
theorem keyCells_len (k : Nat) : (keyCells k).length = 32 := rfl
theorem keyCells_one (k : Nat) : ∀ v ∈ keyCells k, v.oneCell' = true := by
  intro v hv
  simp only [keyCells, List.mem_cons, List.not_mem_nil, or_false] at hv
  rcases hv with rfl | rfl | rfl | rfl | rfl | rfl | rfl | rfl | rfl | rfl | rfl | rfl | rfl | rfl | rfl | rfl | rfl | rfl | rfl | rfl | rfl | rfl | rfl | rfl | rfl | rfl | rfl | rfl | rfl | rfl | rfl | rfl <;> rfl
theorem keyV_cells (k : Nat) : keyV k = .agg (keyCells k).toArray := rfl
theorem size44 : (Yba.prog.info? 44).map (·.size) = some 32 := by kernel_rfl

set_option maxHeartbeats 1000000 in
set_option maxRecDepth 100000 in
theorem envelope_any (pb mb q : Nat) (V : Nat → Option Value) (w : World) (hP : Part w pb mb V) (hq : q < 256) (ao : Option Addr) (n c lo : Nat) (l : List Nat) (ok : Bool)
    (hV : (V q).getD (.slice none 0 0) = .slice ao n c) (hok : (V q).isSome = ok) (hB : Bt lo w ao n l) (hlo : pb < lo) (hn : n ≤ 4096) :
    Calls Yba.prog 4 #[.pointer (some ⟨pb, 0, none⟩), keyV q] w fun e w' => ∃ ao' c', e = .returned (.tuple #[.slice ao' n c', .bool ok]) ∧ Bt w.heap.size w' ao' n l ∧ Keeps pb w w' ∧ (∀ j, w'.cell? ⟨pb, j, none⟩ = w.cell? ⟨pb, j, none⟩) ∧
      (0 < n → ∃ gb, ao' = some ⟨gb, 0, none⟩ ∧ w.heap.size ≤ gb ∧ ∀ j, w'.frozen? ⟨gb, j, none⟩ = false) := by
  have hmu := hP.mu
  have fmu := hP.fmu
  have hown := hP.own
  have hlt := hP.lt
  have hne := hP.ne
  have hB0 : Hid (Bt lo w ao n l) := hB
  have hM := hP.map
  clear hB hP
  have hmu1 : (w.alloc (.cells (keyCells q).toArray 44)).cell? ⟨pb, 2, none⟩ = some (.int .i32 0) := (World.cell?_alloc_old _ _ _ (Nat.ne_of_lt hlt)).trans hmu
  have fmu1 : (w.alloc (.cells (keyCells q).toArray 44)).frozen? ⟨pb, 2, none⟩ = false := (World.frozen?_alloc_old _ _ _ (Nat.ne_of_lt hlt)).trans fmu
  unfold keyV
  go_enter_defers Yba.func4, Yba.ntmps4
  go_wp2_with fail
  refine (lock_free muLib ⟨pb, 2, none⟩ (w.alloc (.cells (keyCells q).toArray 44)) hmu1 fmu1).mono ?_
  rintro e w1 ⟨rfl, hw1⟩
  have hK1 : Keeps pb w w1 := by rw [hw1]; exact ((Keeps.refl pb w).alloc _).setCell (Or.inl rfl) _
  have hmu2 : w1.cell? ⟨pb, 2, none⟩ = some (.int .i32 1) := by rw [hw1]; exact World.cell?_setCell_same _ _ _ hmu1
  have fmu2 : w1.frozen? ⟨pb, 2, none⟩ = false := by rw [hw1]; exact (World.frozen?_setCell _ _ _ _).trans fmu1
  have hown2 : w1.cell? ⟨pb, 40, none⟩ = some (.map (some mb)) := by
    rw [hw1, World.cell?_setCell_other _ _ _ _ (by intro he; injection he with h1 h2 h3; omega), World.cell?_alloc_old _ _ _ (Nat.ne_of_lt hlt)]; exact hown
  have hM2 : MapSt w1 mb V := hM.keeps hK1 hM.lt hne
  have hr2 : w1.rangeAt w.heap.size 0 (keyCells q) := fun j v hj => by
    rw [hw1, World.cell?_setCell_other _ _ _ _ (by intro he; injection he with h1 h2 h3; omega), Nat.zero_add, World.cell?_alloc_new, List.getElem?_toArray]; exact hj
  have hB2 : Bt lo w1 ao n l := hB0.out.keeps hK1 (Or.inl hlo)
  have hz1 : w1.heap.size = w.heap.size + 1 := by rw [hw1]; simp [World.setCell]
  have Hmu := show Hid (w.cell? ⟨pb, 2, none⟩ = some (.int .i32 0)) from hmu
  have Hcells := show Hid (∀ j, j ≠ 2 → w1.cell? ⟨pb, j, none⟩ = w.cell? ⟨pb, j, none⟩) from fun j hj => by
    rw [hw1, World.cell?_setCell_other _ _ _ _ (by intro he; injection he with h1 h2 h3; omega), World.cell?_alloc_old _ _ _ (Nat.ne_of_lt hlt)]
  clear hw1 hmu1 fmu1 hmu fmu hown hM hB0
  have hu := Yba.underlying44
  have hi : (Yba.prog.info? 44).map (·.size) = some (keyCells q).length := size44
  have hl32 : (keyCells q).length = 32 := rfl
  have h1c := keyCells_one q
  have hlk := (show MapSt w1.drew mb V from hM2.of_block rfl).lookup q hq
  rw [hV, hok, keyV_cells] at hlk
  go_wp2_with fail
  go_region_held3 (fun w' => w'.cell? ⟨pb, 40, none⟩ = some (.map (some mb)) ∧ w'.rangeAt w.heap.size 0 (keyCells q) ∧ (Instr.lookup 25 (.map (some mb)) (.agg (keyCells q).toArray) true).run Yba.prog w' = .ok (.tuple #[.slice ao n c, .bool ok]) w') (exact ⟨hown2, hr2, hlk⟩) (fail)
  clear hlk hr2 hu hi hl32 h1c
  have hsrc : Src w1.drew ao n l := ⟨hB2.src.len, hB2.src.cells⟩
  go_wp2_with (at_builtin; refine wpList_copy_nil (by rfl) _ _ (by rfl) _ ao n c l (by rfl) (by rfl) hsrc hn ?_; intro ao' c' w2 hBt hK2 hfr)
  have e1 : w1.drew.heap.size = w.heap.size + 1 := hz1
  rw [e1] at hBt hK2 hfr
  have HBt := show Hid (Bt (w.heap.size + 1) w2 ao' n l) from hBt
  have HK2' := show Hid (Keeps (w.heap.size + 1) w1.drew w2) from hK2
  have HK2 := show Hid (Keeps pb w1.drew w2) from ⟨hK2.os, hK2.tape, hK2.output, hK2.size, fun k hk hb => hK2.block k hk (by rw [e1] at hk; omega), hK2.frozen⟩
  have HFR := show Hid (0 < n → ao' = some ⟨w.heap.size + 1, 0, none⟩ ∧ w.heap.size + 1 < w2.heap.size ∧ ∀ j, w2.frozen? ⟨w.heap.size + 1, j, none⟩ = false) from hfr
  have hmu3 : w2.cell? ⟨pb, 2, none⟩ = some (.int .i32 1) := (hK2.cell (a := ⟨pb, 2, none⟩) (by rw [e1]; show pb < _; omega) (by show pb ≠ _; omega)).trans hmu2
  have fmu3 : w2.frozen? ⟨pb, 2, none⟩ = false := (hK2.frozen ⟨pb, 2, none⟩ (by rw [e1]; show pb < _; omega)).trans fmu2
  clear hBt hK2 hfr
  refine leaves_cons (f := 7) (args := #[.pointer (some ⟨pb, 2, none⟩)]) (by simp) (by simp [go_sem]) ?_
  refine (unlock_deferred muLib ⟨pb, 2, none⟩ .returning _ ?_ ?_).mono ?_
  · exact hmu3
  · exact fmu3
  rintro e u' w3 ⟨rfl, rfl, rfl⟩
  have hKt : Keeps pb w (w2.setCell ⟨pb, 2, none⟩ (.int .i32 0)) := ((hK1.drew).trans (HK2.out)).setCell (Or.inl rfl) _
  refine ⟨_, results_tmp2 rfl _ _ _, ao', c', rfl, ?_, hKt, fun j => ?_, fun h0 => ?_⟩
  · have h3 : Keeps pb w2 (w2.setCell ⟨pb, 2, none⟩ (.int .i32 0)) := (Keeps.refl pb w2).setCell (a := ⟨pb, 2, none⟩) (Or.inl rfl) _
    exact ((HBt.out).keeps h3 (Or.inl (by omega))).mono (by omega)
  · by_cases ej : j = 2
    · rw [ej, World.cell?_setCell_same _ _ _ hmu3]; exact Hmu.out.symm
    · rw [World.cell?_setCell_other _ _ _ _ (by intro he; injection he with h1 h2 h3; omega), HK2'.out.cell (a := ⟨pb, j, none⟩) (by rw [e1]; show pb < _; omega) (by show pb ≠ _; omega)]
      exact Hcells.out j ej
  · obtain ⟨a1, a2, a3⟩ := HFR.out h0
    exact ⟨w.heap.size + 1, a1, by omega, fun j => (World.frozen?_setCell _ _ _ _).trans (a3 j)⟩
end Go.Proofs.Ybulkvny
