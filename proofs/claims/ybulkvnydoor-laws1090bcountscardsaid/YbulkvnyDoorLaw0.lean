import Derived.Test.YbulkvnyDoorCols
import Derived.Deep.OwnRows
set_option linter.unusedVariables false
set_option linter.unusedSimpArgs false
namespace Go.Proofs.YbulkvnyDoor
open Go.RowKit Go.Deep

theorem info24 : (Ybad.prog.info? 24).map (fun i => (i.zero, i.size, i.bytes)) = some (some (.int .u64 0), 1, 8) := by kernel_rfl
theorem info3 : (Ybad.prog.info? 3).map (fun i => (i.zero, i.size, i.bytes)) = some (some (.int .i64 0), 1, 8) := by kernel_rfl

/-- the call's own row b: n cells, writable -/
structure Own (w : World) (b : Nat) (k : IntKind) (f : Nat → Nat) (n : Nat) : Prop where
  row : Row w b 0 k f n
  fz : ∀ j, j < n → w.frozen? ⟨b, j, none⟩ = false
  lt : b < w.heap.size

theorem Own.cell {w : World} {b : Nat} {k : IntKind} {f : Nat → Nat} {n : Nat} (h : Own w b k f n) (j : Nat) (hj : j < n) : w.cell? ⟨b, j, none⟩ = some (.int k (f j)) := by
  have := h.row j hj
  rwa [Nat.zero_add] at this
theorem Own.set {w : World} {b : Nat} {k : IntKind} {f : Nat → Nat} {n : Nat} (h : Own w b k f n) (i v : Nat) (hi : i < n) : Own (w.setCell ⟨b, i, none⟩ (.int k v)) b k (Csa.set f i v) n := by
  have h1 := h.row.set i v hi
  simp only [Nat.zero_add] at h1
  exact ⟨h1, fun j hj => (World.frozen?_setCell _ _ _ _).trans (h.fz j hj), by simpa [World.setCell] using h.lt⟩
theorem Own.other {w : World} {b : Nat} {k : IntKind} {f : Nat → Nat} {n : Nat} (h : Own w b k f n) {a : Addr} (hb : a.block ≠ b) (v : Value) : Own (w.setCell a v) b k f n :=
  ⟨h.row.other hb v, fun j hj => (World.frozen?_setCell _ _ _ _).trans (h.fz j hj), by simpa [World.setCell] using h.lt⟩
theorem Own.alloc {w : World} {b : Nat} {k : IntKind} {f : Nat → Nat} {n : Nat} (h : Own w b k f n) (o : Obj) : Own (w.alloc o) b k f n :=
  ⟨fun j hj => (World.cell?_alloc_old _ _ _ (Nat.ne_of_lt h.lt)).trans (h.row j hj), fun j hj => (World.frozen?_alloc_old _ _ _ (Nat.ne_of_lt h.lt)).trans (h.fz j hj), Nat.lt_of_lt_of_le h.lt (by simp)⟩
theorem Own.congr {w : World} {b : Nat} {k : IntKind} {f g : Nat → Nat} {n : Nat} (h : Own w b k f n) (e : ∀ j, j < n → f j = g j) : Own w b k g n :=
  ⟨fun j hj => by rw [← e j hj]; exact h.row j hj, h.fz, h.lt⟩
theorem Own.keeps {w w' : World} {b c : Nat} {k : IntKind} {f : Nat → Nat} {n : Nat} (h : Own w b k f n) (t : Keeps c w w') (hbc : b ≠ c) : Own w' b k f n :=
  ⟨h.row.keeps t h.lt hbc, fun j hj => (t.frozen _ h.lt).trans (h.fz j hj), Nat.lt_of_lt_of_le h.lt t.size⟩

theorem Own.made (w : World) (k : IntKind) (n : Nat) (e : TypeId) : Own (w.alloc (.cells (madeCells #[.int k 0] n) e)) w.heap.size k (fun _ => 0) n := by
  refine ⟨fun j hj => ?_, fun j hj => World.frozen?_alloc_at _ _ _ _ rfl, by simp⟩
  rw [Nat.zero_add]
  have h1 := World.cell?_alloc_new w (madeCells #[.int k 0] n) e j
  rw [h1]
  have h2 := toList_madeCells_one (.int k 0) n
  have h3 : (madeCells #[.int k 0] n)[j]? = some (.int k 0) := by
    rw [← Array.getElem?_toList, h2]
    simp [hj]
  rw [h3]; rfl
end Go.Proofs.YbulkvnyDoor
