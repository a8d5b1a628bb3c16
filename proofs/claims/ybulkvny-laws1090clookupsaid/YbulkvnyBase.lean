import Derived.Test.YbulkvnyRows
import Derived.WalkKit
import Derived.WalkSpells
import Derived.WalkLawsBesides
import Derived.DeepKeys4
import Derived.WideKeyMaps
set_option linter.unusedVariables false
set_option linter.unusedSimpArgs false
namespace Go.Proofs.Ybulkvny
open Go.RowKit

/-- w' is w, but for cells of block b: no block more, no mark turned. -/
structure Touch (b : Nat) (w w' : World) : Prop where
  os : w'.os = w.os
  tape : w'.tape = w.tape
  output : w'.output = w.output
  size : w'.heap.size = w.heap.size
  block : ∀ k, k ≠ b → w'.heap[k]? = w.heap[k]?
  frozen : ∀ a, w'.frozen? a = w.frozen? a

theorem Touch.refl (b : Nat) (w : World) : Touch b w w := ⟨rfl, rfl, rfl, rfl, fun _ _ => rfl, fun _ => rfl⟩
theorem Touch.trans {b : Nat} {u v w : World} (h : Touch b u v) (k : Touch b v w) : Touch b u w :=
  ⟨k.os.trans h.os, k.tape.trans h.tape, k.output.trans h.output, k.size.trans h.size, fun i hi => (k.block i hi).trans (h.block i hi), fun a => (k.frozen a).trans (h.frozen a)⟩
theorem Touch.setCell {b : Nat} {u v : World} (h : Touch b u v) (o : Nat) (x : Value) : Touch b u (v.setCell ⟨b, o, none⟩ x) :=
  h.trans ⟨rfl, rfl, rfl, by simp [World.setCell], fun k hk => Below.heap_setCell _ _ _ _ hk, fun a => World.frozen?_setCell _ _ _ _⟩
theorem Touch.drew {b : Nat} {u v : World} (h : Touch b u v) : Touch b u v.drew := ⟨h.os, h.tape, h.output, h.size, h.block, h.frozen⟩
theorem Touch.cell {b : Nat} {u v : World} (h : Touch b u v) {a : Addr} (ha : a.block ≠ b) : v.cell? a = u.cell? a := World.cell?_of_block (w := u) (h.block a.block ha)
theorem Touch.below {b B : Nat} {u v : World} (h : Touch b u v) (hB : B ≤ b) : Below B u v := ⟨h.os, h.tape, h.output, by rw [h.size]; exact Nat.le_refl _, fun k hk => h.block k (by omega)⟩

/-- w' is w, but for new blocks and cells of block b: no mark turned. -/
structure Keeps (b : Nat) (w w' : World) : Prop where
  os : w'.os = w.os
  tape : w'.tape = w.tape
  output : w'.output = w.output
  size : w.heap.size ≤ w'.heap.size
  block : ∀ k, k < w.heap.size → k ≠ b → w'.heap[k]? = w.heap[k]?
  frozen : ∀ a : Addr, a.block < w.heap.size → w'.frozen? a = w.frozen? a

theorem Keeps.refl (b : Nat) (w : World) : Keeps b w w := ⟨rfl, rfl, rfl, Nat.le_refl _, fun _ _ _ => rfl, fun _ _ => rfl⟩
theorem Keeps.drew {b : Nat} {u v : World} (h : Keeps b u v) : Keeps b u v.drew := ⟨h.os, h.tape, h.output, h.size, h.block, h.frozen⟩
theorem Keeps.drewN {b : Nat} {u v : World} (h : Keeps b u v) : ∀ n, Keeps b u (v.drewN n)
  | 0 => h
  | n + 1 => ((h.drewN n) : Keeps b u (v.drewN n)).drew
theorem Keeps.touch {b c : Nat} {u v w : World} (h : Keeps b u v) (t : Touch c v w) (hc : c = b ∨ u.heap.size ≤ c) : Keeps b u w :=
  ⟨t.os.trans h.os, t.tape.trans h.tape, t.output.trans h.output, by rw [t.size]; exact h.size, fun k hk hb => (t.block k (by omega)).trans (h.block k hk hb), fun a ha => (t.frozen a).trans (h.frozen a ha)⟩
theorem Keeps.trans {b : Nat} {u v w : World} (h : Keeps b u v) (t : Keeps b v w) : Keeps b u w :=
  ⟨t.os.trans h.os, t.tape.trans h.tape, t.output.trans h.output, Nat.le_trans h.size t.size, fun k hk hb => (t.block k (Nat.lt_of_lt_of_le hk h.size) hb).trans (h.block k hk hb), fun a ha => (t.frozen a (Nat.lt_of_lt_of_le ha h.size)).trans (h.frozen a ha)⟩
theorem Keeps.setCell {b : Nat} {u v : World} (h : Keeps b u v) {a : Addr} (ha : a.block = b ∨ u.heap.size ≤ a.block) (x : Value) : Keeps b u (v.setCell a x) := by
  refine ⟨h.os, h.tape, h.output, by simpa [World.setCell] using h.size, fun k hk hb => (Below.heap_setCell _ _ _ _ (by omega)).trans (h.block k hk hb), fun p hp => (World.frozen?_setCell _ _ _ _).trans (h.frozen p hp)⟩
theorem Keeps.alloc {b : Nat} {u v : World} (h : Keeps b u v) (o : Obj) : Keeps b u (v.alloc o) := by
  refine ⟨h.os, h.tape, h.output, Nat.le_trans h.size (by simp), fun k hk hb => (Below.heap_alloc _ _ _ (Nat.lt_of_lt_of_le hk h.size)).trans (h.block k hk hb), fun p hp => (World.frozen?_alloc_old _ _ _ (by have := h.size; omega)).trans (h.frozen p hp)⟩
theorem Keeps.cell {b : Nat} {u v : World} (h : Keeps b u v) {a : Addr} (h1 : a.block < u.heap.size) (h2 : a.block ≠ b) : v.cell? a = u.cell? a := World.cell?_of_block (w := u) (h.block a.block h1 h2)
theorem Keeps.below {b B : Nat} {u v : World} (h : Keeps b u v) (h1 : B ≤ u.heap.size) (h2 : B ≤ b) : Below B u v := ⟨h.os, h.tape, h.output, h.size, fun k hk => h.block k (by omega) (by omega)⟩


/-- MessageID with the first byte k -/
def keyV (k : Nat) : Value := .agg #[.int .u8 k, .int .u8 0, .int .u8 0, .int .u8 0, .int .u8 0, .int .u8 0, .int .u8 0, .int .u8 0, .int .u8 0, .int .u8 0, .int .u8 0, .int .u8 0, .int .u8 0, .int .u8 0, .int .u8 0, .int .u8 0, .int .u8 0, .int .u8 0, .int .u8 0, .int .u8 0, .int .u8 0, .int .u8 0, .int .u8 0, .int .u8 0, .int .u8 0, .int .u8 0, .int .u8 0, .int .u8 0, .int .u8 0, .int .u8 0, .int .u8 0, .int .u8 0]

theorem laidOut : laidOutB Yba.prog = true := by kernel_rfl
theorem law44 : WideMaps.KeyLaw Yba.prog 44 := deep_law_laid laidOut (m := 2) (by decide) (of_decide_eq_true (by kernel_rfl)) (by kernel_rfl) (by kernel_rfl)

theorem key_all : ((List.range 256).all fun k => (keyOf Yba.prog 44 (keyV k)).isSome) = true := by kernel_rfl
theorem key_ok (k : Nat) (hk : k < 256) : ∃ l, keyOf Yba.prog 44 (keyV k) = some l := by
  have := List.all_eq_true.1 key_all k (by simpa using hk)
  exact Option.isSome_iff_exists.1 this
theorem key_inj {a b : Nat} (h : keyV a = keyV b) : a = b := by
  unfold keyV at h
  injection h with h
  have := congrArg (fun x : Array Value => x[0]?) h
  simp at this
  omega

end Go.Proofs.Ybulkvny
