import Derived.Test.YbulkvnyDoorRows
import Derived.WalkKit
import Derived.WalkSpells
import Derived.WalkLawsBesides
import Derived.Lib.TrailingZeros
import Derived.Test.YbulkvnyDoorPlain
set_option linter.unusedVariables false
set_option linter.unusedSimpArgs false
namespace Go.Proofs.YbulkvnyDoor
open Go.RowKit

/-- the table of math/bits in its variable -/
def TabAt (w : World) : Prop := ∀ j, j < 64 → w.cell? ⟨0, j, none⟩ = some (.int .u8 (Lib.deBruijn64tab.getD j 0))

set_option maxHeartbeats 400000 in
theorem tz64_core (x k idx : Nat) (w : World) (hx0 : ((x : Int) == 0) = false)
    (key : IntKind.u64.wrap (bits BinOp.and IntKind.u64 (x : Int) (IntKind.u64.wrap (-(x : Int))) * 285870213051353865) / 288230376151711744 = (idx : Int))
    (hi : idx < 64) (hk : k < 64) (hcell : w.cell? ⟨0, idx, none⟩ = some (.int .u8 k)) :
    Calls Ybad.prog 7 #[.int .u64 x] w fun e w' => e = .returned (.int .i64 k) ∧ w' = w := by
  go_enter Ybad.func7, Ybad.ntmps7
  go_wp2_with (simp only [key])
  go_ret
  exact ⟨rfl, rfl⟩

theorem tz64_key (x a : Nat) (hx : x < 18446744073709551616) (hx0 : x ≠ 0) (hlow : x &&& (18446744073709551616 - x) = a) :
    IntKind.u64.wrap (bits BinOp.and IntKind.u64 (x : Int) (IntKind.u64.wrap (-(x : Int))) * 285870213051353865) / 288230376151711744 = ((a * 285870213051353865 % 18446744073709551616 / 288230376151711744 : Nat) : Int) := by
  have e1 : IntKind.u64.wrap (-(x : Int)) = ((18446744073709551616 - x : Nat) : Int) := by rw [IntKind.wrap_u64]; omega
  rw [e1, bits_and_u64_nat x _ hx (by omega), hlow, IntKind.wrap_u64]
  omega

/-- math/bits.TrailingZeros64 at a number that is not 0. -/
theorem tz64_any (x : Nat) (hx : x < 18446744073709551616) (hx0 : x ≠ 0) (w : World) (hT : TabAt w) :
    Calls Ybad.prog 7 #[.int .u64 x] w fun e w' => e = .returned (.int .i64 (Lib.ctz 64 x)) ∧ w' = w := by
  obtain ⟨hlow, hk⟩ := Lib.lowest_bit 64 x hx0 hx
  obtain ⟨hi, htab⟩ := Lib.deBruijn64_at _ hk
  have hcell := hT _ hi
  rw [htab] at hcell
  exact tz64_core x _ _ w (by simp; omega) (tz64_key x _ hx hx0 hlow) hi hk hcell

/-- w' is w, but for cells of block b: no block more, no mark turned. -/
structure Touch (b : Nat) (w w' : World) : Prop where
  os : w'.os = w.os
  tape : w'.tape = w.tape
  output : w'.output = w.output
  size : w'.heap.size = w.heap.size
  block : ∀ k, k ≠ b → w'.heap[k]? = w.heap[k]?
  frozen : ∀ a, w'.frozen? a = w.frozen? a

theorem Touch.refl (b : Nat) (w : World) : Touch b w w := ⟨rfl, rfl, rfl, rfl, fun _ _ => rfl, fun _ => rfl⟩
theorem Touch.trans {b : Nat} {u v w : World} (h : Touch b u v) (k : Touch b v w) : Touch b u w :=
  ⟨k.os.trans h.os, k.tape.trans h.tape, k.output.trans h.output, k.size.trans h.size, fun i hi => (k.block i hi).trans (h.block i hi), fun a => (k.frozen a).trans (h.frozen a)⟩
theorem Touch.setCell {b : Nat} {u v : World} (h : Touch b u v) (o : Nat) (x : Value) : Touch b u (v.setCell ⟨b, o, none⟩ x) :=
  h.trans ⟨rfl, rfl, rfl, by simp [World.setCell], fun k hk => Below.heap_setCell _ _ _ _ hk, fun a => World.frozen?_setCell _ _ _ _⟩
theorem Touch.drew {b : Nat} {u v : World} (h : Touch b u v) : Touch b u v.drew := ⟨h.os, h.tape, h.output, h.size, h.block, h.frozen⟩
theorem Touch.cell {b : Nat} {u v : World} (h : Touch b u v) {a : Addr} (ha : a.block ≠ b) : v.cell? a = u.cell? a := World.cell?_of_block (w := u) (h.block a.block ha)
theorem Touch.below {b B : Nat} {u v : World} (h : Touch b u v) (hB : B ≤ b) : Below B u v := ⟨h.os, h.tape, h.output, by rw [h.size]; exact Nat.le_refl _, fun k hk => h.block k (by omega)⟩

/-- w' is w, but for new blocks and cells of block b: no mark turned. -/
structure Keeps (b : Nat) (w w' : World) : Prop where
  os : w'.os = w.os
  tape : w'.tape = w.tape
  output : w'.output = w.output
  size : w.heap.size ≤ w'.heap.size
  block : ∀ k, k < w.heap.size → k ≠ b → w'.heap[k]? = w.heap[k]?
  frozen : ∀ a : Addr, a.block < w.heap.size → w'.frozen? a = w.frozen? a

theorem Keeps.refl (b : Nat) (w : World) : Keeps b w w := ⟨rfl, rfl, rfl, Nat.le_refl _, fun _ _ _ => rfl, fun _ _ => rfl⟩
theorem Keeps.drew {b : Nat} {u v : World} (h : Keeps b u v) : Keeps b u v.drew := ⟨h.os, h.tape, h.output, h.size, h.block, h.frozen⟩
theorem Keeps.drewN {b : Nat} {u v : World} (h : Keeps b u v) : ∀ n, Keeps b u (v.drewN n)
  | 0 => h
  | n + 1 => ((h.drewN n) : Keeps b u (v.drewN n)).drew
theorem Keeps.touch {b c : Nat} {u v w : World} (h : Keeps b u v) (t : Touch c v w) (hc : c = b ∨ u.heap.size ≤ c) : Keeps b u w :=
  ⟨t.os.trans h.os, t.tape.trans h.tape, t.output.trans h.output, by rw [t.size]; exact h.size, fun k hk hb => (t.block k (by omega)).trans (h.block k hk hb), fun a ha => (t.frozen a).trans (h.frozen a ha)⟩
theorem Keeps.trans {b : Nat} {u v w : World} (h : Keeps b u v) (t : Keeps b v w) : Keeps b u w :=
  ⟨t.os.trans h.os, t.tape.trans h.tape, t.output.trans h.output, Nat.le_trans h.size t.size, fun k hk hb => (t.block k (Nat.lt_of_lt_of_le hk h.size) hb).trans (h.block k hk hb), fun a ha => (t.frozen a (Nat.lt_of_lt_of_le ha h.size)).trans (h.frozen a ha)⟩
theorem Keeps.setCell {b : Nat} {u v : World} (h : Keeps b u v) {a : Addr} (ha : a.block = b ∨ u.heap.size ≤ a.block) (x : Value) : Keeps b u (v.setCell a x) := by
  refine ⟨h.os, h.tape, h.output, by simpa [World.setCell] using h.size, fun k hk hb => (Below.heap_setCell _ _ _ _ (by omega)).trans (h.block k hk hb), fun p hp => (World.frozen?_setCell _ _ _ _).trans (h.frozen p hp)⟩
theorem Keeps.alloc {b : Nat} {u v : World} (h : Keeps b u v) (o : Obj) : Keeps b u (v.alloc o) := by
  refine ⟨h.os, h.tape, h.output, Nat.le_trans h.size (by simp), fun k hk hb => (Below.heap_alloc _ _ _ (Nat.lt_of_lt_of_le hk h.size)).trans (h.block k hk hb), fun p hp => (World.frozen?_alloc_old _ _ _ (by have := h.size; omega)).trans (h.frozen p hp)⟩
theorem Keeps.cell {b : Nat} {u v : World} (h : Keeps b u v) {a : Addr} (h1 : a.block < u.heap.size) (h2 : a.block ≠ b) : v.cell? a = u.cell? a := World.cell?_of_block (w := u) (h.block a.block h1 h2)
theorem Keeps.below {b B : Nat} {u v : World} (h : Keeps b u v) (h1 : B ≤ u.heap.size) (h2 : B ≤ b) : Below B u v := ⟨h.os, h.tape, h.output, h.size, fun k hk => h.block k (by omega) (by omega)⟩

/-- n cells of kind k from off on hold f -/
def Row (w : World) (b off : Nat) (k : IntKind) (f : Nat → Nat) (n : Nat) : Prop := ∀ j, j < n → w.cell? ⟨b, off + j, none⟩ = some (.int k (f j))

theorem Row.set {w : World} {b off : Nat} {k : IntKind} {f : Nat → Nat} {n : Nat} (h : Row w b off k f n) (i v : Nat) (hi : i < n) : Row (w.setCell ⟨b, off + i, none⟩ (.int k v)) b off k (Csa.set f i v) n := by
  intro j hj
  by_cases e : j = i
  · subst e
    rw [Csa.set_same]
    exact World.cell?_setCell_same _ _ _ (h j hj)
  · rw [Csa.set_other _ _ _ _ e, ← h j hj]
    exact World.cell?_setCell_other _ _ _ _ (by intro he; injection he with h1 h2 h3; omega)

theorem Row.keeps {w w' : World} {b b' off : Nat} {k : IntKind} {f : Nat → Nat} {n : Nat} (h : Row w b off k f n) (t : Keeps b' w w') (hb : b < w.heap.size) (hb' : b ≠ b') : Row w' b off k f n :=
  fun j hj => (t.cell hb hb').trans (h j hj)
theorem Row.other {w : World} {b off : Nat} {k : IntKind} {f : Nat → Nat} {n : Nat} (h : Row w b off k f n) {a : Addr} (hb : a.block ≠ b) (v : Value) : Row (w.setCell a v) b off k f n :=
  fun j hj => (World.cell?_setCell_other _ _ _ _ (by intro he; exact hb (by rw [he]))).trans (h j hj)
theorem Row.drew {w : World} {b off : Nat} {k : IntKind} {f : Nat → Nat} {n : Nat} (h : Row w b off k f n) : Row w.drew b off k f n := h
theorem Row.drewN {w : World} {b off : Nat} {k : IntKind} {f : Nat → Nat} {n : Nat} (h : Row w b off k f n) : ∀ m, Row (w.drewN m) b off k f n
  | 0 => h
  | m + 1 => ((h.drewN m) : Row (w.drewN m) b off k f n).drew
theorem Row.touch {w w' : World} {b b' off : Nat} {k : IntKind} {f : Nat → Nat} {n : Nat} (h : Row w b off k f n) (t : Touch b' w w') (hb : b ≠ b') : Row w' b off k f n :=
  fun j hj => (t.cell hb).trans (h j hj)

/-- what addBits has still to add -/
def Owes (f g : Nat → Nat) (word x weight : Nat) : Prop := ∀ j, j < 64 → g j < 18446744073709551616 ∧ (g j + Csa.bit x j * weight) % 18446744073709551616 = (f j + Csa.bit word j * weight) % 18446744073709551616

theorem Owes.step {f g : Nat → Nat} {word x weight : Nat} (h : Owes f g word x weight) (hx : x < 2 ^ 64) (h0 : x ≠ 0) :
    Owes f (Csa.set g (Lib.ctz 64 x) ((g (Lib.ctz 64 x) + weight) % 18446744073709551616)) word (x &&& (x - 1)) weight := by
  obtain ⟨hk, hb, hbits, _⟩ := Csa.and_pred x hx h0
  intro j hj
  have := h j hj
  by_cases e : j = Lib.ctz 64 x
  · rw [hbits, if_pos e, e, Csa.set_same]
    rw [e, hb] at this
    refine ⟨by omega, ?_⟩
    rw [← this.2]; simp
  · rw [hbits, if_neg e, Csa.set_other _ _ _ _ e]
    exact this

set_option maxHeartbeats 400000 in
theorem addBits_any (b off cap word weight : Nat) (f : Nat → Nat) (w : World) (hw : word < 18446744073709551616) (hwt : weight < 18446744073709551616) (hb0 : b ≠ 0)
    (hT : TabAt w) (hrow : Row w b off .u64 f 64) (hf : ∀ j, j < 64 → f j < 18446744073709551616) (hfz : ∀ j, j < 64 → w.frozen? ⟨b, off + j, none⟩ = false) :
    Calls Ybad.prog 5 #[.slice (some ⟨b, off, none⟩) 64 cap, .int .u64 word, .int .u64 weight] w fun e w' => e = .returned (.tuple #[]) ∧ Touch b w w' ∧ (∀ o, o < off ∨ off + 64 ≤ o → w'.cell? ⟨b, o, none⟩ = w.cell? ⟨b, o, none⟩) ∧
      ∃ g, Row w' b off .u64 g 64 ∧ ∀ j, j < 64 → g j = (f j + Csa.bit word j * weight) % 18446744073709551616 := by
  go_enter Ybad.func5, Ybad.ntmps5
  go_wp2
  go_loopw [1] (fun v wr => ∃ (x : Nat) (g : Nat → Nat), x < 18446744073709551616 ∧ v = .int .u64 x ∧ Touch b w wr ∧ (∀ o, o < off ∨ off + 64 ≤ o → wr.cell? ⟨b, o, none⟩ = w.cell? ⟨b, o, none⟩) ∧ Row wr b off .u64 g 64 ∧ Owes f g word x weight) (fun v _ => (intOf v).toNat)
  case atStart => exact ⟨word, f, hw, rfl, Touch.refl _ _, fun _ _ => rfl, hrow, fun j hj => ⟨hf j hj, rfl⟩⟩
  case round =>
    obtain ⟨x, g, hx, rfl, ht, hout0, hr, ho⟩ := hrel
    have hout : Hid (∀ o, o < off ∨ off + 64 ≤ o → wr.cell? ⟨b, o, none⟩ = w.cell? ⟨b, o, none⟩) := hout0
    clear hout0
    by_cases h0 : x = 0
    · subst h0
      go_wp2
      go_end0
      refine ⟨rfl, ht, hout.out, g, hr, fun j hj => ?_⟩
      have := ho j hj
      rw [Csa.bit_zero, Nat.zero_mul, Nat.add_zero] at this
      omega
    · have hne : ((x : Int) != 0) = true := by simp; omega
      obtain ⟨hk, hb, hbits, hlt⟩ := Csa.and_pred x hx h0
      have hs := ho.step hx h0
      have hT' : TabAt wr := fun j hj => (ht.cell (Ne.symm hb0)).trans (hT j hj)
      have hcon := fun w' (h : TabAt w') => tz64_any x hx h0 w' h
      have hg := ho _ hk
      generalize Lib.ctz 64 x = k at *
      have hcell := hr k hk
      have hfr := (ht.frozen _).trans (hfz k hk)
      have hand := bits_and_u64_nat x (x - 1) hx (by omega)
      have hx1 : IntKind.u64.wrap ((x : Int) - 1) = ((x - 1 : Nat) : Int) := by rw [IntKind.wrap_u64]; omega
      have HC := show Hid (∀ w', TabAt w' → Calls Ybad.prog 7 #[.int .u64 x] w' fun e w'' => e = .returned (.int .i64 k) ∧ w'' = w') from hcon
      clear hcon
      have HS := show Hid (Owes f (Csa.set g k ((g k + weight) % 18446744073709551616)) word (x &&& (x - 1)) weight) from hs
      clear hs hb
      have hbits' : Hid (∀ j, Csa.bit (x &&& (x - 1)) j = if j = k then 0 else Csa.bit x j) := hbits
      clear hbits
      go_wp2_with (go_at_call 7; refine (HC.out _ hT').mono ?_; rintro e w' ⟨rfl, rfl⟩)
      have hsum : IntKind.u64.wrap ((g k : Int) + (weight : Int)) = (((g k + weight) % 18446744073709551616 : Nat) : Int) := by rw [IntKind.wrap_u64]; omega
      rw [hsum]
      go_roundw
      case rel => exact ⟨x &&& (x - 1), _, by omega, rfl, ht.setCell _ _, fun o ho => (World.cell?_setCell_other _ _ _ _ (by intro he; injection he with h1 h2 h3; omega)).trans (hout.out o ho), hr.set k _ hk, HS.out⟩
      case measure => simp only [intOf]; omega
end Go.Proofs.YbulkvnyDoor
