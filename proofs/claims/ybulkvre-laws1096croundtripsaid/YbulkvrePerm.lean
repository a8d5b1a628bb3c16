import Derived.Test.YbulkvrePlain
set_option linter.unusedVariables false
set_option linter.unusedSimpArgs false
namespace Go.Proofs.Ybulkvre
open Go.RowKit

def blank22 : Array Value := Array.replicate 256 (.int .u8 0)
theorem run_zero22 (w : World) : (zeroValue 22).run Yba.prog w = .ok (.agg blank22) w := by kernel_rfl

theorem blank22_get (j : Nat) (h : j < 256) : blank22[j]? = some (.int .u8 0) := by
  rw [blank22, Array.getElem?_replicate, if_pos h]

def affTo (K A j b : Nat) : Nat := if b < j then aff K A b else 0
theorem affTo_lt {K A j b : Nat} (h : b < j) : affTo K A j b = aff K A b := if_pos h
theorem affTo_ge {K A j b : Nat} (h : ¬ b < j) : affTo K A j b = 0 := if_neg h

/-- the table in the making -/
structure Perm (n K A j : Nat) (w w2 : World) : Prop where
  bel : Below n w w2
  res : w2.there n 0 256
  dec : DecAt w2 (n + 1) 0 (affTo K A j)
  thaw : ∀ r, w2.frozen? ⟨n + 1, r, none⟩ = false

theorem Perm.step {n K A j : Nat} {w w2 : World} (h : Perm n K A j w w2) (hj : j < 256) : Perm n K A (j + 1) w (w2.setCell ⟨n + 1, j, none⟩ (.int .u8 (aff K A j))) := by
  refine ⟨h.bel.setCell (by show n ≤ n + 1; omega) _, fun b hb => ?_, fun b hb => ?_, fun r => ?_⟩
  · rw [World.cell?_setCell_other _ _ _ _ (by intro h; injection h with h1 h2; omega), World.frozen?_setCell]
    exact h.res b hb
  · by_cases hbd : j = b
    · subst hbd
      have := h.dec j hb
      rw [Nat.zero_add] at this ⊢
      rw [World.cell?_setCell_same _ _ _ this, affTo_lt (by omega)]
    · rw [World.cell?_setCell_other _ _ _ _ (by intro h; injection h with _ h; omega), h.dec b hb]
      by_cases hbj : b < j
      · rw [affTo_lt hbj, affTo_lt (by omega)]
      · rw [affTo_ge hbj, affTo_ge (by omega)]
  · rw [World.frozen?_setCell]; exact h.thaw r

theorem results_cell_mid {P : Program} {fn : Func} {p : Tmp} {ty : TypeId} (h : fn.results = #[.cell p ty]) (tmps : Array Value) (w : World) (g : Nat) (cs : List Value) (d : TypeDesc)
    (hp : tmps.getD p undef = .pointer (some ⟨g, 0, none⟩)) (hg : w.rangeAt g 0 cs)
    (hu : P.underlying ty = some d) (hd : d.isRow = true) (hi : (P.info? ty).map (·.size) = some cs.length) :
    (results fn tmps).run P w = .ok (.agg cs.toArray) w := by
  have hp' : tmps[p]?.getD undef = .pointer (some ⟨g, 0, none⟩) := by simpa using hp
  simp [results, h, hp', asAddr, run_loadVar_mid w g 0 ty cs d hg hu hd hi]

theorem tab_list (f : Nat → Nat) : ∃ cs : List Value, cs.length = 256 ∧ ∀ b, b < 256 → cs[b]? = some (.int .u8 (f b)) :=
  ⟨(List.range 256).map fun b => .int .u8 (f b), by simp, fun b hb => by simp [hb]⟩

theorem below_setCells {B : Nat} {a w : World} (h : Below B a w) {b : Nat} (hb : B ≤ b) : ∀ (vs : List Value) (o : Nat), Below B a (w.setCells b o vs) := by
  intro vs
  induction vs generalizing w with
  | nil => intro o; exact h
  | cons v vs ih => intro o; exact ih (h.setCell (p := ⟨b, o, none⟩) hb v) (o + 1)

set_option maxHeartbeats 400000 in
set_option maxRecDepth 100000 in
theorem perm_any (mul A : Nat) (w : World) (hm : mul < 256) (hA : A < 256) :
    Calls Yba.prog 5 #[.int .u8 mul, .int .u8 A] w fun e w' =>
      ∃ cs : List Value, e = .returned (.agg cs.toArray) ∧ cs.length = 256 ∧ (∀ b, b < 256 → cs[b]? = some (.int .u8 (aff (mul ||| 1) A b))) ∧ Below w.heap.size w w' := by
  have z1 := run_zero22 w
  have z2 := run_zero22 (w.alloc (.cells blank22 22))
  obtain ⟨K, hK⟩ : ∃ K, K = mul ||| 1 := ⟨_, rfl⟩
  have hor : bits .or .u8 (mul : Int) 1 = (K : Int) := by rw [hK]; exact bits_or_one_all ⟨mul, hm⟩
  rw [← hK]
  have hK2 : K < 256 := by rw [hK]; exact (or_one mul hm).2
  clear hK
  obtain ⟨cs, hl, hc⟩ := tab_list (aff K A)
  have hn : (w.alloc (.cells blank22 22)).heap.size = w.heap.size + 1 := World.size_alloc ..
  have hP : Perm w.heap.size K A 0 w ((w.alloc (.cells blank22 22)).alloc (.cells blank22 22)) := by
    refine ⟨((Below.refl _ _).alloc (Nat.le_refl _) _).alloc (by omega) _, fun b hb => ?_, fun b hb => ?_, fun r => ?_⟩
    · rw [World.cell?_alloc_lt _ _ _ (by show w.heap.size < _; omega), World.frozen?_alloc_old _ _ _ (by show w.heap.size ≠ _; omega), World.cell?_alloc_new, World.frozen?_alloc_new, blank22_get _ (by omega)]
      exact ⟨rfl, rfl⟩
    · rw [← hn, World.cell?_alloc_new, blank22_get _ (by omega), affTo_ge (by omega)]; rfl
    · rw [← hn, World.frozen?_alloc_new]
  have hi : (Yba.prog.info? 22).map (·.size) = some cs.length := by rw [hl]; exact size22
  go_enter Yba.func5, Yba.ntmps5
  go_wp2_with fail
  clear z1 z2 hor hn
  go_loopw [7] (fun i w2 => ∃ j : Nat, j ≤ 256 ∧ i = .int .i64 j ∧ Perm w.heap.size K A j w w2) (fun i _ => 256 - (intOf i).toNat)
  case atStart => exact ⟨0, by omega, rfl, hP⟩
  case round =>
    clear hP
    obtain ⟨j, hj, rfl, hP⟩ := hrel
    by_cases hlt : j < 256
    · have e1 : decide ((j : Int) < 256) = true := decide_eq_true (by omega)
      have hstep := show Hid _ from hP.step hlt
      have cE := hP.dec j hlt
      rw [Nat.zero_add, affTo_ge (by omega)] at cE
      have fE := hP.thaw j
      have d1 : (0 : Int) ≤ (j : Int) := by omega
      have d2 : (j : Int) < 256 := by omega
      have cv : IntKind.u8.wrap (j : Int) = (j : Int) := by simp [IntKind.wrap, IntKind.bits, IntKind.signed]; omega
      obtain ⟨m, hm1⟩ : ∃ m : Nat, m = j * K % 256 := ⟨_, rfl⟩
      have c2 : IntKind.u8.wrap ((j : Int) * (K : Int)) = (m : Int) := by
        rw [hm1]; simp [IntKind.wrap, IntKind.bits, IntKind.signed]
      have c3 : IntKind.u8.wrap ((m : Int) + (A : Int)) = ((aff K A j : Nat) : Int) := by
        rw [hm1, aff]; simp [IntKind.wrap, IntKind.bits, IntKind.signed]
      generalize aff K A j = y at hstep c3
      clear hm1 hc hl hi
      go_wp2
      go_roundw
      case rel => exact ⟨j + 1, by omega, by go_num, hstep.out⟩
      case measure => simp only [intOf]; omega
    · have e1 : decide ((j : Int) < 256) = false := decide_eq_false (by omega)
      obtain rfl : j = 256 := by omega
      have hr : wr.rangeAt (w.heap.size + 1) 0 cs := fun b v hv => by
        have hb : b < 256 := by rw [← hl]; exact (List.getElem?_eq_some_iff.1 hv).1
        rw [hP.dec b hb, affTo_lt hb, ← hc b hb, hv]
      have hone : cs.toArray.all (·.oneCell') = true := all_oneCell_toArray fun v hv => by
        obtain ⟨b, hb⟩ := List.getElem?_of_mem hv
        have hb2 : b < 256 := by rw [← hl]; exact (List.getElem?_eq_some_iff.1 hb).1
        rw [hc b hb2] at hb
        injection hb with hb
        rw [← hb]; rfl
      have hst : (storeCells ⟨w.heap.size, 0, none⟩ cs).run Yba.prog wr = .ok () (wr.setCells w.heap.size 0 cs) := by
        have := run_storeCells_cells (P := Yba.prog) w.heap.size 0 cs 0 wr (fun j hj => by simpa using (hP.res j (by omega)).1) (fun j hj => by simpa using (hP.res j (by omega)).2)
          (fun v hv => (Array.all_eq_true_iff_forall_mem.1 hone) v (by simpa using hv))
        simpa using this
      have hr4 : (wr.setCells w.heap.size 0 cs).rangeAt w.heap.size 0 cs := World.rangeAt_setCells_same wr w.heap.size 0 cs (by rw [hl]; exact hP.res)
      have hb4 : Below w.heap.size w (wr.setCells w.heap.size 0 cs) := below_setCells hP.bel (Nat.le_refl _) cs 0
      go_wp2_with (refine wpList_load_mid (by rfl) 22 (.tmp 5) (by rfl) (w.heap.size + 1) 0 (by rfl) cs _ (by exact hr) Yba.underlying22 rfl hi ?_)
      refine bodyPost_ret (results_cell_mid rfl _ _ w.heap.size cs _ rfl hr4 Yba.underlying22 rfl hi) rfl ?_
      exact ⟨cs, rfl, hl, hc, hb4⟩
end Go.Proofs.Ybulkvre
