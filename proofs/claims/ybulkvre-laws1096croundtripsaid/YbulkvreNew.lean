import Derived.Test.YbulkvreBuild
set_option linter.unusedVariables false
set_option linter.unusedSimpArgs false
namespace Go.Proofs.Ybulkvre
open Go.RowKit


theorem run_zero32 (w : World) : (zeroValue 32).run Yba.prog w = .ok (.agg blank) w := by kernel_rfl
theorem page_eq (s : ByteArray) (cs : List Value) : List.foldl (fun cs x => cs.setIfInBounds (1 + x.snd) x.fst) (blank.setIfInBounds 0 (.string s)) cs.zipIdx = page s cs := rfl
theorem blank_ne : (blank = #[]) = False := eq_false fun h => by have := blank_size; rw [h] at this; cases this
theorem blank_lt : (blank.size < 257) = False := by rw [blank_size]; decide

theorem index22 (cs : List Value) (b : Nat) (x : Nat) (w : World) (hb : b < 256) (hc : cs[b]? = some (.int .u8 x)) :
    (Instr.index 22 (.agg cs.toArray) (.int .i64 b)).run Yba.prog w = .ok (.int .u8 x) w := by
  have h5 : (sizeOf 5).run Yba.prog w = .ok 1 w := by kernel_rfl
  have hagg : (isAgg 5).run Yba.prog w = .ok false w := by kernel_rfl
  have h1 : (0 : Int) ≤ (b : Int) ∧ (b : Int) < (256 : Nat) := ⟨by omega, by omega⟩
  have h2 : ¬ 256 ≤ b := by omega
  unfold Instr.index asIntOf part
  simp [run_underlying Yba.underlying22, h1, h5, hagg, hc, h2, hb]

/-- the greatest b < j with dec b = r, or 0 -/
def encN (dec : Nat → Nat) : Nat → Nat → Nat
  | 0, _ => 0
  | j + 1, r => if dec j = r then j else encN dec j r

/-- the new page in the making: j entries written -/
structure Made (n : Nat) (dec : Nat → Nat) (j : Nat) (w w2 : World) : Prop where
  bel : Below n w w2
  dec1 : DecAt w2 (n + 1) 1 dec
  enc1 : DecAt w2 (n + 1) 257 (encN dec j)
  thaw : ∀ r, w2.frozen? ⟨n + 1, r, none⟩ = false

theorem Made.step {n j : Nat} {dec : Nat → Nat} {w w2 : World} (h : Made n dec j w w2) (hd : dec j < 256) : Made n dec (j + 1) w (w2.setCell ⟨n + 1, 257 + dec j, none⟩ (.int .u8 j)) := by
  refine ⟨h.bel.setCell (by show n ≤ n + 1; omega) _, fun b hb => ?_, fun b hb => ?_, fun r => ?_⟩
  · rw [World.cell?_setCell_other _ _ _ _ (by intro h; injection h with _ h; omega)]
    exact h.dec1 b hb
  · by_cases hbd : dec j = b
    · subst hbd
      rw [World.cell?_setCell_same _ _ _ (h.enc1 _ hb), encN, if_pos rfl]
    · rw [World.cell?_setCell_other _ _ _ _ (by intro h; injection h with _ h; omega), encN, if_neg hbd]
      exact h.enc1 b hb
  · rw [World.frozen?_setCell]; exact h.thaw r

set_option maxHeartbeats 400000 in
set_option maxRecDepth 100000 in
theorem new_any (s : ByteArray) (cs : List Value) (dec : Nat → Nat) (w : World) (hl : cs.length = 256) (hc : ∀ b, b < 256 → cs[b]? = some (.int .u8 (dec b))) (hd : ∀ b, dec b < 256) :
    Calls Yba.prog 6 #[.string s, .agg cs.toArray] w fun e w' =>
      ∃ g, e = .returned (.pointer (some ⟨g, 0, none⟩)) ∧ w.heap.size ≤ g ∧ Below w.heap.size w w' ∧ DecAt w' g 1 dec ∧ DecAt w' g 257 (encN dec 256) := by
  have hi : (Yba.prog.info? 22).map (·.size) = some cs.length := by rw [hl]; exact size22
  have hr : (w.alloc (.cells cs.toArray 22)).rangeAt w.heap.size 0 cs := fun j v hv => by
    rw [Nat.zero_add, World.cell?_alloc_new]; simpa using hv
  have hn : (w.alloc (.cells cs.toArray 22)).heap.size = w.heap.size + 1 := World.size_alloc ..
  have hr2 : ((w.alloc (.cells cs.toArray 22)).alloc (.cells (page s cs) 32)).rangeAt w.heap.size 0 cs := fun j v hv => by
    rw [World.cell?_alloc_lt _ _ _ (by show w.heap.size < _; omega)]; exact hr j v hv
  have hm : Made w.heap.size dec 0 w ((w.alloc (.cells cs.toArray 22)).alloc (.cells (page s cs) 32)) := by
    refine ⟨((Below.refl _ _).alloc (Nat.le_refl _) _).alloc (by omega) _, fun b hb => ?_, fun b hb => ?_, fun r => ?_⟩
    · rw [← hn, World.cell?_alloc_new, page_dec s cs hl b hb]; exact hc b hb
    · rw [← hn, World.cell?_alloc_new, page_enc s cs hl b hb]; rfl
    · rw [← hn, World.frozen?_alloc_new]
  have hb1 := run_zero32 (w.alloc (.cells cs.toArray 22))
  have hb2 := page_eq s cs
  have hb3 := blank_ne
  have hb4 := blank_lt
  go_enter Yba.func6, Yba.ntmps6
  go_wp2_with (first
    | refine wpList_load_mid (by rfl) 22 (.tmp 3) (by rfl) w.heap.size 0 (by rfl) cs _ (by exact hr) Yba.underlying22 rfl hi ?_
    | refine wpList_load_mid (by rfl) 22 (.tmp 3) (by rfl) w.heap.size 0 (by rfl) cs _ (by exact hr2) Yba.underlying22 rfl hi ?_)
  clear hb1 hb2 hb3 hb4 hr hr2 hn hi
  go_loopw [13] (fun i w2 => ∃ j : Nat, j ≤ 256 ∧ i = .int .i64 j ∧ Made w.heap.size dec j w w2) (fun i _ => 256 - (intOf i).toNat)
  case atStart => exact ⟨0, by omega, rfl, hm⟩
  case round =>
    clear hm
    obtain ⟨j, hj, rfl, hm⟩ := hrel
    by_cases hlt : j < 256
    · have e1 : decide ((j : Int) < 256) = true := decide_eq_true (by omega)
      have hx := index22 cs j (dec j) wr hlt (hc j hlt)
      have hstep := show Hid _ from hm.step (hd j)
      have cE := hm.enc1 (dec j) (hd j)
      have fE := hm.thaw (257 + dec j)
      have d1 : (0 : Int) ≤ (dec j : Int) := by omega
      have d2 : (dec j : Int) < 256 := by have := hd j; omega
      have cv : IntKind.u8.wrap (j : Int) = (j : Int) := by simp [IntKind.wrap, IntKind.bits, IntKind.signed]; omega
      clear hc hd hl
      go_wp2
      go_roundw
      case rel => exact ⟨j + 1, by omega, by go_num, hstep.out⟩
      case measure => simp only [intOf]; omega
    · have e1 : decide ((j : Int) < 256) = false := decide_eq_false (by omega)
      obtain rfl : j = 256 := by omega
      clear hc hd hl
      go_wp2
      go_ret
      exact ⟨_, rfl, by omega, hm.bel, hm.dec1, hm.enc1⟩
end Go.Proofs.Ybulkvre
