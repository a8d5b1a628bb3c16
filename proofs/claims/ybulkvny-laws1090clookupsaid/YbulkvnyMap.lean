import Derived.Test.YbulkvnyBase
set_option linter.unusedVariables false
set_option linter.unusedSimpArgs false
namespace Go.Proofs.Ybulkvny
open Go.RowKit
set_option maxRecDepth 20000

/-- block mb is a map whose entry at the key k is V k -/
structure MapSt (w : World) (mb : Nat) (V : Nat → Option Value) : Prop where
  ex : ∃ (es : Array MapEntry) (clock : Nat), w.heap[mb]? = some (.map es clock) ∧ (∀ e ∈ es.toList, ∃ k, k < 256 ∧ e.key = keyV k) ∧
    (∀ k, k < 256 → ∀ e ∈ es.toList, e.key = keyV k → V k = some e.val) ∧ (∀ k, k < 256 → V k ≠ none → ∃ e ∈ es.toList, e.key = keyV k) ∧
    (∀ (i j : Nat) (ei ej : MapEntry), es.toList[i]? = some ei → es.toList[j]? = some ej → ei.key = ej.key → i = j)

def setV (V : Nat → Option Value) (k : Nat) (v : Value) : Nat → Option Value := fun j => if j = k then some v else V j

theorem MapSt.made (w : World) (c : Nat) : MapSt (w.alloc (.map #[] c)) w.heap.size (fun _ => none) := by
  refine ⟨#[], c, ?_, by simp, by simp, fun k _ h => absurd rfl h, by simp⟩
  exact (MapKept.heap_alloc w _).1

theorem MapSt.of_block {w w' : World} {mb : Nat} {V : Nat → Option Value} (h : MapSt w mb V) (hb : w'.heap[mb]? = w.heap[mb]?) : MapSt w' mb V := by
  obtain ⟨es, c, h1, h2⟩ := h.ex
  exact ⟨es, c, hb.trans h1, h2⟩

theorem MapSt.keeps {w w' : World} {mb c : Nat} {V : Nat → Option Value} (h : MapSt w mb V) (t : Keeps c w w') (hlt : mb < w.heap.size) (hc : mb ≠ c) : MapSt w' mb V :=
  h.of_block (t.block mb hlt hc)

theorem MapSt.lt {w : World} {mb : Nat} {V : Nat → Option Value} (h : MapSt w mb V) : mb < w.heap.size := by
  obtain ⟨es, c, h1, _⟩ := h.ex
  exact (Array.getElem?_eq_some_iff.1 h1).1

theorem MapSt.find {w : World} {mb : Nat} {V : Nat → Option Value} (h : MapSt w mb V) (k : Nat) (hk : k < 256) :
    ∃ (es : Array MapEntry) (clock : Nat), w.heap[mb]? = some (.map es clock) ∧ (∀ e ∈ es.toList, ∃ k, k < 256 ∧ e.key = keyV k) ∧
      (((Instr.findKey 44 (keyV k) es.toList).run Yba.prog w = .ok none w ∧ V k = none ∧ ∀ e ∈ es.toList, e.key ≠ keyV k) ∨
        ∃ j e, (Instr.findKey 44 (keyV k) es.toList).run Yba.prog w = .ok (some (j, e.val)) w ∧ es.toList[j]? = some e ∧ e.key = keyV k ∧ V k = some e.val) := by
  obtain ⟨es, c, h1, h2, h3, h4, h5⟩ := h.ex
  obtain ⟨l, hl⟩ := key_ok k hk
  refine ⟨es, c, h1, h2, ?_⟩
  rcases law44.find w hl es.toList (fun e he => by obtain ⟨k', hk', e1⟩ := h2 e he; rw [e1]; exact key_ok k' hk') with ⟨hf, hn⟩ | ⟨j, e, hf, hj, he⟩
  · refine .inl ⟨hf, ?_, hn⟩
    cases hV : V k with
    | none => rfl
    | some v =>
      obtain ⟨e, he, hke⟩ := h4 k hk (by rw [hV]; simp)
      exact absurd hke (hn e he)
  · exact .inr ⟨j, e, hf, hj, he, h3 k hk e (List.mem_of_getElem? hj) he⟩

theorem zero22 (w : World) : (zeroValue 22).run Yba.prog w = .ok (.slice none 0 0) w := by kernel_rfl

theorem MapSt.lookup {w : World} {mb : Nat} {V : Nat → Option Value} (h : MapSt w mb V) (k : Nat) (hk : k < 256) :
    (Instr.lookup 25 (.map (some mb)) (keyV k) true).run Yba.prog w = .ok (.tuple #[(V k).getD (.slice none 0 0), .bool (V k).isSome]) w := by
  obtain ⟨es, c, h1, _, hf⟩ := h.find k hk
  obtain ⟨l, hl⟩ := key_ok k hk
  have hck := law44.check w es.isEmpty hl
  rcases hf with ⟨hf, hV, _⟩ | ⟨j, e, hf, _, _, hV⟩
  · simp [Instr.lookup, run_underlying Yba.underlying25, MapKept.run_getObj_map h1, hck, hf, zero22, hV]
  · simp [Instr.lookup, run_underlying Yba.underlying25, MapKept.run_getObj_map h1, hck, hf, hV]

theorem touch_setObj {w : World} {mb : Nat} {es es' : Array MapEntry} {c c' : Nat} (h : w.heap[mb]? = some (.map es c)) : Touch mb w { w with heap := w.heap.setIfInBounds mb (.map es' c') } := by
  refine ⟨rfl, rfl, rfl, by simp, fun k hk => ?_, fun a => ?_⟩
  · simp [Array.getElem?_setIfInBounds, Ne.symm hk]
  · by_cases e : a.block = mb
    · simp [World.frozen?, e, h, Array.getElem?_setIfInBounds]
    · exact World.frozen?_of_block (w := w) (by simp [Array.getElem?_setIfInBounds, Ne.symm e])

theorem MapSt.update {w : World} {mb : Nat} {V : Nat → Option Value} (h : MapSt w mb V) (k : Nat) (hk : k < 256) (v : Value) :
    ∃ w', (Instr.mapUpdate 25 (.map (some mb)) (keyV k) v).run Yba.prog w = .ok () w' ∧ MapSt w' mb (setV V k v) ∧ Touch mb w w' := by
  obtain ⟨es, c, h1, hkeys, hf⟩ := h.find k hk
  obtain ⟨l, hl⟩ := key_ok k hk
  have hck := law44.check w false hl
  have hst := law44.stays w hl
  obtain ⟨es0, c0, g1, g2, g3, g4, g5⟩ := h.ex
  rw [h1] at g1
  injection g1 with g1
  injection g1 with ge gc
  subst ge
  have hmb : mb < w.heap.size := h.lt
  rcases hf with ⟨hf, hV, hno⟩ | ⟨j, e, hf, hj, he, hV⟩
  · refine ⟨{ w with heap := w.heap.setIfInBounds mb (.map (es.push { key := keyV k, val := v, born := c }) (c + 1)) }, ?_, ⟨_, _, by simp [Array.getElem?_setIfInBounds, hmb]; exact ⟨rfl, rfl⟩, ?_, ?_, ?_, ?_⟩, touch_setObj h1⟩
    · simp [Instr.mapUpdate, run_underlying Yba.underlying25, MapKept.run_getObj_map h1, hck, hf, MapKept.run_setObj_map _ h1, Result.andThen]
    · intro e' he'
      simp only [Array.toList_push, List.mem_append, List.mem_singleton] at he'
      rcases he' with he' | rfl
      · exact hkeys e' he'
      · exact ⟨k, hk, rfl⟩
    · intro k' hk' e' he' hke
      simp only [Array.toList_push, List.mem_append, List.mem_singleton] at he'
      unfold setV
      rcases he' with he' | rfl
      · rw [if_neg (fun e => hno e' he' (by rw [hke, e]))]
        exact g3 k' hk' e' he' hke
      · rw [if_pos (key_inj hke).symm]
    · intro k' hk' hV'
      unfold setV at hV'
      by_cases e' : k' = k
      · subst e'
        exact ⟨{ key := keyV k', val := v, born := c }, by simp, rfl⟩
      · rw [if_neg e'] at hV'
        obtain ⟨x, hx, hkx⟩ := g4 k' hk' hV'
        exact ⟨x, by simp [hx], hkx⟩
    · intro i j ei ej hi hj hij
      simp only [Array.toList_push] at hi hj
      have key : ∀ (i : Nat) (ei : MapEntry), (es.toList ++ [{ key := keyV k, val := v, born := c }])[i]? = some ei → (i < es.toList.length ∧ es.toList[i]? = some ei) ∨ (i = es.toList.length ∧ ei.key = keyV k) := by
        intro i ei hi
        rcases Nat.lt_trichotomy i es.toList.length with hl | hl | hl
        · rw [List.getElem?_append_left hl] at hi; exact .inl ⟨hl, hi⟩
        · rw [List.getElem?_append_right (by omega), hl] at hi
          simp at hi
          exact .inr ⟨hl, by rw [← hi]⟩
        · rw [List.getElem?_eq_none (by simp; simp at hl; omega)] at hi; cases hi
      rcases key i ei hi with ⟨_, a1⟩ | ⟨a0, a1⟩ <;> rcases key j ej hj with ⟨_, b1⟩ | ⟨b0, b1⟩
      · exact g5 i j ei ej a1 b1 hij
      · exact absurd (hij.trans b1) (hno ei (List.mem_of_getElem? a1))
      · exact absurd (hij.symm.trans a1) (hno ej (List.mem_of_getElem? b1))
      · omega
  · have hjl : j < es.size := by
      have := (List.getElem?_eq_some_iff.1 hj).1
      simpa using this
    have hjk : es[j].key = keyV k := by
      have h2 := List.getElem?_eq_some_iff.1 hj
      obtain ⟨h3, h4⟩ := h2
      rw [← he, ← h4]; simp
    have mod : ∀ (i : Nat) (ei : MapEntry), (es.modify j fun e => { e with key := keyV k, val := v }).toList[i]? = some ei → (i = j ∧ ei.key = keyV k ∧ ei.val = v) ∨ (i ≠ j ∧ es.toList[i]? = some ei) := by
      intro i ei hi
      rw [Array.getElem?_toList, Array.getElem?_modify] at hi
      by_cases e1 : j = i
      · rw [if_pos e1] at hi
        obtain ⟨x, _, rfl⟩ := Option.map_eq_some_iff.1 hi
        exact .inl ⟨e1.symm, rfl, rfl⟩
      · rw [if_neg e1] at hi
        exact .inr ⟨fun e2 => e1 e2.symm, by rw [Array.getElem?_toList]; exact hi⟩
    have dom : ∀ (i : Nat) (ei : MapEntry), i ≠ j → es.toList[i]? = some ei → (es.modify j fun e => { e with key := keyV k, val := v }).toList[i]? = some ei := by
      intro i ei hne hi
      rw [Array.getElem?_toList, Array.getElem?_modify, if_neg (Ne.symm hne)]
      rw [Array.getElem?_toList] at hi
      exact hi
    have atj : (es.modify j fun e => { e with key := keyV k, val := v }).toList[j]? = some { es[j] with key := keyV k, val := v } := by
      rw [Array.getElem?_toList, Array.getElem?_modify, if_pos rfl]
      simp [hjl]
    have idx : ∀ {l : List MapEntry} {x : MapEntry}, x ∈ l → ∃ i : Nat, l[i]? = some x := fun hx => List.getElem?_of_mem hx
    refine ⟨{ w with heap := w.heap.setIfInBounds mb (.map (es.modify j fun e => { e with key := keyV k, val := v }) c) }, ?_, ⟨_, _, by simp [Array.getElem?_setIfInBounds, hmb]; exact ⟨rfl, rfl⟩, ?_, ?_, ?_, ?_⟩, touch_setObj h1⟩
    · simp [Instr.mapUpdate, run_underlying Yba.underlying25, MapKept.run_getObj_map h1, hck, hf, hjl, hjk, hst, MapKept.run_setObj_map _ h1, Result.andThen]
    · intro e' he'
      obtain ⟨i, hi⟩ := idx he'
      rcases mod i e' hi with ⟨_, a1, _⟩ | ⟨_, a1⟩
      · exact ⟨k, hk, a1⟩
      · exact hkeys e' (List.mem_of_getElem? a1)
    · intro k' hk' e' he' hke
      obtain ⟨i, hi⟩ := idx he'
      unfold setV
      rcases mod i e' hi with ⟨_, a1, a2⟩ | ⟨a0, a1⟩
      · rw [if_pos (key_inj (hke.symm.trans a1)), a2]
      · rw [if_neg (fun e2 => a0 (g5 i j e' e a1 hj (by rw [hke, e2, he])))]
        exact g3 k' hk' e' (List.mem_of_getElem? a1) hke
    · intro k' hk' hV'
      by_cases e2 : k' = k
      · rw [e2]
        exact ⟨{ es[j] with key := keyV k, val := v }, List.mem_of_getElem? atj, by simp only⟩
      · unfold setV at hV'
        rw [if_neg e2] at hV'
        obtain ⟨x, hx, hkx⟩ := g4 k' hk' hV'
        obtain ⟨i, hi⟩ := idx hx
        exact ⟨x, List.mem_of_getElem? (dom i x (fun e3 => e2 (key_inj (by
          rw [e3, hj] at hi
          injection hi with hi
          rw [← hkx, ← hi, he]))) hi), hkx⟩
    · intro i i2 ei ei2 hi hi2 hij
      rcases mod i ei hi with ⟨a0, a1, _⟩ | ⟨a0, a1⟩ <;> rcases mod i2 ei2 hi2 with ⟨b0, b1, _⟩ | ⟨b0, b1⟩
      · omega
      · exact absurd (g5 i2 j ei2 e b1 hj (by rw [← hij, a1, he])) b0
      · exact absurd (g5 i j ei e a1 hj (by rw [hij, b1, he])) a0
      · exact g5 i i2 ei ei2 a1 b1 hij
end Go.Proofs.Ybulkvny
