import Derived.Test.YbulkvnyMap
import Derived.Laws.BytesArg
set_option linter.unusedVariables false
set_option linter.unusedSimpArgs false
namespace Go.Proofs.Ybulkvny
open Go.RowKit

theorem info5 : (Yba.prog.info? 5).map (fun i => (i.zero, i.size, i.bytes)) = some (some (.int .u8 0), 1, 1) := by kernel_rfl

/-- a slice of bytes that holds l -/
structure Src (w : World) (ao : Option Addr) (n : Nat) (l : List Nat) : Prop where
  len : n = l.length
  cells : 0 < n → ∃ b off, ao = some ⟨b, off, none⟩ ∧ b < w.heap.size ∧ ∀ j, j < n → w.cell? ⟨b, off + j, none⟩ = some (.int .u8 (l.getD j 0 : Nat))

/-- .. that the call itself made, in a block from lo on; nil where it is empty -/
structure Bt (lo : Nat) (w : World) (ao : Option Addr) (n : Nat) (l : List Nat) : Prop where
  src : Src w ao n l
  nil : n = 0 → ao = none
  lo : ∀ b off s, ao = some ⟨b, off, s⟩ → lo ≤ b

theorem Src.keeps {w w' : World} {ao : Option Addr} {n c : Nat} {l : List Nat} (h : Src w ao n l) (t : Keeps c w w') (hc : ∀ b off s, ao = some ⟨b, off, s⟩ → b ≠ c) : Src w' ao n l :=
  ⟨h.len, fun hn => by
    obtain ⟨b, off, e, hb, hcell⟩ := h.cells hn
    exact ⟨b, off, e, Nat.lt_of_lt_of_le hb t.size, fun j hj => (t.cell (a := ⟨b, off + j, none⟩) hb (hc b off _ e)).trans (hcell j hj)⟩⟩

theorem Bt.keeps {lo : Nat} {w w' : World} {ao : Option Addr} {n c : Nat} {l : List Nat} (h : Bt lo w ao n l) (t : Keeps c w w') (hc : c < lo ∨ w.heap.size ≤ c) : Bt lo w' ao n l := by
  refine ⟨⟨h.src.len, fun hn => ?_⟩, h.nil, h.lo⟩
  obtain ⟨b, off, e, hb, hcell⟩ := h.src.cells hn
  have := h.lo b off _ e
  exact ⟨b, off, e, Nat.lt_of_lt_of_le hb t.size, fun j hj => (t.cell (a := ⟨b, off + j, none⟩) hb (by show b ≠ c; omega)).trans (hcell j hj)⟩

theorem Bt.mono {lo lo' : Nat} {w : World} {ao : Option Addr} {n : Nat} {l : List Nat} (h : Bt lo w ao n l) (hl : lo' ≤ lo) : Bt lo' w ao n l :=
  ⟨h.src, h.nil, fun b off s e => Nat.le_trans hl (h.lo b off s e)⟩

theorem Bt.none (lo : Nat) (w : World) : Bt lo w none 0 [] := ⟨⟨rfl, fun h => by omega⟩, fun _ => rfl, fun _ _ _ e => by cases e⟩

def numCells (l : List Nat) : List Value := l.map fun x => .int .u8 (x : Nat)

/-- append([]byte(nil), x...) -/
theorem copy_nil (w : World) (ao : Option Addr) (n c : Nat) (l : List Nat) (h : Src w ao n l) (hn : n ≤ 4096) (ty : TypeId) :
    ∃ ao' c' w', (Builtin.append_ #[22, 22] ty #[.slice none 0 0, .slice ao n c]).run Yba.prog w = .ok (.slice ao' n c') w' ∧ Bt w.heap.size w' ao' n l ∧ Keeps w.heap.size w w' ∧
      (0 < n → ao' = some ⟨w.heap.size, 0, none⟩ ∧ w.heap.size < w'.heap.size ∧ ∀ j, w'.frozen? ⟨w.heap.size, j, none⟩ = false) := by
  obtain ⟨i, hi, hz0, hz1, hz2⟩ := info_parts info5
  by_cases h0 : 0 < n
  · obtain ⟨b, off, rfl, hb, hcell⟩ := h.cells h0
    have hlen : (numCells l).length = n * i.size := by rw [hz1]; simp [numCells, h.len]
    have hr := run_append_nil (P := Yba.prog) w 22 ty 5 i (.int .u8 0) Yba.underlying22 hi hz0 ⟨b, off, none⟩ n c (numCells l) hlen (fun j v hj => by
      have hjl : j < l.length := by
        have := (List.getElem?_eq_some_iff.1 hj).1
        simpa [numCells] using this
      have e : (⟨b, off, none⟩ : Addr).add j = ⟨b, off + j, none⟩ := by unfold Addr.add; split <;> simp_all
      rw [e, hcell j (by rw [h.len]; exact hjl), ← hj]
      simp [numCells, hjl, List.getD_eq_getElem?_getD]) h0 (by omega) (by rw [hz2]; omega)
    refine ⟨_, _, _, hr, ⟨⟨h.len, fun _ => ⟨w.heap.size, 0, rfl, ?_, fun j hj => ?_⟩⟩, fun e => by omega, fun b off s e => by cases e; exact Nat.le_refl _⟩, ((Keeps.refl _ _).drew).alloc _, fun _ => ⟨rfl, ?_, fun j => ?_⟩⟩
    · show w.heap.size < (w.drew.alloc _).heap.size
      rw [World.size_alloc]; exact Nat.lt_succ_self _
    · rw [Nat.zero_add]
      have e1 := World.cell?_alloc_new w.drew ((numCells l).toArray ++ Builtin.zeroCells (Value.int .u8 0).cells (grownCap w n 0 5 - n)) 5 j
      refine Eq.trans e1 ?_
      have hjl : j < (numCells l).length := by simp [numCells, ← h.len]; exact hj
      rw [Array.getElem?_append_left (by simpa using hjl)]
      simp only [List.getElem?_toArray]
      have hjl' : j < l.length := by rw [← h.len]; exact hj
      simp [numCells, hjl', List.getD_eq_getElem?_getD]
    · show w.heap.size < (w.drew.alloc _).heap.size
      rw [World.size_alloc]; exact Nat.lt_succ_self _
    · exact World.frozen?_alloc_at _ _ _ _ rfl
  · have e0 : n = 0 := by omega
    subst e0
    have hl : ∀ (x : Addr), (loadCells x 0).run Yba.prog w = .ok #[] w := fun x => by simpa using run_loadCells_list (P := Yba.prog) w x [] (by simp)
    refine ⟨Option.none, 0, w, ?_, ⟨⟨h.len, fun h => by omega⟩, fun _ => rfl, fun _ _ _ e => by cases e⟩, Keeps.refl _ _, fun h => by omega⟩
    cases ao <;> simp [Builtin.append_, run_underlying Yba.underlying22, Builtin.lenOf, Builtin.firstCells, sizeOf, typeInfo, hi, hz1, hl]

/-- .. as a law at a plain region's list of operations -/
theorem wpList_copy_nil {ops : Array Oper} {rest : List Oper} {o : Oper} {a : Act} {Q : Exit → Act → World → Prop} (hgd : o.guard = Option.none) (s x : Operand)
    (ho : o.op = .call { callee := .builtin .append, args := #[s, x], argTypes := #[22, 22] }) (w : World) (ao : Option Addr) (n c : Nat) (l : List Nat)
    (hs : a.eval s = .slice Option.none 0 0) (hx : a.eval x = .slice ao n c) (h : Src w ao n l) (hn : n ≤ 4096)
    (hK : ∀ ao' c' w', Bt w.heap.size w' ao' n l → Keeps w.heap.size w w' →
      (0 < n → ao' = some ⟨w.heap.size, 0, Option.none⟩ ∧ w.heap.size < w'.heap.size ∧ ∀ j, w'.frozen? ⟨w.heap.size, j, Option.none⟩ = false) → wpList Yba.prog ops Q rest (a.put o.dst (.slice ao' n c')) w') :
    wpList Yba.prog ops Q (o :: rest) a w := by
  refine wpList_plain hgd fun K hK' => ?_
  obtain ⟨ao', c', w', hr, h1, h2, h3⟩ := copy_nil w ao n c l h hn o.type
  unfold Oper.wp execOp
  simp only [ho, resolve, invoke, builtin, Sem.run_bind, Sem.run_pure, Result.andThen_ok, List.map_toArray, List.map_cons, List.map_nil, hs, hx, hr]
  exact hK' _ _ (hK ao' c' w' h1 h2 h3)

/-- string(x) -/
theorem Bt.conv {lo : Nat} {w : World} {ao : Option Addr} {n : Nat} {l : List Nat} (h : Bt lo w ao n l) (c : Nat) :
    (convert 22 9 (.slice ao n c)).run Yba.prog w = .ok (.string (strOfNums (l.map Int.ofNat))) w := by
  by_cases h0 : 0 < n
  · obtain ⟨b, off, rfl, hb, hcell⟩ := h.src.cells h0
    exact run_convert_bytes_arg w 22 5 Yba.underlying22 Yba.underlying5 b off n c (l.map Int.ofNat) (by simp [h.src.len]) (fun i hi => by
      rw [hcell i hi]
      have hil : i < l.length := by rw [← h.src.len]; exact hi
      simp [List.getD_eq_getElem?_getD, hil]) 9 Yba.underlying9
  · have e0 : n = 0 := by omega
    rw [h.nil e0]
    have el : l = [] := List.length_eq_zero_iff.1 (by rw [← h.src.len]; exact e0)
    rw [el]
    exact run_convert_bytes_nil w 22 5 Yba.underlying22 Yba.underlying5 n c 9 Yba.underlying9

theorem equal_true {lo lo' : Nat} (w : World) (a1 a2 : Option Addr) (n1 n2 c1 c2 : Nat) (l : List Nat) (h1 : Bt lo w a1 n1 l) (h2 : Bt lo' w a2 n2 l) :
    Calls Yba.prog 5 #[.slice a1 n1 c1, .slice a2 n2 c2] w fun e w' => e = .returned (.bool true) ∧ w' = w := by
  have k1 := h1.conv c1
  have k2 := h2.conv c2
  generalize strOfNums (l.map Int.ofNat) = s at k1 k2
  go_enter Yba.func5, Yba.ntmps5
  go_wp2
  go_ret
  exact ⟨by simp, rfl⟩
end Go.Proofs.Ybulkvny
