import Derived.Test.YbulkvreBase
set_option linter.unusedVariables false
set_option linter.unusedSimpArgs false
namespace Go.Proofs.Ybulkvre
open Go.RowKit

theorem size22 : (Yba.prog.info? 22).map (·.size) = some 256 := by kernel_rfl

theorem foldl_set (off : Nat) : ∀ (l : List Value) (k : Nat) (a : Array Value), off + k + l.length ≤ a.size →
    ((l.zipIdx k).foldl (fun cs x => cs.setIfInBounds (off + x.2) x.1) a).size = a.size ∧
    ∀ j, ((l.zipIdx k).foldl (fun cs x => cs.setIfInBounds (off + x.2) x.1) a)[j]? = if off + k ≤ j ∧ j < off + k + l.length then l[j - (off + k)]? else a[j]?
  | [], k, a, h => by
    refine ⟨rfl, fun j => ?_⟩
    rw [if_neg (by simp only [List.length_nil]; omega)]; rfl
  | x :: l, k, a, h => by
    simp only [List.zipIdx_cons, List.foldl_cons]
    have ih := foldl_set off l (k + 1) (a.setIfInBounds (off + k) x) (by simp only [List.length_cons, Array.size_setIfInBounds] at h ⊢; omega)
    refine ⟨by rw [ih.1, Array.size_setIfInBounds], fun j => ?_⟩
    rw [ih.2 j, Array.getElem?_setIfInBounds]
    simp only [List.length_cons] at h ⊢
    by_cases h1 : off + k = j
    · rw [if_neg (by omega), if_pos h1, if_pos (by omega), if_pos (by omega), show j - (off + k) = 0 by omega]; rfl
    · rw [if_neg h1]
      by_cases h2 : off + (k + 1) ≤ j ∧ j < off + (k + 1) + l.length
      · rw [if_pos h2, if_pos (by omega), show j - (off + k) = (j - (off + (k + 1))) + 1 by omega]; rfl
      · rw [if_neg h2, if_neg (by omega)]

def blank : Array Value := (#[.string ⟨#[]⟩] : Array Value) ++ Array.replicate 512 (.int .u8 0)

theorem zero32 : (Yba.prog.info? 32).bind (fun i => i.zero.map (·.cells)) = some blank := by kernel_rfl
theorem blank_size : blank.size = 513 := by simp [blank]
theorem blank_get (j : Nat) (h : 1 ≤ j) (h2 : j < 513) : blank[j]? = some (.int .u8 0) := by
  unfold blank
  rw [Array.getElem?_append_right (by simpa using h)]
  rw [Array.getElem?_replicate, if_pos (by simp; omega)]

/-- the cells of the new page -/
def page (s : ByteArray) (cs : List Value) : Array Value := cs.zipIdx.foldl (fun cs x => cs.setIfInBounds (1 + x.2) x.1) (blank.setIfInBounds 0 (.string s))

theorem page_size (s : ByteArray) (cs : List Value) (hl : cs.length = 256) : (page s cs).size = 513 := by
  rw [page, (foldl_set 1 cs 0 _ (by rw [Array.size_setIfInBounds, blank_size]; omega)).1, Array.size_setIfInBounds, blank_size]
theorem page_dec (s : ByteArray) (cs : List Value) (hl : cs.length = 256) (b : Nat) (hb : b < 256) : (page s cs)[1 + b]? = cs[b]? := by
  rw [page, (foldl_set 1 cs 0 _ (by rw [Array.size_setIfInBounds, blank_size]; omega)).2, if_pos (by omega), show 1 + b - (1 + 0) = b by omega]
theorem page_enc (s : ByteArray) (cs : List Value) (hl : cs.length = 256) (b : Nat) (hb : b < 256) : (page s cs)[257 + b]? = some (.int .u8 0) := by
  rw [page, (foldl_set 1 cs 0 _ (by rw [Array.size_setIfInBounds, blank_size]; omega)).2, if_neg (by omega), Array.getElem?_setIfInBounds, if_neg (by omega), blank_get _ (by omega) (by omega)]

theorem places32 : ([({ name := "name", type := 9, offset := 0, embedded := false, tag := "", pkgPath := "example.com/cardreel/cardreel/pkg/ebcdic", byteOffset := 0 } : Field),
        { name := "decode", type := 22, offset := 1, embedded := false, tag := "", pkgPath := "example.com/cardreel/cardreel/pkg/ebcdic", byteOffset := 16 },
        { name := "encode", type := 22, offset := 257, embedded := false, tag := "", pkgPath := "example.com/cardreel/cardreel/pkg/ebcdic", byteOffset := 272 }] : List Field).mapM (fun f => (Yba.prog.info? f.type).map fun i => (f.offset, i.size)) = some [(0, 1), (1, 256), (257, 256)] := by kernel_rfl

theorem fill_two (bl : Array Value) (s : ByteArray) (cs : List Value) (hb : bl.size = 513) (hl : cs.length = 256) : Instr.fill (fun x => [(0, 1), (1, 256), (257, 256)].toArray[x]?) bl [(0, .string s), (1, .agg cs.toArray)] =
    some (cs.zipIdx.foldl (fun cs x => cs.setIfInBounds (1 + x.2) x.1) (bl.setIfInBounds 0 (.string s))) := by
  simp [Instr.fill, Value.cells, hb, hl]
theorem fill32 (s : ByteArray) (cs : List Value) (hl : cs.length = 256) : Instr.fill (fun x => [(0, 1), (1, 256), (257, 256)].toArray[x]?) blank [(0, .string s), (1, .agg cs.toArray)] = some (page s cs) :=
  fill_two blank s cs blank_size hl

theorem built32 (s : ByteArray) (cs : List Value) (hl : cs.length = 256) : Yba.prog.built 32 [(0, .string s), (1, .agg cs.toArray)] = some (page s cs) := by
  have hz := zero32
  have hf := fill32 s cs hl
  unfold Program.built
  rw [Yba.underlying32]
  cases hi : Yba.prog.info? 32 with
  | none => rw [hi] at hz; cases hz
  | some it =>
    rw [hi] at hz
    cases hzz : it.zero with
    | none => simp [hzz] at hz
    | some z =>
      simp only [Option.bind_some, hzz, Option.map_some, Option.some.injEq] at hz
      simp only [hzz]
      rw [places32]
      show Instr.fill (fun x => [(0, 1), (1, 256), (257, 256)].toArray[x]?) z.cells _ = _
      rw [hz]
      exact hf
end Go.Proofs.Ybulkvre
