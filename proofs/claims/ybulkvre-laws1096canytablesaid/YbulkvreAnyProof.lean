import Derived.Test.YbulkvreAny
import Derived.ProofKit
import Derived.OpenShut
import Derived.ShutString
import Derived.Below
set_option linter.unusedVariables false
set_option linter.unusedSimpArgs false
namespace Go.Proofs.Ybulkvre.lawS1096CAnyTable
open Go.ChangeShapes Go.WideShapes Go.ChangeAt Go.RowKit

theorem own : ownKnob Yba.prog.godebug = none := by kernel_rfl
theorem cells22 : Yba.prog.cellsOf 22 = 256 := by kernel_rfl
theorem cells5 : Yba.prog.cellsOf 5 = 1 := by kernel_rfl

section
variable {H : Type} {enc : TypeId × Value → H} {w w' : World} {base : Nat} {spare spare' : Nat → Bool} {held : Bool}

theorem trod5 (m : Nat) (l : List Value) : DataW.trod enc Yba.prog w base spare held m 5 l = DataW.trod enc Yba.prog w' base spare' held m 5 l := by
  cases m with
  | zero => rfl
  | succ m =>
    unfold DataW.trod
    rw [Yba.underlying5]
    rcases l with _ | ⟨v, _ | ⟨v2, l⟩⟩
    · rfl
    · cases v <;> rfl
    · cases v <;> rfl

theorem trod22 (m : Nat) (l : List Value) : DataW.trod enc Yba.prog w base spare held m 22 l = DataW.trod enc Yba.prog w' base spare' held m 22 l := by
  cases m with
  | zero => rfl
  | succ m =>
    have e : (fun i => DataW.trod enc Yba.prog w base spare held m 5 ((l.drop (i * Yba.prog.cellsOf 5)).take (Yba.prog.cellsOf 5))) = (fun i => DataW.trod enc Yba.prog w' base spare' held m 5 ((l.drop (i * Yba.prog.cellsOf 5)).take (Yba.prog.cellsOf 5))) := funext fun i => trod5 m _
    unfold DataW.trod
    simp only [Yba.underlying22, e]

theorem shut22 {v : Value} {d : DataW H} {ps : List MemPlace} (h : DataW.Trod enc Yba.prog w base spare held 22 v d ps) : DataW.Trod enc Yba.prog w' base spare' held 22 v d ps := by
  obtain ⟨fuel, hf⟩ := h
  exact ⟨fuel, by rw [← hf]; exact trod22 fuel _⟩

/-- number b of the table -/
def num (cs : List Value) (b : Nat) : Nat := match cs[b]? with | some (.int _ n) => n.toNat % 256 | _ => 0

theorem num_lt (cs : List Value) (b : Nat) : num cs b < 256 := by
  unfold num
  split
  · exact Nat.mod_lt _ (by decide)
  · decide

theorem open22 {v : Value} {d : DataW H} {ps : List MemPlace} (h : DataW.Trod enc Yba.prog w base spare held 22 v d ps) :
    ∃ cs : List Value, v = .agg cs.toArray ∧ cs.length = 256 ∧ ∀ b, b < 256 → cs[b]? = some (.int .u8 (num cs b)) := by
  obtain ⟨fuel, hf⟩ := h
  obtain ⟨xs, m, rfl, hx, hl, hxs, hi⟩ := DataW.trod_array Yba.underlying22 hf
  rw [cells22] at hl
  have hv : v = .agg v.cells.toList.toArray := by
    cases v <;> first | rfl | (exfalso; revert hl; simp [Value.cells])
  refine ⟨v.cells.toList, hv, hl, fun b hb => ?_⟩
  have h1 := hi b hb
  rw [cells5, Nat.mul_one] at h1
  obtain ⟨y, hy⟩ : ∃ y, xs[b]? = some y := ⟨_, List.getElem?_eq_getElem (by omega)⟩
  rw [hy] at h1
  obtain ⟨n, hn, -, hw⟩ := DataW.trod_int Yba.underlying5 h1
  have hc : v.cells.toList[b]? = some (.int .u8 n) := by
    have := congrArg (fun l => l[0]?) hn
    simp only [List.getElem?_take, List.getElem?_drop] at this
    simpa using this
  simp [Lit.wf, IntKind.min, IntKind.max, IntKind.signed, IntKind.bits] at hw
  rw [hc]
  unfold num
  rw [hc]
  have : ((n.toNat % 256 : Nat) : Int) = n := by omega
  simp only [this]
end

set_option maxRecDepth 100000 in
theorem lifted (os : Os) (started : os.Started) (H : Type) (enc : TypeId × Value → H) :
    ReturnsInHanded {} Yba.checked os 4 .any (Rows.lawS1096CAnyTableSpec.pre6 enc Yba.prog Yba.f4 Rows.lawS1096CAnyTableRow.domain false) (Rows.lawS1096CAnyTableSpec.post enc Yba.prog Yba.f4 false true false false) := by
  refine returnsInHanded_of_change (C := Yba.checked) own started (by kernel_rfl) Yba.func4
    (ChangeSpec.witness6 (enc := enc) (C := Yba.checked) false ⟨#[], #[.agg (Array.replicate 256 (.int .u8 0)), .int .i32 0], []⟩ 8 (by kernel_rfl) (by kernel_rfl) (by kernel_rfl) (by kernel_rfl)) ?_
  intro W base args ds gs before hval0 hW hcnd _
  have hval : ∀ (j : Nat) t v, Yba.f4.params[j]? = some t → args[j]? = some v → Value.okWide Yba.prog W .any base t v := hval0
  have hW' := hW
  obtain ⟨p, q, hA0, hV, rfl, hfz, hnd⟩ := hW
  have hA : DataW.TrodAll enc Yba.prog W 0 (fun _ => true) true Yba.f4.params.toList args.toList ds p := hA0
  rw [Yba.params4] at hA hval
  obtain ⟨v0, vs0, d0, ds0, p0, q0, hargs, rfl, rfl, h0, r0⟩ := trodAll_cons hA
  obtain ⟨v1, vs1, d1, ds1, p1, q1, rfl, rfl, rfl, h1, r1⟩ := trodAll_cons r0
  obtain ⟨rfl, rfl, rfl⟩ := trodAll_nil r1
  obtain rfl : args = #[v0, v1] := by cases args; simp_all
  obtain ⟨rfl, rfl⟩ := trodVars_none hV
  obtain ⟨a1, rfl, rfl, rfl, w1⟩ := open_int Yba.underlying21 (hval 1 21 v1 rfl rfl) h1
  obtain ⟨cs, rfl, hl, hc⟩ := open22 h0
  clear hA0 hval0
  refine (any_any cs (num cs) a1 W hl hc (num_lt cs)).mono fun e W' ⟨he, bel⟩ => ?_
  subst he
  exact ⟨_, rfl, _, _, _, [], _, [], hW', trodAll_mk1 (shut_bool Yba.underlying4 _), (trodAll_cons_mk (shut22 h0) (trodAll_cons_mk (shut_int Yba.underlying21 w1) trodAll_mk0)), rfl, bel.frame _, fun h => by cases h⟩

theorem over : Rows.lawS1096CAnyTableRow.holds Yba.pinned (OpenSpec.ofChange Rows.lawS1096CAnyTableSpec) :=
  OpenClaim.holds_of_wide 4 Yba.f4 rfl rfl rfl rfl rfl rfl rfl ⟨rfl, rfl, rfl, rfl, rfl⟩ rfl rfl rfl rfl rfl (by kernel_rfl) Yba.func4 (by kernel_rfl)
    (of_decide_eq_true (by kernel_rfl)) (by unfold Func.isWrapper; first | (rw [if_pos (by decide +kernel)]; kernel_rfl) | (rw [if_neg (by decide +kernel)]; exact ⟨rfl, rfl⟩))
    (fun os started H enc _ => lifted os started H enc)

/-- ████ THE STATEMENT ████ -/
theorem proved : Rows.LawS1096CAnyTableSaid := over
#print axioms proved
end Go.Proofs.Ybulkvre.lawS1096CAnyTable
