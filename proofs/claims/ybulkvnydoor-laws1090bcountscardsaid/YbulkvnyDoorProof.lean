import Derived.Test.YbulkvnyDoorLaw2
import Derived.WalkKit
import Derived.ProofKit
import Derived.OpenShut
import Derived.ShutString
import Derived.ChangeOld
import Derived.Below
import Derived.LaidMore
import Derived.Stop.Joined
import Derived.Lib.LaidTab
namespace Go.Proofs.YbulkvnyDoor.lawS1090BCounts
open Go.ChangeShapes Go.WideShapes Go.ChangeAt Go.RowKit
open Go.ChangeMaps (open_string shut_string)
set_option linter.unusedVariables false
set_option linter.unusedSimpArgs false

theorem own : ownKnob Ybad.prog.godebug = none := by kernel_rfl
theorem laidOut : laidOutB Ybad.prog = true := by kernel_rfl

/-- WHAT THE WALK IS TOLD OF A SLICE OF INTEGERS THAT CAME IN: it is nil; or it leads to a row of 'cap' cells, the numbers 'zs' (the first 'len' are its elements, the rest its spare room), each fitting its kind. -/
def IsRow (k : IntKind) (w : World) (a : Option Addr) (len cap : Nat) (zs : List Int) : Prop :=
  (a = none ∧ len = 0 ∧ cap = 0 ∧ zs = []) ∨
  ∃ x, a = some x ∧ len ≤ cap ∧ cap ≤ maxLen ∧ zs.length = cap ∧ (∀ i, i < zs.length → w.cell? (x.add i) = some (.int k (zs.getD i 0))) ∧ ∀ n ∈ zs, (Lit.int k n).wf = true

theorem nat_of_u8 {a : Int} (h : (Lit.int .u8 a).wf = true) : ∃ n : Nat, a = n ∧ n < 256 := by
  simp [Lit.wf, IntKind.min, IntKind.max, IntKind.signed, IntKind.bits] at h
  exact ⟨a.toNat, by omega, by omega⟩
theorem nat_of_u64 {a : Int} (h : (Lit.int .u64 a).wf = true) : ∃ n : Nat, a = n ∧ n < 18446744073709551616 := by
  simp [Lit.wf, IntKind.min, IntKind.max, IntKind.signed, IntKind.bits] at h
  exact ⟨a.toNat, by omega, by omega⟩

/-- a row of integers that came in, as the walks want it -/
theorem arg_of_row {k : IntKind} {B : Nat} (hB : 0 < B) {w : World} {a : Option Addr} {len cap : Nat} {zs : List Int} (h : IsRow k w a len cap zs) (hk : ∀ z : Int, (Lit.int k z).wf = true → ∃ n : Nat, z = n ∧ n < B) :
    ∃ (b off : Nat) (f : Nat → Nat), Arg w k a len b off f ∧ ∀ j, f j < B := by
  rcases h with ⟨rfl, rfl, rfl, rfl⟩ | ⟨x, rfl, hl, _, hz, hc, hw⟩
  · exact ⟨0, 0, fun _ => 0, ⟨fun h => by omega, fun i hi => by omega, fun h => by omega⟩, fun _ => hB⟩
  · have hnat : ∀ j, ∃ n : Nat, (j < zs.length → zs.getD j 0 = n) ∧ n < B := fun j => by
      by_cases hj : j < zs.length
      · obtain ⟨n, h1, h2⟩ := hk (zs.getD j 0) (hw _ (by rw [List.getD_eq_getElem?_getD, List.getElem?_eq_getElem hj]; exact List.getElem_mem hj))
        exact ⟨n, fun _ => h1, h2⟩
      · exact ⟨0, fun h => absurd h hj, hB⟩
    have hfun : ∃ f : Nat → Nat, ∀ j, (j < zs.length → zs.getD j 0 = (f j : Int)) ∧ f j < B := ⟨fun j => Classical.choose (hnat j), fun j => Classical.choose_spec (hnat j)⟩
    obtain ⟨f, hf⟩ := hfun
    by_cases h0 : len = 0
    · exact ⟨0, 0, f, ⟨fun h => by omega, fun i hi => by omega, fun h => by omega⟩, fun j => (hf j).2⟩
    · obtain ⟨b, off, spot⟩ := x
      have hspot : spot = none := by simpa [Addr.add] using World.cell?_spot (hc 0 (by omega))
      subst hspot
      have hcell : ∀ i, i < len → w.cell? ⟨b, off + i, none⟩ = some (.int k (f i)) := fun i hi => by
        rw [← add_plain, hc i (by omega), (hf i).1 (by omega)]
      exact ⟨b, off, f, ⟨fun _ => rfl, hcell, fun _ => World.block_lt_of_cell? _ _ (hcell 0 (by omega))⟩, fun j => (hf j).2⟩

set_option maxRecDepth 100000 in
/-- one of the three is too long: true at once -/
theorem law_long (a0 a3 a4 : Int) (da ra ia : Option Addr) (dn dc rn rc inn ic : Nat) (w : World) (h : 4096 < dn ∨ 4096 < rn ∨ 4096 < inn) :
    Calls Ybad.prog 3 #[.int .u8 a0, .slice da dn dc, .slice ra rn rc, .int .u8 a3, .int .u8 a4, .slice ia inn ic] w fun e w' => e = .returned (.bool true) ∧ Below w.heap.size w w' := by
  by_cases h1 : 4096 < dn
  · have c1 : decide ((4096 : Int) < (dn : Int)) = true := decide_eq_true (by omega)
    go_enter Ybad.func3, Ybad.ntmps3
    go_wp2
    go_ret
    exact ⟨rfl, Below.refl _ _⟩
  · have c1 : decide ((4096 : Int) < (dn : Int)) = false := decide_eq_false (by omega)
    by_cases h2 : 4096 < rn
    · have c2 : decide ((4096 : Int) < (rn : Int)) = true := decide_eq_true (by omega)
      go_enter Ybad.func3, Ybad.ntmps3
      go_wp2
      go_ret
      exact ⟨rfl, Below.refl _ _⟩
    · have c2 : decide ((4096 : Int) < (rn : Int)) = false := decide_eq_false (by omega)
      have c3 : decide ((4096 : Int) < (inn : Int)) = true := decide_eq_true (by omega)
      go_enter Ybad.func3, Ybad.ntmps3
      go_wp2
      go_ret
      exact ⟨rfl, Below.refl _ _⟩

theorem walk (a0 : Int) (a1 : Option Addr) (len1 cap1 : Nat) (z1 : List Int) (a2 : Option Addr) (len2 cap2 : Nat) (z2 : List Int) (a3 : Int) (a4 : Int) (a5 : Option Addr) (len5 cap5 : Nat) (z5 : List Int) (w : World) (w0 : (Lit.int .u8 a0).wf = true) (w1 : IsRow .u64 w a1 len1 cap1 z1) (w2 : IsRow .u8 w a2 len2 cap2 z2) (w3 : (Lit.int .u8 a3).wf = true) (w4 : (Lit.int .u8 a4).wf = true) (w5 : IsRow .u64 w a5 len5 cap5 z5) (hT : TabAt w) :
    Calls Ybad.prog 3 #[.int .u8 a0, .slice a1 len1 cap1, .slice a2 len2 cap2, .int .u8 a3, .int .u8 a4, .slice a5 len5 cap5] w fun e w' => e = .returned (.bool true) ∧ Below w.heap.size w w' := by
  by_cases hl : 4096 < len1 ∨ 4096 < len2 ∨ 4096 < len5
  · exact law_long a0 a3 a4 a1 a2 a5 len1 cap1 len2 cap2 len5 cap5 w hl
  obtain ⟨n0, rfl, g0⟩ := nat_of_u8 w0
  obtain ⟨n3, rfl, g3⟩ := nat_of_u8 w3
  obtain ⟨n4, rfl, g4⟩ := nat_of_u8 w4
  obtain ⟨b1, o1, f1, A1, B1⟩ := arg_of_row (by decide) w1 (fun z h => nat_of_u64 h)
  obtain ⟨b2, o2, f2, A2, B2⟩ := arg_of_row (by decide) w2 (fun z h => nat_of_u8 h)
  obtain ⟨b5, o5, f5, A5, B5⟩ := arg_of_row (by decide) w5 (fun z h => nat_of_u64 h)
  have hg : 0 < w.heap.size := World.block_lt_of_cell? (a := ⟨0, 0, none⟩) _ (hT 0 (by decide))
  by_cases hd : 0 < len1
  · exact law_pos n0 n3 n4 a1 a2 a5 len1 cap1 b1 o1 len2 cap2 b2 o2 len5 cap5 b5 o5 f1 f2 f5 w g0 g3 g4 (by omega) (by omega) (by omega) hd A1 A2 A5 B1 B2 B5 hT hg
  · exact law_zero n0 n3 n4 a1 a2 a5 len1 cap1 b1 o1 len2 cap2 b2 o2 len5 cap5 b5 o5 f1 f2 f5 w g0 g3 g4 (by omega) (by omega) (by omega) (by omega) A1 A2 A5 B1 B2 B5 hT hg

abbrev laidL : List (String × DataW Unit) := Rows.lawS1090BCountsRow.laid

theorem door_met (os : Os) (args : Array Value) : laidMetH Ybad.prog laidL ((World.doorLaid Ybad.prog 14 os).forCall (fun _ _ => 0) ⟨#[], args, []⟩).memory :=
  laidMetH_of_parts3 (fuel := 8) (laidMet_of_run' 8 (by kernel_rfl) (by kernel_rfl)) (by kernel_rfl) (by kernel_rfl)

theorem tab_global : (Ybad.prog.globals[0]?).map (fun g => (g.type, Ybad.prog.globalNamed g.name)) = some (48, some 0) := by kernel_rfl

theorem of_laid {W : World} (h : laidMetH Ybad.prog laidL W) : TabAt W := by
  rw [MakeChecks.laidMetH_plain _ _ _ (by kernel_rfl)] at h
  have h' : laidMet Ybad.prog ((_, Lib.tabData .u8 (Lib.deBruijn64tab.map Int.ofNat)) :: []) W := h
  have hT := Lib.tabIs_of_head (g := 0) (t := 48) (e := 5) (n := 64) (by kernel_rfl) (by kernel_rfl) Ybad.underlying48 Ybad.underlying5 (by kernel_rfl) (by kernel_rfl) h'
  intro j hj
  have := hT.cell (g := 0) (by kernel_rfl) j (by simpa [Lib.deBruijn64tab] using hj)
  rw [this]
  have h64 : ∀ j, j < 64 → (Lib.deBruijn64tab.map Int.ofNat).getD j 0 = ((Lib.deBruijn64tab.getD j 0 : Nat) : Int) := by decide +kernel
  rw [h64 j hj]

/-! ### THE ROW's STEP: WRITTEN OUT: LEAVE IT -/
set_option maxRecDepth 100000 in
theorem lifted (os : Os) (started : os.Started) (H : Type) (enc : TypeId × Value → H) :
    ReturnsInHanded {} Ybad.checked os 3 .any (fun w args => (Rows.lawS1090BCountsSpec.pre enc Ybad.prog Ybad.f3 [] false w args ∧ laidMetH Ybad.prog laidL w) ∧ sizedMet enc Ybad.prog Ybad.f3 (OpenSpec.ofChange Rows.lawS1090BCountsSpec) false w args) (Rows.lawS1090BCountsSpec.post enc Ybad.prog Ybad.f3 false true false false) := by
  refine returnsInHanded_of_change_and (C := Ybad.checked) (X := fun w _ => laidMetH Ybad.prog laidL w) (fun _ _ _ hh h => h.of_heap hh) own started (by kernel_rfl) Ybad.func3
    (ChangeSpec.witness_shaped (enc := enc) (C := Ybad.checked) (os := os) (X := fun w _ => laidMetH Ybad.prog laidL w) false (World.doorLaid Ybad.prog 14 os) #[.int .u8 0, .slice none 0 0, .slice none 0 0, .int .u8 0, .int .u8 0, .slice none 0 0] 8 rfl (World.shaped_of_RefB (by kernel_rfl) (by kernel_rfl)) (by kernel_rfl) (by kernel_rfl) (by kernel_rfl) (door_met os _)) ?_
  intro W base args ds gs before hval0 hW _ _ hL _
  have hval : ∀ (j : Nat) t v, Ybad.f3.params[j]? = some t → args[j]? = some v → Value.okWide Ybad.prog W .any base t v := hval0
  have hW' := hW
  obtain ⟨p, q, hA0, hV, rfl, hfz, hnd⟩ := hW
  have hA : DataW.TrodAll enc Ybad.prog W 0 (fun _ => true) true Ybad.f3.params.toList args.toList ds p := hA0
  rw [Ybad.params3] at hA hval
  obtain ⟨v0, vs0, d0, ds0, p0, q0, hargs, rfl, rfl, h0, r0⟩ := trodAll_cons hA
  obtain ⟨v1, vs1, d1, ds1, p1, q1, rfl, rfl, rfl, h1, r1⟩ := trodAll_cons r0
  obtain ⟨v2, vs2, d2, ds2, p2, q2, rfl, rfl, rfl, h2, r2⟩ := trodAll_cons r1
  obtain ⟨v3, vs3, d3, ds3, p3, q3, rfl, rfl, rfl, h3, r3⟩ := trodAll_cons r2
  obtain ⟨v4, vs4, d4, ds4, p4, q4, rfl, rfl, rfl, h4, r4⟩ := trodAll_cons r3
  obtain ⟨v5, vs5, d5, ds5, p5, q5, rfl, rfl, rfl, h5, r5⟩ := trodAll_cons r4
  obtain ⟨rfl, rfl, rfl⟩ := trodAll_nil r5
  obtain rfl : args = #[v0, v1, v2, v3, v4, v5] := by cases args; simp_all
  obtain ⟨rfl, rfl⟩ := trodVars_none hV
  obtain ⟨a0, rfl, rfl, rfl, w0⟩ := open_int Ybad.underlying5 (hval 0 5 v0 rfl rfl) h0
  obtain ⟨a1, len1, cap1, rfl⟩ := okWide_slice Ybad.underlying22 (hval 1 22 v1 rfl rfl)
  have k1 := h1
  have lt1 : ∀ x ∈ p1, x.block < W.heap.size := by obtain ⟨m, hm⟩ := k1; exact DataW.trod_lt m _ _ _ hm
  obtain ⟨z1, w1⟩ : ∃ zs, IsRow .u64 W a1 len1 cap1 zs := by
    obtain ⟨fuel, hf⟩ := h1
    rcases open_ints Ybad.underlying22 Ybad.underlying24 (by kernel_rfl) hf with ⟨hcs, _⟩ | ⟨x, l, c, zs, hcs, _, hl, hm, hz, _, hcell, hwz⟩
    · simp [Value.cells] at hcs
      obtain ⟨rfl, rfl, rfl⟩ := hcs
      exact ⟨[], .inl ⟨rfl, rfl, rfl, rfl⟩⟩
    · simp [Value.cells] at hcs
      obtain ⟨rfl, rfl, rfl⟩ := hcs
      exact ⟨zs, .inr ⟨_, rfl, hl, hm, by simpa using hz, hcell, hwz⟩⟩
  obtain ⟨a2, len2, cap2, rfl⟩ := okWide_slice Ybad.underlying23 (hval 2 23 v2 rfl rfl)
  have k2 := h2
  have lt2 : ∀ x ∈ p2, x.block < W.heap.size := by obtain ⟨m, hm⟩ := k2; exact DataW.trod_lt m _ _ _ hm
  obtain ⟨z2, w2⟩ : ∃ zs, IsRow .u8 W a2 len2 cap2 zs := by
    obtain ⟨fuel, hf⟩ := h2
    rcases open_ints Ybad.underlying23 Ybad.underlying5 (by kernel_rfl) hf with ⟨hcs, _⟩ | ⟨x, l, c, zs, hcs, _, hl, hm, hz, _, hcell, hwz⟩
    · simp [Value.cells] at hcs
      obtain ⟨rfl, rfl, rfl⟩ := hcs
      exact ⟨[], .inl ⟨rfl, rfl, rfl, rfl⟩⟩
    · simp [Value.cells] at hcs
      obtain ⟨rfl, rfl, rfl⟩ := hcs
      exact ⟨zs, .inr ⟨_, rfl, hl, hm, by simpa using hz, hcell, hwz⟩⟩
  obtain ⟨a3, rfl, rfl, rfl, w3⟩ := open_int Ybad.underlying5 (hval 3 5 v3 rfl rfl) h3
  obtain ⟨a4, rfl, rfl, rfl, w4⟩ := open_int Ybad.underlying5 (hval 4 5 v4 rfl rfl) h4
  obtain ⟨a5, len5, cap5, rfl⟩ := okWide_slice Ybad.underlying22 (hval 5 22 v5 rfl rfl)
  have k5 := h5
  have lt5 : ∀ x ∈ p5, x.block < W.heap.size := by obtain ⟨m, hm⟩ := k5; exact DataW.trod_lt m _ _ _ hm
  obtain ⟨z5, w5⟩ : ∃ zs, IsRow .u64 W a5 len5 cap5 zs := by
    obtain ⟨fuel, hf⟩ := h5
    rcases open_ints Ybad.underlying22 Ybad.underlying24 (by kernel_rfl) hf with ⟨hcs, _⟩ | ⟨x, l, c, zs, hcs, _, hl, hm, hz, _, hcell, hwz⟩
    · simp [Value.cells] at hcs
      obtain ⟨rfl, rfl, rfl⟩ := hcs
      exact ⟨[], .inl ⟨rfl, rfl, rfl, rfl⟩⟩
    · simp [Value.cells] at hcs
      obtain ⟨rfl, rfl, rfl⟩ := hcs
      exact ⟨zs, .inr ⟨_, rfl, hl, hm, by simpa using hz, hcell, hwz⟩⟩
  clear hA0 hval0
  refine (walk a0 a1 len1 cap1 z1 a2 len2 cap2 z2 a3 a4 a5 len5 cap5 z5 W w0 w1 w2 w3 w4 w5 (of_laid hL)).mono fun e W' ⟨he, bel⟩ => ?_
  subst he
  exact ⟨_, rfl, _, _, _, [], _, [], hW', trodAll_mk1 (shut_bool Ybad.underlying4 _), (trodAll_cons_mk (shut_int Ybad.underlying5 w0) (trodAll_cons_mk (Below.trod laidOut (by kernel_rfl) (of_decide_eq_true (by kernel_rfl)) k1 bel lt1) (trodAll_cons_mk (Below.trod laidOut (by kernel_rfl) (of_decide_eq_true (by kernel_rfl)) k2 bel lt2) (trodAll_cons_mk (shut_int Ybad.underlying5 w3) (trodAll_cons_mk (shut_int Ybad.underlying5 w4) (trodAll_cons_mk (Below.trod laidOut (by kernel_rfl) (of_decide_eq_true (by kernel_rfl)) k5 bel lt5) trodAll_mk0)))))), rfl, bel.frame _, fun h => by cases h⟩

theorem over : Rows.lawS1090BCountsRow.holds Ybad.pinned (OpenSpec.ofChange Rows.lawS1090BCountsSpec) :=
  OpenClaim.holds_of_wide 3 Ybad.f3 rfl rfl rfl rfl rfl rfl rfl ⟨rfl, rfl, rfl, rfl, rfl⟩ rfl rfl rfl rfl rfl (by kernel_rfl) Ybad.func3 (by kernel_rfl)
    (of_decide_eq_true (by kernel_rfl)) (by unfold Func.isWrapper; first | (rw [if_pos (by decide +kernel)]; kernel_rfl) | (rw [if_neg (by decide +kernel)]; exact ⟨rfl, rfl⟩))
    (fun os started H enc _ => lifted os started H enc)

/-- ████ THE STATEMENT ████ -/
theorem proved : Rows.LawS1090BCountsSaid := over
end Go.Proofs.YbulkvnyDoor.lawS1090BCounts
