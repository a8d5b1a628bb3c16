import Derived.Test.YbulkvnyLaw
import Derived.ProofKit
import Derived.OpenShut
import Derived.ChangeOld
import Derived.Below
import Derived.Deep.Matrix
set_option linter.unusedVariables false
set_option linter.unusedSimpArgs false
namespace Go.Proofs.Ybulkvny
open Go.ChangeShapes Go.WideShapes Go.ChangeAt Go.RowKit Go.Deep

theorem own : ownKnob Yba.prog.godebug = none := by kernel_rfl

theorem nat_of_u8 {a : Int} (h : (Lit.int .u8 a).wf = true) : ∃ n : Nat, a = n ∧ n < 256 := by
  simp [Lit.wf, IntKind.min, IntKind.max, IntKind.signed, IntKind.bits] at h
  exact ⟨a.toNat, by omega, by omega⟩

/-- bytes, as natural numbers -/
def nats (zs : List Int) : List Nat := zs.map Int.toNat
theorem nats_getD (zs : List Int) (hw : ∀ n ∈ zs, (Lit.int .u8 n).wf = true) (j : Nat) (hj : j < zs.length) : zs.getD j 0 = (((nats zs).getD j 0 : Nat) : Int) ∧ (nats zs).getD j 0 < 256 := by
  obtain ⟨n, h1, h2⟩ := nat_of_u8 (hw zs[j] (List.getElem_mem hj))
  simp only [nats, List.getD_eq_getElem?_getD, List.getElem?_map, List.getElem?_eq_getElem hj, Option.getD_some, Option.map_some]
  omega

/-- a row of bytes as a 'Src' -/
theorem src_of {w : World} {A : Option Addr} {len cap : Nat} {zs : List Int} (hl : len ≤ cap) (hz : zs.length = cap) (hw : ∀ n ∈ zs, (Lit.int .u8 n).wf = true) (hn : A = none → cap = 0)
    (hc : ∀ a', A = some a' → ∀ c, c < cap → w.cell? (a'.add c) = some (.int .u8 (zs.getD c 0))) : Src w A len ((nats zs).take len) := by
  refine ⟨by simp [nats, hz]; omega, fun h0 => ?_⟩
  cases A with
  | none => have := hn rfl; omega
  | some a =>
    obtain ⟨b, off, spot⟩ := a
    have h1 := hc _ rfl
    have hspot : spot = none := by simpa [Addr.add] using World.cell?_spot (h1 0 (by omega))
    subst hspot
    have hcell : ∀ j, j < len → w.cell? ⟨b, off + j, none⟩ = some (.int .u8 (((nats zs).take len).getD j 0 : Nat)) := fun j hj => by
      have h2 := (nats_getD zs hw j (by omega)).1
      rw [← add_plain, h1 j (by omega), h2]
      simp [List.getD_eq_getElem?_getD, List.getElem?_take, hj]
    exact ⟨b, off, rfl, World.block_lt_of_cell? _ _ (hcell 0 h0), hcell⟩

set_option maxRecDepth 100000 in
/-- one of the two is too long: true at once -/
theorem law_long (ka va : Option Addr) (kn kc vn vc : Nat) (q : Int) (w : World) (h : 1024 < kn ∨ 1024 < vn) :
    Calls Yba.prog 3 #[.slice ka kn kc, .slice va vn vc, .int .u8 q] w fun e w' => e = .returned (.bool true) ∧ Below w.heap.size w w' := by
  by_cases h1 : 1024 < kn
  · have c1 : decide ((1024 : Int) < (kn : Int)) = true := decide_eq_true (by omega)
    go_enter Yba.func3, Yba.ntmps3
    go_wp2
    go_ret
    exact ⟨rfl, Below.refl _ _⟩
  · have c1 : decide ((1024 : Int) < (kn : Int)) = false := decide_eq_false (by omega)
    have c2 : decide ((1024 : Int) < (vn : Int)) = true := decide_eq_true (by omega)
    go_enter Yba.func3, Yba.ntmps3
    go_wp2
    go_ret
    exact ⟨rfl, Below.refl _ _⟩

/-- a slice of bytes that came in -/
def IsBytes (w : World) (a : Option Addr) (len : Nat) : Prop := ∃ b off f, Arg w a len b off f ∧ ∀ i, f i < 256
/-- a slice of such -/
def IsRows (w : World) (a : Option Addr) (len : Nat) : Prop := ∃ b off A N C L, Vals w a len b off A N C L ∧ ∀ i, N i ≤ 9223372036854775807

theorem walk (a0 a1 : Option Addr) (l0 c0 l1 c1 : Nat) (a2 : Int) (w : World) (h0 : IsBytes w a0 l0) (h1 : IsRows w a1 l1) (w2 : (Lit.int .u8 a2).wf = true) :
    Calls Yba.prog 3 #[.slice a0 l0 c0, .slice a1 l1 c1, .int .u8 a2] w fun e w' => e = .returned (.bool true) ∧ Below w.heap.size w w' := by
  by_cases hl : 1024 < l0 ∨ 1024 < l1
  · exact law_long a0 a1 l0 c0 l1 c1 a2 w hl
  obtain ⟨q, rfl, hq⟩ := nat_of_u8 w2
  obtain ⟨kb, koff, K, hK, hKb⟩ := h0
  obtain ⟨vb, voff, A, N, C, L, hV, hN⟩ := h1
  exact law_main a0 a1 l0 c0 kb koff l1 c1 vb voff q K A N C L w (by omega) (by omega) hq hK hKb hV hN

set_option maxRecDepth 100000 in
theorem lifted (os : Os) (started : os.Started) (H : Type) (enc : TypeId × Value → H) :
    ReturnsInHanded {} Yba.checked os 3 .any (Rows.lawS1090CLookupSpec.pre6 enc Yba.prog Yba.f3 Rows.lawS1090CLookupRow.domain false) (Rows.lawS1090CLookupSpec.post enc Yba.prog Yba.f3 false true false false) := by
  refine returnsInHanded_of_change (C := Yba.checked) own started (by kernel_rfl) Yba.func3
    (ChangeSpec.witness6 (enc := enc) (C := Yba.checked) false ⟨#[], #[.slice none 0 0, .slice none 0 0, .int .u8 0], []⟩ 8 (by kernel_rfl) (by kernel_rfl) (by kernel_rfl) (by kernel_rfl)) ?_
  intro W base args ds gs before hval0 hW hcnd _
  have hval : ∀ (j : Nat) t v, Yba.f3.params[j]? = some t → args[j]? = some v → Value.okWide Yba.prog W .any base t v := hval0
  have hW' := hW
  obtain ⟨p, q, hA0, hV, rfl, hfz, hnd⟩ := hW
  have hA : DataW.TrodAll enc Yba.prog W 0 (fun _ => true) true Yba.f3.params.toList args.toList ds p := hA0
  rw [Yba.params3] at hA hval
  obtain ⟨v0, vs0, d0, ds0, p0, q0, hargs, rfl, rfl, h0, r0⟩ := trodAll_cons hA
  obtain ⟨v1, vs1, d1, ds1, p1, q1, rfl, rfl, rfl, h1, r1⟩ := trodAll_cons r0
  obtain ⟨v2, vs2, d2, ds2, p2, q2, rfl, rfl, rfl, h2, r2⟩ := trodAll_cons r1
  obtain ⟨rfl, rfl, rfl⟩ := trodAll_nil r2
  obtain rfl : args = #[v0, v1, v2] := by cases args; simp_all
  obtain ⟨rfl, rfl⟩ := trodVars_none hV
  obtain ⟨a0, len0, cap0, rfl⟩ := okWide_slice Yba.underlying22 (hval 0 22 v0 rfl rfl)
  have k0 := h0
  have lt0 : ∀ x ∈ p0, x.block < W.heap.size := by obtain ⟨m, hm⟩ := k0; exact DataW.trod_lt m _ _ _ hm
  have w0 : IsBytes W a0 len0 := by
    obtain ⟨fuel, hf⟩ := h0
    rcases open_ints Yba.underlying22 Yba.underlying5 (by kernel_rfl) hf with ⟨hcs, _⟩ | ⟨x, l, c, zs, hcs, _, hl, hm, hz, _, hcell, hwz⟩
    · simp [Value.cells] at hcs
      obtain ⟨rfl, rfl, rfl⟩ := hcs
      exact ⟨0, 0, fun _ => 0, ⟨fun h => by omega, fun i hi => by omega, fun h => by omega⟩, fun _ => Nat.zero_lt_succ _⟩
    · simp [Value.cells] at hcs
      obtain ⟨rfl, rfl, rfl⟩ := hcs
      have hz' : zs.length = cap0 := by simpa using hz
      have hs := src_of (w := W) (A := some x) hl hz' hwz (fun h => by cases h) (fun a' e c hc => by
        cases e
        exact hcell c (by rw [hz']; exact hc))
      have hb : ∀ i, ((nats zs).take len0).getD i 0 < 256 := fun i => by
        by_cases hi : i < ((nats zs).take len0).length
        · have hi2 : i < zs.length := by simp [nats] at hi; omega
          have h3 := (nats_getD zs hwz i hi2).2
          simp only [List.getD_eq_getElem?_getD, List.getElem?_take] at h3 ⊢
          rw [if_pos (by simp at hi; omega)]; exact h3
        · simp only [List.getD_eq_getElem?_getD, List.getElem?_eq_none (Nat.le_of_not_lt hi)]; decide
      by_cases e0 : 0 < len0
      · obtain ⟨b, off, e, hlt, hc⟩ := hs.cells e0
        exact ⟨b, off, fun i => ((nats zs).take len0).getD i 0, ⟨fun _ => e, hc, fun _ => hlt⟩, hb⟩
      · exact ⟨0, 0, fun i => 0, ⟨fun h => by omega, fun i hi => by omega, fun h => by omega⟩, fun _ => Nat.zero_lt_succ _⟩
  obtain ⟨a1, len1, cap1, rfl⟩ := okWide_slice Yba.underlying23 (hval 1 23 v1 rfl rfl)
  have k1 := h1
  have lt1 : ∀ x ∈ p1, x.block < W.heap.size := by obtain ⟨m, hm⟩ := k1; exact DataW.trod_lt m _ _ _ hm
  have w1 : IsRows W a1 len1 := by
    obtain ⟨fuel, hf⟩ := h1
    rcases open_int_rows Yba.underlying23 Yba.underlying22 Yba.underlying5 (by kernel_rfl) (by kernel_rfl) hf with ⟨hcs, _⟩ | ⟨x, l, c, A, L, C, Z, hcs, _, hl, hm, _, hrows⟩
    · simp [Value.cells] at hcs
      obtain ⟨rfl, rfl, rfl⟩ := hcs
      exact ⟨0, 0, fun _ => none, fun _ => 0, fun _ => 0, fun _ => [], ⟨fun h => by omega, fun i hi => by omega, fun h => by omega, fun i hi => by omega⟩, fun _ => Nat.zero_le _⟩
    · simp [Value.cells] at hcs
      obtain ⟨rfl, rfl, rfl⟩ := hcs
      by_cases e0 : 0 < len1
      · obtain ⟨b, off, spot⟩ := x
        have hspot : spot = none := by simpa [Addr.add] using World.cell?_spot (hrows 0 (by omega)).1
        subst hspot
        refine ⟨b, off, A, fun i => if i < len1 then L i else 0, C, fun i => (nats (Z i)).take (L i), ⟨fun _ => rfl, fun i hi => ?_, fun _ => ?_, fun i hi => ?_⟩, fun i => ?_⟩
        · rw [← add_plain, (hrows i (by omega)).1, if_pos hi]
        · have h3 := (hrows 0 (by omega)).1
          have h4 := World.block_lt_of_cell? _ _ h3
          simpa [Addr.add] using h4
        · obtain ⟨_, g1, g2, g3, g4, g5, g6⟩ := hrows i (by omega)
          rw [if_pos hi]
          exact src_of g1 g3 g4 g5 (fun a' e => (g6 a' e).2)
        · show (if i < len1 then L i else 0) ≤ 9223372036854775807
          split
          · obtain ⟨_, g1, g2, _⟩ := hrows i (by omega)
            unfold maxLen at g2; omega
          · decide
      · exact ⟨0, 0, fun _ => none, fun _ => 0, fun _ => 0, fun _ => [], ⟨fun h => by omega, fun i hi => by omega, fun h => by omega, fun i hi => by omega⟩, fun _ => Nat.zero_le _⟩
  obtain ⟨a2, rfl, rfl, rfl, w2⟩ := open_int Yba.underlying5 (hval 2 5 v2 rfl rfl) h2
  clear hA0 hval0
  refine (walk a0 a1 len0 cap0 len1 cap1 a2 W w0 w1 w2).mono fun e W' ⟨he, bel⟩ => ?_
  subst he
  exact ⟨_, rfl, _, _, _, [], _, [], hW', trodAll_mk1 (shut_bool Yba.underlying4 _), (trodAll_cons_mk (Below.trod laidOut (by kernel_rfl) (of_decide_eq_true (by kernel_rfl)) k0 bel lt0) (trodAll_cons_mk (Below.trod laidOut (by kernel_rfl) (of_decide_eq_true (by kernel_rfl)) k1 bel lt1) (trodAll_cons_mk (shut_int Yba.underlying5 w2) trodAll_mk0))), rfl, bel.frame _, fun h => by cases h⟩

theorem lawS1090CLookup_proved : Rows.LawS1090CLookupSaid :=
  OpenClaim.holds_of_wide 3 Yba.f3 rfl rfl rfl rfl rfl rfl rfl ⟨rfl, rfl, rfl, rfl, rfl⟩ rfl rfl rfl rfl rfl (by kernel_rfl) Yba.func3 (by kernel_rfl)
    (of_decide_eq_true (by kernel_rfl)) (by unfold Func.isWrapper; first | (rw [if_pos (by decide +kernel)]; kernel_rfl) | (rw [if_neg (by decide +kernel)]; exact ⟨rfl, rfl⟩))
    (fun os started H enc _ => lifted os started H enc)
#print axioms lawS1090CLookup_proved
end Go.Proofs.Ybulkvny
