import Derived.Test.YbulkvsgDoorFrac
import Derived.Deep.MidRow
set_option linter.unusedVariables false
set_option linter.unusedSimpArgs false
namespace Go.Proofs.YbulkvsgDoor
open Go.RowKit

theorem results_cell_mid2 {P : Program} {fn : Func} {p u : Tmp} {ty : TypeId} (h : fn.results = #[.cell p ty, .tmp u]) (tmps : Array Value) (w : World) (g : Nat) (cs : List Value) (d : TypeDesc)
    (hp : tmps.getD p undef = .pointer (some ⟨g, 0, none⟩)) (hg : w.rangeAt g 0 cs)
    (hu : P.underlying ty = some d) (hd : d.isRow = true) (hi : (P.info? ty).map (·.size) = some cs.length) :
    (results fn tmps).run P w = .ok (.tuple #[.agg cs.toArray, tmps.getD u undef]) w := by
  rw [results_cell_tmp h, hp]
  simp [asAddr, run_loadVar_mid w g 0 ty cs d hg hu hd hi]

theorem mul_bound (a : Int) (n : Nat) (ha : a.natAbs ≤ 1048576) (hn : n ≤ 65536) : (a * n).natAbs ≤ 68719476736 := by
  rw [Int.natAbs_mul, Int.natAbs_natCast]
  exact Nat.mul_le_mul ha hn

/-- the blank result in its block, behind the callee -/
structure Blank (n : Nat) (w2 : World) : Prop where
  c0 : w2.cell? ⟨n, 0, none⟩ = some (.int .i64 0)
  c1 : w2.cell? ⟨n, 1, none⟩ = some (.int .i64 0)
  c2 : w2.cell? ⟨n, 2, none⟩ = some (.pointer none)
  f : ∀ j, w2.frozen? ⟨n, j, none⟩ = false

theorem blank_of (w w2 : World) (hb : Below (w.heap.size + 1) (w.alloc (.cells #[.int .i64 0, .int .i64 0, .pointer none] 25)) w2) : Blank w.heap.size w2 := by
  refine ⟨?_, ?_, ?_, fun j => ?_⟩
  · rw [hb.cell (by show w.heap.size < w.heap.size + 1; omega), World.cell?_alloc_new]; rfl
  · rw [hb.cell (by show w.heap.size < w.heap.size + 1; omega), World.cell?_alloc_new]; rfl
  · rw [hb.cell (by show w.heap.size < w.heap.size + 1; omega), World.cell?_alloc_new]; rfl
  · rw [hb.frozen (by show w.heap.size < w.heap.size + 1; omega), World.frozen?_alloc_new]

theorem Blank.range {n : Nat} {w2 : World} (h : Blank n w2) (x y z : Value) : (w2.setCells n 0 [x, y, z]).rangeAt n 0 [x, y, z] :=
  World.rangeAt_setCells_same w2 n 0 [x, y, z] (fun j hj => ⟨by
    have : j = 0 ∨ j = 1 ∨ j = 2 := by simp at hj; omega
    rcases this with rfl | rfl | rfl
    · rw [h.c0]; rfl
    · rw [h.c1]; rfl
    · rw [h.c2]; rfl, h.f _⟩)

theorem below_setCells {B : Nat} {a w : World} (h : Below B a w) {b : Nat} (hb : B ≤ b) : ∀ (vs : List Value) (o : Nat), Below B a (w.setCells b o vs) := by
  intro vs
  induction vs generalizing w with
  | nil => intro o; exact h
  | cons v vs ih => intro o; exact ih (h.setCell (p := ⟨b, o, none⟩) hb v) (o + 1)

set_option maxHeartbeats 1000000 in
set_option maxRecDepth 100000 in
theorem addFrac_same (a c : Int) (B : Nat) (w : World) (ha : a.natAbs ≤ 1048576) (hc : c.natAbs ≤ 1048576) (hB1 : 0 < B) (hB2 : B ≤ 65536) (hT : TabAt w) :
    Calls Ybad.prog 5 #[.int .i64 a, .int .i64 B, .int .i64 c, .int .i64 B] w fun e w' =>
      e = .returned (.tuple #[.agg #[.int .i64 ((a + c).tdiv (Nat.gcd (a + c).natAbs B : Nat)), .int .i64 ((B : Int).tdiv (Nat.gcd (a + c).natAbs B : Nat)), .pointer none], .bool true]) ∧ Below w.heap.size w w' := by
  have hT0 : TabAt (w.alloc (.cells #[.int .i64 0, .int .i64 0, .pointer none] 25)) := hT.alloc _
  have hn : (w.alloc (.cells #[.int .i64 0, .int .i64 0, .pointer none] 25)).heap.size = w.heap.size + 1 := World.size_alloc ..
  have hBa : Below w.heap.size w (w.alloc (.cells #[.int .i64 0, .int .i64 0, .pointer none] 25)) := (Below.refl _ _).alloc (Nat.le_refl _) _
  have hbo := blank_of w
  have cS := fun w' => add64_any a c w' (by omega) (by omega) (by omega) (by omega)
  have cR := fun w' hT' => reduced_any (a + c) B w' (by omega) (by omega) hB1 (by omega) hT'
  generalize (a + c).tdiv _ = N at cR
  generalize ((B : Nat) : Int).tdiv _ = M at cR
  generalize a + c = sum at cS cR
  clear hT
  go_enter Ybad.func5, Ybad.ntmps5
  go_wp2_with fail
  refine (cS _).mono ?_
  rintro e w2 ⟨rfl, rfl⟩
  go_wp2_with fail
  refine (cR _ hT0).mono ?_
  rintro e w2 ⟨rfl, hb2⟩
  rw [hn] at hb2
  have hbl := hbo w2 hb2
  have hB3 := hBa.trans (hb2.mono (by omega))
  have q0 := hbl.c0
  have q1 := hbl.c1
  have q2 := hbl.c2
  have f0 := hbl.f 0
  have f1 := hbl.f 1
  have f2 := hbl.f 2
  clear cS cR hT0 hn hBa hbo hb2
  go_wp2
  refine bodyPost_ret (results_cell_mid2 rfl _ (w2.setCells w.heap.size 0 [.int .i64 N, .int .i64 M, .pointer none]) w.heap.size [.int .i64 N, .int .i64 M, .pointer none] _ rfl (hbl.range _ _ _) Ybad.underlying25 rfl size25) rfl ?_
  exact ⟨rfl, below_setCells hB3 (Nat.le_refl _) [.int .i64 N, .int .i64 M, .pointer none] 0⟩

set_option maxHeartbeats 1000000 in
set_option maxRecDepth 100000 in
theorem addFrac_diff (a c : Int) (B D g B' D' : Nat) (w : World) (ha : a.natAbs ≤ 1048576) (hc : c.natAbs ≤ 1048576) (hB1 : 0 < B) (hB2 : B ≤ 65536) (hD1 : 0 < D) (hD2 : D ≤ 65536) (hT : TabAt w) (hBD : B ≠ D)
    (hg : Nat.gcd B D = g) (hB' : B / g = B') (hD' : D / g = D') (hg0 : 0 < g) (hBp : 0 < B') :
    Calls Ybad.prog 5 #[.int .i64 a, .int .i64 B, .int .i64 c, .int .i64 D] w fun e w' =>
      e = .returned (.tuple #[.agg #[.int .i64 ((a * D' + c * B').tdiv (Nat.gcd (a * D' + c * B').natAbs (B' * D) : Nat)), .int .i64 (((B' * D : Nat) : Int).tdiv (Nat.gcd (a * D' + c * B').natAbs (B' * D) : Nat)), .pointer none], .bool true]) ∧ Below w.heap.size w w' := by
  have hT0 : TabAt (w.alloc (.cells #[.int .i64 0, .int .i64 0, .pointer none] 25)) := hT.alloc _
  have hn : (w.alloc (.cells #[.int .i64 0, .int .i64 0, .pointer none] 25)).heap.size = w.heap.size + 1 := World.size_alloc ..
  have hBa : Below w.heap.size w (w.alloc (.cells #[.int .i64 0, .int .i64 0, .pointer none] 25)) := (Below.refl _ _).alloc (Nat.le_refl _) _
  have hbo := blank_of w
  have lB : B' ≤ 65536 := by rw [← hB']; exact Nat.le_trans (Nat.div_le_self _ _) hB2
  have lD : D' ≤ 65536 := by rw [← hD']; exact Nat.le_trans (Nat.div_le_self _ _) hD2
  have lg : g ≤ 65536 := by rw [← hg]; exact Nat.le_trans (Nat.gcd_le_left _ hB1) hB2
  have mx := mul_bound a D' ha lD
  have my := mul_bound c B' hc lB
  have md : B' * D ≤ 4294967296 := Nat.mul_le_mul lB hD2
  have mdp : 0 < B' * D := Nat.mul_pos hBp hD1
  have cG := gcd_any B D (w.alloc (.cells #[.int .i64 0, .int .i64 0, .pointer none] 25)) (by omega) (by omega) hT0
  rw [hg] at cG
  have cX := fun w' => mul64_any a D' w' (by omega) (by omega) (by omega) (by omega) (by rw [Int.natAbs_natCast]; have := Nat.mul_le_mul ha lD; omega)
  have cY := fun w' => mul64_any c B' w' (by omega) (by omega) (by omega) (by omega) (by rw [Int.natAbs_natCast]; have := Nat.mul_le_mul hc lB; omega)
  have cD := fun w' => mul64_any B' D w' (by omega) (by omega) (by omega) (by omega) (by rw [Int.natAbs_natCast, Int.natAbs_natCast]; omega)
  have eD : (B' : Int) * (D : Int) = ((B' * D : Nat) : Int) := (Int.natCast_mul _ _).symm
  rw [eD] at cD
  have cS := fun w' => add64_any (a * D') (c * B') w' (by omega) (by omega) (by omega) (by omega)
  have cR := fun w' hT' => reduced_any (a * D' + c * B') (B' * D) w' (by omega) (by omega) mdp (by omega) hT'
  generalize (a * (D' : Int) + c * (B' : Int)).tdiv _ = N at cR
  generalize (((B' * D : Nat)) : Int).tdiv _ = M at cR
  generalize a * (D' : Int) + c * (B' : Int) = sum at cS cR
  generalize a * (D' : Int) = x at cX cS
  generalize c * (B' : Int) = y at cY cS
  generalize B' * D = den at cD cR
  have tBD : ((B : Int) == (D : Int)) = false := by simp; omega
  have uB : IntKind.u64.wrap (B : Int) = (B : Int) := by rw [IntKind.wrap_u64]; omega
  have uD : IntKind.u64.wrap (D : Int) = (D : Int) := by rw [IntKind.wrap_u64]; omega
  have ig : IntKind.i64.wrap (g : Int) = (g : Int) := by simp [IntKind.wrap, IntKind.bits, IntKind.signed]; omega
  have g1 : ¬ g = 0 := by omega
  have g2 : ((g : Int) == 0) = false := by simp; omega
  have qB : (B : Int).tdiv (g : Int) = (B' : Int) := by rw [← hB']; rfl
  have qD : (D : Int).tdiv (g : Int) = (D' : Int) := by rw [← hD']; rfl
  have iB : IntKind.i64.wrap (B' : Int) = (B' : Int) := by simp [IntKind.wrap, IntKind.bits, IntKind.signed]; omega
  have iD : IntKind.i64.wrap (D' : Int) = (D' : Int) := by simp [IntKind.wrap, IntKind.bits, IntKind.signed]; omega
  clear hT hBD hg hB' hD' mx my md mdp eD
  go_enter Ybad.func5, Ybad.ntmps5
  go_wp2_with fail
  refine cG.mono ?_
  rintro e w2 ⟨rfl, rfl⟩
  clear cG
  go_wp2_with fail
  refine (cX _).mono ?_
  rintro e w2 ⟨rfl, rfl⟩
  go_wp2_with fail
  refine (cY _).mono ?_
  rintro e w2 ⟨rfl, rfl⟩
  go_wp2_with fail
  refine (cD _).mono ?_
  rintro e w2 ⟨rfl, rfl⟩
  go_wp2_with fail
  refine (cS _).mono ?_
  rintro e w2 ⟨rfl, rfl⟩
  go_wp2_with fail
  refine (cR _ hT0).mono ?_
  rintro e w2 ⟨rfl, hb2⟩
  rw [hn] at hb2
  have hbl := hbo w2 hb2
  have hB3 := hBa.trans (hb2.mono (by omega))
  have q0 := hbl.c0
  have q1 := hbl.c1
  have q2 := hbl.c2
  have f0 := hbl.f 0
  have f1 := hbl.f 1
  have f2 := hbl.f 2
  clear cX cY cD cS cR hT0 hn hBa hbo hb2
  go_wp2
  refine bodyPost_ret (results_cell_mid2 rfl _ (w2.setCells w.heap.size 0 [.int .i64 N, .int .i64 M, .pointer none]) w.heap.size [.int .i64 N, .int .i64 M, .pointer none] _ rfl (hbl.range _ _ _) Ybad.underlying25 rfl size25) rfl ?_
  exact ⟨rfl, below_setCells hB3 (Nat.le_refl _) [.int .i64 N, .int .i64 M, .pointer none] 0⟩

/-- the whole: a/B + c/D in lowest terms -/
theorem addFrac_any (a c : Int) (B D : Nat) (w : World) (ha : a.natAbs ≤ 1048576) (hc : c.natAbs ≤ 1048576) (hB1 : 0 < B) (hB2 : B ≤ 65536) (hD1 : 0 < D) (hD2 : D ≤ 65536) (hT : TabAt w) :
    ∃ (G : Nat) (N M : Int), G = Nat.gcd (a * D + c * B).natAbs (B * D) ∧ 0 < G ∧ N = (a * D + c * B).tdiv G ∧ M = ((B * D : Nat) : Int).tdiv G ∧
    Calls Ybad.prog 5 #[.int .i64 a, .int .i64 B, .int .i64 c, .int .i64 D] w fun e w' => e = .returned (.tuple #[.agg #[.int .i64 N, .int .i64 M, .pointer none], .bool true]) ∧ Below w.heap.size w w' := by
  by_cases hBD : B = D
  · subst hBD
    obtain ⟨G, hG, hG0, hN, hM⟩ := scaled (a + c) B B hB1 hB1
    rw [Int.add_mul] at hG hN
    exact ⟨G, _, _, hG, hG0, hN.symm, hM.symm, addFrac_same a c B w ha hc hB1 hB2 hT⟩
  · obtain ⟨g, hg⟩ : ∃ g, Nat.gcd B D = g := ⟨_, rfl⟩
    have hg0 : 0 < g := by rw [← hg]; exact Nat.gcd_pos_of_pos_left _ hB1
    obtain ⟨B', eB⟩ : g ∣ B := by rw [← hg]; exact Nat.gcd_dvd_left _ _
    obtain ⟨D', eD⟩ : g ∣ D := by rw [← hg]; exact Nat.gcd_dvd_right _ _
    have hBp : 0 < B' := by
      rcases Nat.eq_zero_or_pos B' with h | h
      · rw [h, Nat.mul_zero] at eB; omega
      · exact h
    obtain ⟨G, hG, hG0, hN, hM⟩ := scaled (a * D' + c * B') (B' * D) g hg0 (Nat.mul_pos hBp hD1)
    have e1 : (a * D' + c * B') * (g : Int) = a * D + c * B := by
      rw [Int.add_mul, Int.mul_assoc, Int.mul_assoc, ← Int.natCast_mul, ← Int.natCast_mul, Nat.mul_comm D' g, Nat.mul_comm B' g, ← eB, ← eD]
    have e2 : B' * D * g = B * D := by rw [Nat.mul_right_comm, Nat.mul_comm B' g, ← eB]
    rw [e1, e2] at hG
    rw [e1] at hN
    rw [e2] at hM
    exact ⟨G, _, _, hG, hG0, hN.symm, hM.symm, addFrac_diff a c B D g B' D' w ha hc hB1 hB2 hD1 hD2 hT hBD hg (by rw [eB, Nat.mul_div_cancel_left _ hg0]) (by rw [eD, Nat.mul_div_cancel_left _ hg0]) hg0 hBp⟩
end Go.Proofs.YbulkvsgDoor
