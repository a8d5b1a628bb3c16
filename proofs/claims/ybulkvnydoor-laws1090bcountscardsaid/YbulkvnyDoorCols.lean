import Derived.Test.YbulkvnyDoorBits
import Derived.Test.YbulkvnyDoorLen
import Derived.Deep.QuietTactic
import Derived.BigQuiet
import Derived.Deep.RegionHeld3
set_option linter.unusedVariables false
set_option linter.unusedSimpArgs false
namespace Go.Proofs.YbulkvnyDoor
open Go.RowKit

/-- addColumns' own two arrays, and all that was there -/
structure Mem (cb : Nat) (w wr : World) (Sf Cf : Nat → Nat) : Prop where
  keeps : Keeps cb w wr
  size : w.heap.size + 2 ≤ wr.heap.size
  s : Row wr w.heap.size 0 .u64 Sf 16
  c : Row wr (w.heap.size + 1) 0 .u64 Cf 16
  fs : ∀ j, j < 16 → wr.frozen? ⟨w.heap.size, j, none⟩ = false
  fc : ∀ j, j < 16 → wr.frozen? ⟨w.heap.size + 1, j, none⟩ = false
  sb : ∀ j, Sf j < 18446744073709551616
  cbd : ∀ j, Cf j < 18446744073709551616

theorem Mem.drewN {cb : Nat} {w wr : World} {Sf Cf : Nat → Nat} (h : Mem cb w wr Sf Cf) (n : Nat) : Mem cb w (wr.drewN n) Sf Cf :=
  ⟨h.keeps.drewN n, h.size, h.s.drewN n, h.c.drewN n, h.fs, h.fc, h.sb, h.cbd⟩

theorem set_lt {f : Nat → Nat} (h : ∀ j, f j < 18446744073709551616) (k v : Nat) (hv : v < 18446744073709551616) (j : Nat) : Csa.set f k v j < 18446744073709551616 := by
  by_cases e : j = k
  · rw [e, Csa.set_same]; exact hv
  · rw [Csa.set_other _ _ _ _ e]; exact h j

theorem Mem.setS {cb : Nat} {w wr : World} {Sf Cf : Nat → Nat} (h : Mem cb w wr Sf Cf) (K v : Nat) (hK : K < 16) (hv : v < 18446744073709551616) :
    Mem cb w (wr.setCell ⟨w.heap.size, K, none⟩ (.int .u64 v)) (Csa.set Sf K v) Cf := by
  have h1 := h.s.set K v hK
  simp only [Nat.zero_add] at h1
  exact ⟨h.keeps.setCell (Or.inr (Nat.le_refl _)) _, by simpa [World.setCell] using h.size, h1, h.c.other (by simp) _, fun j hj => (World.frozen?_setCell _ _ _ _).trans (h.fs j hj), fun j hj => (World.frozen?_setCell _ _ _ _).trans (h.fc j hj), set_lt h.sb K v hv, h.cbd⟩

theorem Mem.setC {cb : Nat} {w wr : World} {Sf Cf : Nat → Nat} (h : Mem cb w wr Sf Cf) (K v : Nat) (hK : K < 16) (hv : v < 18446744073709551616) :
    Mem cb w (wr.setCell ⟨w.heap.size + 1, K, none⟩ (.int .u64 v)) Sf (Csa.set Cf K v) := by
  have h1 := h.c.set K v hK
  simp only [Nat.zero_add] at h1
  exact ⟨h.keeps.setCell (Or.inr (by simp)) _, by simpa [World.setCell] using h.size, h.s.other (by simp) _, h1, fun j hj => (World.frozen?_setCell _ _ _ _).trans (h.fs j hj), fun j hj => (World.frozen?_setCell _ _ _ _).trans (h.fc j hj), h.sb, set_lt h.cbd K v hv⟩

/-- level K + 1 of a waiting word: the walk's forms -/
theorem level_walk (K q T Q p : Nat) (hK : K + 1 ≤ 12) (hT : T = 2 ^ (K + 1) * q) (hQ : Q = 2 ^ (K + 1)) (hw : 2 ^ (K + 1) * (q + 1) = 2 * (p + 1)) (hp : p < 2048) :
    IntKind.u64.wrap ((2 : Int) ^ (K + 1)) = (Q : Int) ∧ 0 < Q ∧ Q ≤ 4096 ∧ T ≤ 4096 ∧ (q % 2 = 0 → bits .and .u64 (T : Int) (Q : Int) = 0 ∧ bits .or .u64 (T : Int) (Q : Int) = ((2 * (p + 1) : Nat) : Int)) ∧
    (q % 2 = 1 → bits .and .u64 (T : Int) (Q : Int) = (Q : Int) ∧ bits .andNot .u64 (T : Int) (Q : Int) = ((2 ^ (K + 1 + 1) * (q / 2) : Nat) : Int)) := by
  have hQ1 : Q ≤ 4096 := by
    rw [hQ]; exact Nat.le_trans (Nat.pow_le_pow_right (by decide) hK) (by decide)
  have hQ0 : 0 < Q := by rw [hQ]; exact Nat.two_pow_pos _
  have hT1 : T ≤ 4096 := by
    have : 2 ^ (K + 1) * q ≤ 2 ^ (K + 1) * (q + 1) := Nat.mul_le_mul_left _ (by omega)
    omega
  refine ⟨?_, hQ0, hQ1, hT1, fun hq => ⟨?_, ?_⟩, fun hq => ⟨?_, ?_⟩⟩
  · rw [IntKind.wrap_u64, hQ]
    have : ((2 : Int) ^ (K + 1)) = ((2 ^ (K + 1) : Nat) : Int) := by simp
    rw [this]; rw [hQ] at hQ1; omega
  · rw [bits_and_u64_nat T Q (by omega) (by omega), hT, hQ, nat_bit, Nat.mul_div_cancel_left _ (Nat.two_pow_pos _), hq]; simp
  · rw [bits_or_u64_nat T Q (by omega) (by omega), hT, hQ, Csa.or_level _ _ hq, hw]
  · rw [bits_and_u64_nat T Q (by omega) (by omega), hT, hQ, nat_bit, Nat.mul_div_cancel_left _ (Nat.two_pow_pos _), hq]; simp
  · rw [u64_andNot_nat T Q (by omega) (by omega), hT, hQ, Csa.andNot_level _ _ hq (by rw [← hT]; exact Nat.lt_of_le_of_lt hT1 (by decide)) (by omega)]

theorem Mem.touch {cb : Nat} {w w1 w2 : World} {Sf Cf : Nat → Nat} (h : Mem cb w w1 Sf Cf) (t : Touch cb w1 w2) (hc : cb < w.heap.size) : Mem cb w w2 Sf Cf :=
  ⟨h.keeps.touch t (Or.inl rfl), by rw [t.size]; exact h.size, h.s.touch t (by omega), h.c.touch t (by omega), fun j hj => (t.frozen _).trans (h.fs j hj), fun j hj => (t.frozen _).trans (h.fc j hj), h.sb, h.cbd⟩

/-- the 64 counts hold F and T shifted -/
structure Cnt (cb c64 : Nat) (w w1 : World) (F : Nat → Nat) (shift : Nat) (T : Nat → Nat) : Prop where
  row : Row w1 cb c64 .u64 (fun i => (F i + 2 ^ shift * T i) % 18446744073709551616) 64
  rest : ∀ o, o < c64 ∨ c64 + 64 ≤ o → w1.cell? ⟨cb, o, none⟩ = w.cell? ⟨cb, o, none⟩

theorem Cnt.drewN {cb c64 : Nat} {w w1 : World} {F : Nat → Nat} {shift : Nat} {T : Nat → Nat} (h : Cnt cb c64 w w1 F shift T) (n : Nat) : Cnt cb c64 w (w1.drewN n) F shift T :=
  ⟨h.row.drewN n, h.rest⟩
theorem Cnt.drew {cb c64 : Nat} {w w1 : World} {F : Nat → Nat} {shift : Nat} {T : Nat → Nat} (h : Cnt cb c64 w w1 F shift T) : Cnt cb c64 w w1.drew F shift T :=
  ⟨h.row, h.rest⟩

theorem Cnt.step {cb c64 : Nat} {w w1 w2 : World} {F : Nat → Nat} {shift : Nat} {T g : Nat → Nat} (h : Cnt cb c64 w w1 F shift T) (K word wt : Nat) (hwt : wt = 2 ^ (K + shift) % 18446744073709551616)
    (hrest : ∀ o, o < c64 ∨ c64 + 64 ≤ o → w2.cell? ⟨cb, o, none⟩ = w1.cell? ⟨cb, o, none⟩) (hrow : Row w2 cb c64 .u64 g 64)
    (hg : ∀ j, j < 64 → g j = ((F j + 2 ^ shift * T j) % 18446744073709551616 + Csa.bit word j * wt) % 18446744073709551616) :
    Cnt cb c64 w w2 F shift (fun j => T j + 2 ^ K * Csa.bit word j) := by
  refine ⟨fun j hj => ?_, fun o ho => (hrest o ho).trans (h.rest o ho)⟩
  rw [hrow j hj, hg j hj, hwt, Csa.add_mod_level _ (F j) shift (T j) K (Csa.bit word j) (Nat.mod_mod _ _)]

theorem Mem.drew {cb : Nat} {w wr : World} {Sf Cf : Nat → Nat} (h : Mem cb w wr Sf Cf) : Mem cb w wr.drew Sf Cf :=
  ⟨h.keeps.drew, h.size, h.s, h.c, h.fs, h.fc, h.sb, h.cbd⟩

/-- what addColumns leaves in the counts -/
def colsOut (f word : Nat → Nat) (n wi shift j : Nat) : Nat :=
  if 64 * wi ≤ j ∧ j < 64 * wi + 64 then (f j + 2 ^ shift * Csa.sumTo (fun k => Csa.bit (word k) (j - 64 * wi)) n) % 18446744073709551616 else f j

theorem Cnt.out {cb wi shift W n : Nat} {w w1 : World} {f word T : Nat → Nat} (h : Cnt cb (64 * wi) w w1 (fun i => f (64 * wi + i)) shift T) (hf : Row w cb 0 .u64 f (64 * W))
    (hT : ∀ i, i < 64 → T i = Csa.sumTo (fun k => Csa.bit (word k) i) n) : Row w1 cb 0 .u64 (colsOut f word n wi shift) (64 * W) := by
  intro j hj
  unfold colsOut
  by_cases hin : 64 * wi ≤ j ∧ j < 64 * wi + 64
  · rw [if_pos hin, ← hT (j - 64 * wi) (by omega)]
    have := h.row (j - 64 * wi) (by omega)
    have e : 64 * wi + (j - 64 * wi) = j := by omega
    simp only [e] at this
    rw [Nat.zero_add]; exact this
  · rw [if_neg hin, ← hf j hj, Nat.zero_add]
    exact h.rest j (by omega)

theorem tot_level (T0 Sf Cf : Nat → Nat) (m K i : Nat) : (T0 i + Csa.sumTo (Csa.lev Sf Cf m i) K) + 2 ^ K * Csa.bit (Sf K) i + 2 ^ K * (Csa.bit m K * Csa.bit (Cf K) i) = T0 i + Csa.sumTo (Csa.lev Sf Cf m i) (K + 1) := by
  simp only [Csa.sumTo, Csa.lev, Nat.mul_add]; omega

theorem wrap_pow (s wt : Nat) (h : wt = 2 ^ s % 18446744073709551616) : IntKind.u64.wrap ((2 : Int) ^ s) = (wt : Int) := by
  rw [IntKind.wrap_u64, h]
  have : ((2 : Int) ^ s) = ((2 ^ s : Nat) : Int) := by simp
  rw [this]; omega

theorem wrap_pow_min (K s wt : Nat) (h : wt = 2 ^ (K + s) % 18446744073709551616) : IntKind.u64.wrap ((2 : Int) ^ min ((K : Int) + (s : Int)).toNat 64) = (wt : Int) := by
  have e : ((K : Int) + (s : Int)).toNat = K + s := by omega
  rw [e]
  by_cases hle : K + s ≤ 64
  · rw [Nat.min_eq_left hle]; exact wrap_pow _ _ h
  · rw [Nat.min_eq_right (by omega)]
    apply wrap_pow
    rw [h]
    obtain ⟨d, hd⟩ : ∃ d, K + s = 64 + d := ⟨K + s - 64, by omega⟩
    rw [hd, Nat.pow_add]
    have : (2 : Nat) ^ 64 = 18446744073709551616 := by decide
    rw [this]; simp

theorem and_pow_walk (m K Q : Nat) (hm : m < 18446744073709551616) (hK : K ≤ 13) (hQ : Q = 2 ^ K % 18446744073709551616) :
    (Csa.bit m K = 0 → bits .and .u64 (m : Int) (Q : Int) = 0) ∧ (Csa.bit m K = 1 → bits .and .u64 (m : Int) (Q : Int) = (Q : Int)) ∧ 0 < Q ∧ Q < 18446744073709551616 := by
  have h1 : 2 ^ K ≤ 2 ^ 13 := Nat.pow_le_pow_right (by decide) hK
  have h0 : 0 < 2 ^ K := Nat.two_pow_pos K
  have e : Q = 2 ^ K := by rw [hQ]; omega
  have hb : m / 2 ^ K % 2 = Csa.bit m K := by
    unfold Csa.bit; rw [Nat.testBit_eq_decide_div_mod_eq]
    rcases Nat.mod_two_eq_zero_or_one (m / 2 ^ K) with h | h <;> simp [h]
  refine ⟨fun h => ?_, fun h => ?_, by omega, by omega⟩
  · rw [bits_and_u64_nat m Q hm (by omega), e, nat_bit, hb, h]; simp
  · rw [bits_and_u64_nat m Q hm (by omega), e, nat_bit, hb, h]; simp

theorem Mem.weak {cb : Nat} {w wr : World} {Sf Cf : Nat → Nat} (h : Mem w.heap.size w wr Sf Cf) : Mem cb w wr Sf Cf :=
  ⟨⟨h.keeps.os, h.keeps.tape, h.keeps.output, h.keeps.size, fun k hk _ => h.keeps.block k hk (Nat.ne_of_lt hk), h.keeps.frozen⟩, h.size, h.s, h.c, h.fs, h.fc, h.sb, h.cbd⟩

def zeros16 : Obj := Obj.cells #[Value.int IntKind.u64 0, Value.int IntKind.u64 0, Value.int IntKind.u64 0, Value.int IntKind.u64 0,
          Value.int IntKind.u64 0, Value.int IntKind.u64 0, Value.int IntKind.u64 0, Value.int IntKind.u64 0,
          Value.int IntKind.u64 0, Value.int IntKind.u64 0, Value.int IntKind.u64 0, Value.int IntKind.u64 0,
          Value.int IntKind.u64 0, Value.int IntKind.u64 0, Value.int IntKind.u64 0, Value.int IntKind.u64 0] 42

theorem row_zeros (w : World) : Row (w.alloc zeros16) w.heap.size 0 .u64 (fun _ => 0) 16 := by
  intro j hj
  have : ∀ j, j < 16 → (w.alloc zeros16).cell? ⟨w.heap.size, j, none⟩ = some (.int .u64 0) := by
    intro j hj
    have h16 : j = 0 ∨ j = 1 ∨ j = 2 ∨ j = 3 ∨ j = 4 ∨ j = 5 ∨ j = 6 ∨ j = 7 ∨ j = 8 ∨ j = 9 ∨ j = 10 ∨ j = 11 ∨ j = 12 ∨ j = 13 ∨ j = 14 ∨ j = 15 := by omega
    rcases h16 with rfl | rfl | rfl | rfl | rfl | rfl | rfl | rfl | rfl | rfl | rfl | rfl | rfl | rfl | rfl | rfl <;> simp [zeros16, go_sem]
  simpa using this j hj

theorem Mem.start (cb : Nat) (w : World) : Mem cb w ((w.alloc zeros16).alloc zeros16) (fun _ => 0) (fun _ => 0) := by
  have h1 := row_zeros w
  have h2 := row_zeros (w.alloc zeros16)
  have e : (w.alloc zeros16).heap.size = w.heap.size + 1 := by simp
  refine ⟨((Keeps.refl _ _).alloc _).alloc _, by simp, fun j hj => ?_, ?_, fun j hj => ?_, fun j hj => ?_, fun _ => by decide, fun _ => by decide⟩
  · rw [← h1 j hj]
    exact World.cell?_alloc_old _ _ _ (by rw [e]; simp)
  · rw [← e]; exact h2
  · rw [World.frozen?_alloc_old _ _ _ (by rw [e]; simp)]
    exact World.frozen?_alloc_at _ _ _ _ rfl
  · rw [← e]
    exact World.frozen?_alloc_at _ _ _ _ rfl

set_option maxHeartbeats 2000000 in
set_option maxRecDepth 100000 in
theorem cols_any (tb rb bb cb pb n M W wi shift : Nat) (r B f : Nat → Nat) (w : World)
    (hn : n ≤ 4096) (hW : 1 ≤ W) (hW4 : W ≤ 4) (hwi : wi < W) (hsh : shift < 64) (hM : M ≤ 20000)
    (htb : tb < w.heap.size) (hrb : rb < w.heap.size) (hbb : bb < w.heap.size) (hcb : cb < w.heap.size)
    (htc : tb ≠ cb) (hrc : rb ≠ cb) (hbc : bb ≠ cb) (hc0 : cb ≠ 0)
    (h4 : w.cell? ⟨tb, 4, none⟩ = some (.slice (some ⟨pb, 0, none⟩) W W))
    (h7 : w.cell? ⟨tb, 13, none⟩ = some (.slice (some ⟨bb, 0, none⟩) M M))
    (h10 : w.cell? ⟨tb, 16, none⟩ = some (.slice (some ⟨cb, 0, none⟩) (64 * W) (64 * W)))
    (hr : Row w rb 0 .i64 r n) (hrM : ∀ j, j < n → r j * W + wi < M)
    (hB : Row w bb 0 .u64 B M) (hBb : ∀ j, B j < 18446744073709551616)
    (hf : Row w cb 0 .u64 f (64 * W)) (hfb : ∀ j, f j < 18446744073709551616) (hfz : ∀ j, j < 64 * W → w.frozen? ⟨cb, j, none⟩ = false)
    (hT : TabAt w) :
    Calls Ybad.prog 4 #[.pointer (some ⟨tb, 0, none⟩), .slice (some ⟨rb, 0, none⟩) n n, .int .i64 wi, .int .i64 shift] w fun e w' => e = .returned (.tuple #[]) ∧ Keeps cb w w' ∧ Row w' cb 0 .u64 (colsOut f (fun k => B (r k * W + wi)) n wi shift) (64 * W) := by
  go_enter Ybad.func4, Ybad.ntmps4
  go_wp2
  go_loopw [10, 11, 13] (fun wt nz i wr => ∃ (p m N : Nat) (Sf Cf : Nat → Nat), m = 2 * p ∧ m ≤ n ∧ wt = .int .u64 m ∧ nz = .int .u64 N ∧ i = .int .i64 m ∧ N < 18446744073709551616 ∧
      (N = 0 → ∀ k, k < 2 * p → B (r k * W + wi) = 0) ∧ Mem w.heap.size w wr Sf Cf ∧ Csa.Held (fun k => B (r k * W + wi)) p Sf Cf) (fun _ _ i _ => n - (intOf i).toNat)
  case atStart => exact ⟨0, 0, 0, fun _ => 0, fun _ => 0, rfl, Nat.zero_le _, rfl, rfl, rfl, by decide, fun _ k hk => by omega, Mem.start w.heap.size w, Csa.Held.start _ _⟩
  case round =>
    obtain ⟨p, m, N, Sf, Cf, hmp, hmn, rfl, rfl, rfl, hN, hN0, hm, hh⟩ := hrel
    have Hmp : Hid (m = 2 * p) := hmp
    have HN0 : Hid (N = 0 → ∀ k, k < 2 * p → B (r k * W + wi) = 0) := hN0
    clear hN0 hmp
    have HR : Hid (∀ j, j < n → r j * W + wi < M) := hrM
    have HB : Hid (Row w bb 0 .u64 B M) := hB
    by_cases hlt : m + 1 < n
    · have hltb : decide ((m : Int) + 1 < (n : Int)) = true := decide_eq_true (by omega)
      have g7 := (hm.keeps.cell (a := ⟨tb, 13, none⟩) htb (Nat.ne_of_lt htb)).trans h7
      have gr1 := (hm.keeps.cell (a := ⟨rb, 0 + m, none⟩) hrb (Nat.ne_of_lt hrb)).trans (hr m (by omega))
      have gr2 := (hm.keeps.cell (a := ⟨rb, 0 + (m + 1), none⟩) hrb (Nat.ne_of_lt hrb)).trans (hr (m + 1) (by omega))
      have gM1 := hrM m (by omega)
      have gM2 := hrM (m + 1) (by omega)
      have gb1 := (hm.keeps.cell (a := ⟨bb, 0 + (r m * W + wi), none⟩) hbb (Nat.ne_of_lt hbb)).trans (hB _ gM1)
      have gb2 := (hm.keeps.cell (a := ⟨bb, 0 + (r (m + 1) * W + wi), none⟩) hbb (Nat.ne_of_lt hbb)).trans (hB _ gM2)
      simp only [Nat.zero_add] at gr1 gr2 gb1 gb2
      have HN1 := show Hid (N ||| (B (r m * W + wi) ||| B (r (m + 1) * W + wi)) = 0 → ∀ k, k < 2 * (p + 1) → B (r k * W + wi) = 0) from fun h k hk => by
        have hz : N = 0 ∧ B (r m * W + wi) = 0 ∧ B (r (m + 1) * W + wi) = 0 := by
          have h1 := Nat.or_eq_zero_iff.1 h
          have h2 := Nat.or_eq_zero_iff.1 h1.2
          exact ⟨h1.1, h2.1, h2.2⟩
        have hm2 := Hmp.out
        by_cases e1 : k = m
        · rw [e1]; exact hz.2.1
        · by_cases e2 : k = m + 1
          · rw [e2]; exact hz.2.2
          · exact HN0.out hz.1 k (by omega)
      have hh' := hh.enter
      simp only [← Hmp.out] at hh'
      have hX := hBb (r m * W + wi)
      have hY := hBb (r (m + 1) * W + wi)
      generalize B (r m * W + wi) = X at *
      generalize B (r (m + 1) * W + wi) = Y at *
      generalize r m = r1 at *
      generalize r (m + 1) = r2 at *
      have HE : Hid (Csa.Lvl (fun k => B (r k * W + wi)) p 0 p X Y Sf Cf) := hh'
      clear hh' hh
      obtain ⟨a1, ha1⟩ : ∃ a, a = r1 * W := ⟨_, rfl⟩
      obtain ⟨a2, ha2⟩ : ∃ a, a = r2 * W := ⟨_, rfl⟩
      have e1 : (r1 : Int) * (W : Int) = (a1 : Int) := by rw [ha1]; simp
      have e2 : (r2 : Int) * (W : Int) = (a2 : Int) := by rw [ha2]; simp
      rw [← ha1] at gM1 gb1
      rw [← ha2] at gM2 gb2
      clear ha1 ha2
      clear hr hB hf hfb hBb hrM hfz hT
      go_wp2_with fail
      go_quiet (fail)
      have hor1 := bits_or_u64_nat X Y hX hY
      have hXY : X ||| Y < 18446744073709551616 := Nat.or_lt_two_pow (n := 64) hX hY
      have hor2 := bits_or_u64_nat N (X ||| Y) hN hXY
      go_wp2
      have hp : p < 2048 := by have := Hmp.out; omega
      have HN0' : Hid (N ||| (X ||| Y) = 0 → ∀ k, k < 2 * (p + 1) → B (r k * W + wi) = 0) := HN1
      clear HN0 HN1 hor1 hor2 g7 gr1 gr2 gb1 gb2 e1 e2
      have hm' := hm.drewN nq
      clear hm
      go_loopw [10, 14, 15, 16] (fun wt x y k w1 => ∃ (K q T X1 Y1 : Nat) (S1 C1 : Nat → Nat), K + 1 ≤ 12 ∧ T = 2 ^ (K + 1) * q ∧ wt = .int .u64 T ∧ x = .int .u64 X1 ∧ y = .int .u64 Y1 ∧ k = .int .i64 K ∧
          X1 < 18446744073709551616 ∧ Y1 < 18446744073709551616 ∧ Mem w.heap.size w w1 S1 C1 ∧ Csa.Lvl (fun k => B (r k * W + wi)) p K q X1 Y1 S1 C1) (fun _ _ _ k _ => 16 - (intOf k).toNat)
      case atStart => exact ⟨0, p, m, X, Y, Sf, Cf, by omega, by rw [Hmp.out], rfl, rfl, rfl, rfl, hX, hY, hm', HE.out⟩
      case round =>
        obtain ⟨K, q, T, X1, Y1, S1, C1, hK, hT1, rfl, rfl, rfl, rfl, hX1, hY1, hm1, hl⟩ := hrel
        have HL : Hid (Csa.Lvl (fun k => B (r k * W + wi)) p K q X1 Y1 S1 C1) := hl
        have HT : Hid (T = 2 ^ (K + 1) * q) := hT1
        clear hT1 hl
        have cS := hm1.s K (by omega)
        have cC := hm1.c (K + 1) (by omega)
        simp only [Nat.zero_add] at cS cC
        have fS := hm1.fs K (by omega)
        have fC := hm1.fc (K + 1) (by omega)
        have bS := hm1.sb K
        have bC := hm1.cbd (K + 1)
        obtain ⟨Q, hQ⟩ : ∃ Q, Q = 2 ^ (K + 1) := ⟨_, rfl⟩
        obtain ⟨k1, k2, k3, k4, kz, ko⟩ := level_walk K q T Q p hK HT.out hQ HL.out.wt hp
        clear hQ
        have hb1 := bits_xor_u64_nat (S1 K) X1 bS hX1
        have hu : S1 K ^^^ X1 < 18446744073709551616 := Nat.xor_lt_two_pow (n := 64) bS hX1
        have hb2 := bits_xor_u64_nat (S1 K ^^^ X1) Y1 hu hY1
        have hv : S1 K ^^^ X1 ^^^ Y1 < 18446744073709551616 := Nat.xor_lt_two_pow (n := 64) hu hY1
        have hb3 := bits_and_u64_nat (S1 K) X1 bS hX1
        have hb4 := bits_and_u64_nat (S1 K ^^^ X1) Y1 hu hY1
        have hb5 := bits_or_u64_nat (S1 K &&& X1) ((S1 K ^^^ X1) &&& Y1) (Nat.and_lt_two_pow (n := 64) _ hX1) (Nat.and_lt_two_pow (n := 64) _ hY1)
        have hc : (S1 K &&& X1) ||| ((S1 K ^^^ X1) &&& Y1) < 18446744073709551616 := Nat.or_lt_two_pow (n := 64) (Nat.and_lt_two_pow (n := 64) _ hX1) (Nat.and_lt_two_pow (n := 64) _ hY1)
        have mS := hm1.setS K _ (by omega) hv
        by_cases hq : q % 2 = 0
        · obtain ⟨ka, kb⟩ := kz hq
          have HD := show Hid (Csa.Held (fun k => B (r k * W + wi)) (p + 1) (Csa.set S1 K ((S1 K ^^^ X1) ^^^ Y1)) (Csa.set C1 (K + 1) ((S1 K &&& X1) ||| ((S1 K ^^^ X1) &&& Y1)))) from HL.out.stop hq (by omega)
          have mC := mS.setC (K + 1) _ (by omega) hc
          have kb' : bits .or .u64 (T : Int) (Q : Int) = (m : Int) + 2 := by rw [kb]; have := Hmp.out; omega
          clear kz ko kb hq
          go_wp2
          go_roundw
          case rel => exact ⟨p + 1, m + 2, N ||| (X ||| Y), _, _, by have := Hmp.out; omega, by omega, by go_num, rfl, by go_num, Nat.or_lt_two_pow (n := 64) hN hXY, HN0'.out, mC, HD.out⟩
          case measure => simp only [intOf]; omega
        · obtain ⟨ka, kb⟩ := ko (by omega)
          have HD := show Hid (Csa.Lvl (fun k => B (r k * W + wi)) p (K + 1) (q / 2) (C1 (K + 1)) ((S1 K &&& X1) ||| ((S1 K ^^^ X1) &&& Y1)) (Csa.set S1 K ((S1 K ^^^ X1) ^^^ Y1)) C1) from HL.out.next (by omega) (by omega)
          have hq0 : ((Q : Int) == 0) = false := by simp; omega
          have hK2 := HD.out.level_lt hp
          clear kz ko hq
          generalize hT2 : 2 ^ (K + 1 + 1) * (q / 2) = T2 at kb
          have HT2 := show Hid (2 ^ (K + 1 + 1) * (q / 2) = T2) from hT2
          clear hT2
          go_wp2
          go_roundw
          case rel => exact ⟨K + 1, q / 2, T2, C1 (K + 1), _, _, C1, hK2, HT2.out.symm, rfl, rfl, rfl, by go_num, bC, hc, mS, HD.out⟩
          case measure => simp only [intOf]; omega
    · have hltb : decide ((m : Int) + 1 < (n : Int)) = false := decide_eq_false (by omega)
      have hcnt : ∀ o, wr.cell? ⟨cb, o, none⟩ = w.cell? ⟨cb, o, none⟩ := fun o => hm.keeps.cell hcb (Nat.ne_of_lt hcb)
      have hm := hm.weak (cb := cb)
      have g10 := (hm.keeps.cell (a := ⟨tb, 16, none⟩) htb htc).trans h10
      have e64 : 64 * wi + 64 - 64 * wi = 64 := by omega
      have hc0' : Cnt cb (64 * wi) w wr (fun i => f (64 * wi + i)) shift (fun _ => 0) :=
        ⟨fun j hj => by
          have e0 := hf (64 * wi + j) (by omega)
          rw [Nat.zero_add] at e0
          rw [hcnt, e0]
          simp only [Nat.mul_zero, Nat.add_zero, Nat.mod_eq_of_lt (hfb _)], fun o _ => hcnt o⟩
      clear hcnt
      have hT' : TabAt wr := fun j hj => (hm.keeps.cell (a := ⟨0, j, none⟩) (by simpa using (by omega : 0 < w.heap.size)) (Ne.symm hc0)).trans (hT j hj)
      have hfz' : ∀ j, j < 64 → wr.frozen? ⟨cb, 64 * wi + j, none⟩ = false := fun j hj => (hm.keeps.frozen _ hcb).trans (hfz _ (by omega))
      by_cases hodd : m < n
      · have g7 := (hm.keeps.cell (a := ⟨tb, 13, none⟩) htb htc).trans h7
        have gr1 := (hm.keeps.cell (a := ⟨rb, 0 + m, none⟩) hrb hrc).trans (hr m (by omega))
        have gM1 := hrM m (by omega)
        have gb1 := (hm.keeps.cell (a := ⟨bb, 0 + (r m * W + wi), none⟩) hbb hbc).trans (hB _ gM1)
        simp only [Nat.zero_add] at gr1 gb1
        obtain ⟨a1, ha1⟩ : ∃ a, a = r m * W := ⟨_, rfl⟩
        have e1 : (r m : Int) * (W : Int) = (a1 : Int) := by rw [ha1]; simp
        rw [← ha1] at gM1 gb1
        obtain ⟨wt, hwt⟩ : ∃ x, x = 2 ^ shift := ⟨_, rfl⟩
        have hwt1 : wt < 18446744073709551616 := by rw [hwt]; exact Nat.pow_lt_pow_right (by decide) hsh
        have ewt : IntKind.u64.wrap ((2 : Int) ^ shift) = (wt : Int) := by
          rw [IntKind.wrap_u64]
          have : ((2 : Int) ^ shift) = (wt : Int) := by rw [hwt]; simp
          rw [this]; omega
        have HWT := show Hid (wt = 2 ^ shift) from hwt
        clear hwt
        have hX := hBb (a1 + wi)
        have HT0 := show Hid (∀ i, (0 + 2 ^ 0 * Csa.bit (B (a1 + wi)) i) + Csa.sumTo (fun k => Csa.bit (B (r k * W + wi)) i) m = Csa.sumTo (fun k => Csa.bit (B (r k * W + wi)) i) n) from fun i => by
          have en : n = m + 1 := by omega
          rw [en, ha1]; simp only [Csa.sumTo]; omega
        have ha1' : Hid (a1 = r m * W) := ha1
        clear ha1
        generalize B (a1 + wi) = X at *
        generalize r m = r1 at *
        have Hf := show Hid (Row w cb 0 .u64 f (64 * W)) from hf
        clear hr hB hf hfb hBb hrM hfz HB
        obtain ⟨ix, hix⟩ : ∃ x, x = a1 + wi := ⟨_, rfl⟩
        have b1 : (0 : Int) ≤ (ix : Int) := by omega
        have b2 : (ix : Int) < (M : Int) := by omega
        have b3 : IntKind.i64.wrap ((a1 : Int) + (wi : Int)) = (ix : Int) := by rw [hix]; simp [IntKind.wrap, IntKind.bits, IntKind.signed]; omega
        have b6 : IntKind.i64.wrap (a1 : Int) = (a1 : Int) := by simp [IntKind.wrap, IntKind.bits, IntKind.signed]; omega
        rw [← hix] at gb1
        have Hix := show Hid (ix = a1 + wi) from hix
        clear hix gM1
        have b4 : (0 : Int) ≤ (m : Int) := by omega
        have b5 : (m : Int) < (n : Int) := by omega
        go_wp2
        go_region_held3 (fun w' => w'.cell? ⟨tb, 13, none⟩ = some (.slice (some ⟨bb, 0, none⟩) M M) ∧ w'.cell? ⟨rb, m, none⟩ = some (.int .i64 r1) ∧ w'.cell? ⟨bb, ix, none⟩ = some (.int .u64 X)) (first | exact ⟨(ht2.cell htc).trans g7, (ht2.cell hrc).trans gr1, (ht2.cell hbc).trans gb1⟩ | go_keep)
          ((go_at_call 5; refine (addBits_any cb (64 * wi) _ X wt _ _ hX hwt1 hc0 (by exact hT') (by exact hc0'.row) (fun j _ => Nat.mod_lt _ (by decide)) (by exact hfz')).mono ?_; rintro e w2 ⟨rfl, ht2, hrest2, g2, hg2, hgv⟩))
        have hm2 := hm.drew.touch ht2 hcb
        have hc2 := hc0'.drew.step 0 X wt (by rw [Nat.zero_add, ← HWT.out, Nat.mod_eq_of_lt hwt1]) hrest2 hg2 hgv
        have hT2 : TabAt w2 := fun j hj => (ht2.cell (Ne.symm hc0)).trans (hT' j hj)
        have hfz2 : ∀ j, j < 64 → w2.frozen? ⟨cb, 64 * wi + j, none⟩ = false := fun j hj => (ht2.frozen _).trans (hfz' j hj)
        clear ht2 hrest2 hg2 hgv g7 gr1 gb1 hT' hfz' hm hc0' g10 b1 b2 b3 b4 b5 b6 e1 ewt
        by_cases hNz : N = 0
        · have hNb : ((N : Int) == 0) = true := by simp [hNz]
          have HNz := show Hid (N = 0) from hNz
          clear hNz
          go_wp2
          refine bodyPost_ret (results_none rfl _ _ _) rfl ?_
          refine ⟨rfl, hm2.keeps, hc2.out Hf.out (fun i hi => ?_)⟩
          have h1 := HT0.out i
          have h2 : Csa.sumTo (fun k => Csa.bit (B (r k * W + wi)) i) m = 0 := by
            rw [Csa.sumTo_zero _ 0 m (Nat.zero_le _) (fun k _ hk => by rw [HN0.out HNz.out k (by have := Hmp.out; omega), Csa.bit_zero])]; rfl
          rw [h2] at h1
          exact h1
        · have hNb : ((N : Int) == 0) = false := by simp [hNz]
          go_wp2_with (go_at_call 6; refine (len_any n _ (by omega)).mono ?_; rintro e w' ⟨rfl, rfl⟩)
          have hL1 := bitLen_lt n (by omega)
          have hL2 := bitLen_13 n hn
          have HF := show Hid (∀ i, i < 64 → Csa.sumTo (Csa.lev Sf Cf m i) (Lib.bitLen n) = Csa.sumTo (fun k => Csa.bit (B (r k * W + wi)) i) m) from fun i hi => by
            have := hh.finish (Lib.bitLen n) (by omega) (by have := Hmp.out; omega) i hi
            rw [← Hmp.out] at this
            exact this
          have hmb : m < 18446744073709551616 := by omega
          clear hh hL1 HN0
          generalize Lib.bitLen n = L at *
          go_loopw [151] (fun kk w3 => ∃ (K : Nat) (T : Nat → Nat), (∀ i, i < 64 → T i = (fun j => 0 + 2 ^ 0 * Csa.bit X j) i + Csa.sumTo (Csa.lev Sf Cf m i) K) ∧ K ≤ L ∧ kk = .int .i64 K ∧ Mem cb w w3 Sf Cf ∧ TabAt w3 ∧ (∀ j, j < 64 → w3.frozen? ⟨cb, 64 * wi + j, none⟩ = false) ∧
              Cnt cb (64 * wi) w w3 (fun i => f (64 * wi + i)) shift T) (fun kk _ => L - (intOf kk).toNat)
          case atStart => exact ⟨0, _, fun i _ => rfl, Nat.zero_le _, rfl, hm2, hT2, hfz2, hc2⟩
          case round =>
            obtain ⟨K, T, hTK, hK, rfl, hm3, hT3, hfz3, hc3⟩ := hrel
            have HTK := show Hid (∀ i, i < 64 → T i = (fun j => 0 + 2 ^ 0 * Csa.bit X j) i + Csa.sumTo (Csa.lev Sf Cf m i) K) from hTK
            clear hTK
            by_cases hKL : K < L
            · have hd : decide ((K : Int) < (L : Int)) = true := decide_eq_true (by omega)
              have cS := hm3.s K (by omega)
              have cC := hm3.c K (by omega)
              simp only [Nat.zero_add] at cS cC
              have bS := hm3.sb K
              have bC := hm3.cbd K
              obtain ⟨wk, hwk⟩ : ∃ x, x = 2 ^ (K + shift) % 18446744073709551616 := ⟨_, rfl⟩
              have hwk1 : wk < 18446744073709551616 := by rw [hwk]; exact Nat.mod_lt _ (by decide)
              have ewk := wrap_pow_min K shift wk hwk
              obtain ⟨Q, hQ⟩ : ∃ x, x = 2 ^ K % 18446744073709551616 := ⟨_, rfl⟩
              have eQ := wrap_pow K Q hQ
              obtain ⟨q0, q1, q2, q3⟩ := and_pow_walk m K Q hmb (by omega) hQ
              have HWK := show Hid (wk = 2 ^ (K + shift) % 18446744073709551616) from hwk
              clear hwk hQ
              have i1 : (0 : Int) ≤ (K : Int) := by omega
              have i2 : (K : Int) < 16 := by omega
              have i3 : IntKind.i64.wrap ((K : Int) + (shift : Int)) = (K : Int) + (shift : Int) := by simp [IntKind.wrap, IntKind.bits, IntKind.signed]; omega
              have i4 : ¬ (K : Int) + (shift : Int) < 0 := by omega
              have hcbS : w.heap.size ≠ cb := by omega
              have hcbC : w.heap.size + 1 ≠ cb := by omega
              have HT0' := show Hid (∀ i, (((fun j => 0 + 2 ^ 0 * Csa.bit X j) i + Csa.sumTo (Csa.lev Sf Cf m i) K) + 2 ^ K * Csa.bit (Sf K) i + 2 ^ K * (Csa.bit m K * Csa.bit (Cf K) i)) = (fun j => 0 + 2 ^ 0 * Csa.bit X j) i + Csa.sumTo (Csa.lev Sf Cf m i) (K + 1)) from fun i => tot_level (fun j => 0 + 2 ^ 0 * Csa.bit X j) Sf Cf m K i
              go_wp2
              go_region_held3 (fun w' => w'.cell? ⟨w.heap.size, K, none⟩ = some (.int .u64 (Sf K))) (first | exact (ht4.cell hcbS).trans cS | go_keep)
                ((go_at_call 5; refine (addBits_any cb (64 * wi) _ (Sf K) wk (fun i => (f (64 * wi + i) + 2 ^ shift * T i) % 18446744073709551616) _ bS hwk1 hc0 (by exact hT3) (by exact hc3.row) (fun j _ => Nat.mod_lt _ (by decide)) (by exact hfz3)).mono ?_; rintro e w4 ⟨rfl, ht4, hrest4, g4, hg4, hgv4⟩))
              have hm4 := hm3.drew.touch ht4 hcb
              have hc4 := hc3.drew.step K (Sf K) wk HWK.out hrest4 hg4 hgv4
              have hT4 : TabAt w4 := fun j hj => (ht4.cell (Ne.symm hc0)).trans (hT3 j hj)
              have hfz4 : ∀ j, j < 64 → w4.frozen? ⟨cb, 64 * wi + j, none⟩ = false := fun j hj => (ht4.frozen _).trans (hfz3 j hj)
              have cC4 := (ht4.cell (a := ⟨w.heap.size + 1, K, none⟩) hcbC).trans cC
              clear ht4 hrest4 hg4 hgv4 cS cC hT3 hfz3 hm3 hc3
              by_cases hbm : Csa.bit m K = 0
              · have ka := q0 hbm
                have HE := show Hid (∀ i, i < 64 → T i + 2 ^ K * Csa.bit (Sf K) i = (fun j => 0 + 2 ^ 0 * Csa.bit X j) i + Csa.sumTo (Csa.lev Sf Cf m i) (K + 1)) from fun i hi => by
                  rw [← HT0'.out i, hbm, HTK.out i hi]; omega
                clear q0 q1 hbm
                go_wp2
                go_roundw
                case rel => exact ⟨K + 1, _, HE.out, by omega, by go_num, hm4, hT4, hfz4, hc4⟩
                case measure => simp only [intOf]; omega
              · have hbm1 : Csa.bit m K = 1 := by have := Csa.bit_le m K; omega
                have ka := q1 hbm1
                have HE := show Hid (∀ i, i < 64 → T i + 2 ^ K * Csa.bit (Sf K) i + 2 ^ K * Csa.bit (Cf K) i = (fun j => 0 + 2 ^ 0 * Csa.bit X j) i + Csa.sumTo (Csa.lev Sf Cf m i) (K + 1)) from fun i hi => by
                  rw [← HT0'.out i, hbm1, HTK.out i hi]; simp only [Nat.one_mul]
                have q4 : ((Q : Int) != 0) = true := by rw [bne_iff_ne]; omega
                clear q0 q1 hbm hbm1
                go_wp2
                go_region_held3 (fun w' => w'.cell? ⟨w.heap.size + 1, K, none⟩ = some (.int .u64 (Cf K))) (first | exact (ht5.cell hcbC).trans cC4 | go_keep)
                  ((go_at_call 5; refine (addBits_any cb (64 * wi) _ (Cf K) wk (fun i => (f (64 * wi + i) + 2 ^ shift * (T i + 2 ^ K * Csa.bit (Sf K) i)) % 18446744073709551616) _ bC hwk1 hc0 (by exact hT4) (by exact hc4.row) (fun j _ => Nat.mod_lt _ (by decide)) (by exact hfz4)).mono ?_; rintro e w5 ⟨rfl, ht5, hrest5, g5, hg5, hgv5⟩))
                have hm5 := hm4.drew.touch ht5 hcb
                have hc5 := hc4.drew.step K (Cf K) wk HWK.out hrest5 hg5 hgv5
                have hT5 : TabAt w5 := fun j hj => (ht5.cell (Ne.symm hc0)).trans (hT4 j hj)
                have hfz5 : ∀ j, j < 64 → w5.frozen? ⟨cb, 64 * wi + j, none⟩ = false := fun j hj => (ht5.frozen _).trans (hfz4 j hj)
                clear ht5 hrest5 hg5 hgv5 cC4 hT4 hfz4 hm4 hc4
                go_wp2
                go_roundw
                case rel => exact ⟨K + 1, _, HE.out, by omega, by go_num, hm5, hT5, hfz5, hc5⟩
                case measure => simp only [intOf]; omega
            · have hd : decide ((K : Int) < (L : Int)) = false := decide_eq_false (by omega)
              go_wp2
              go_end0
              refine ⟨rfl, hm3.keeps, hc3.out Hf.out (fun i hi => ?_)⟩
              have eK : K = L := by omega
              rw [HTK.out i hi, eK, HF.out i hi]
              exact HT0.out i
      · have HT0 := show Hid (∀ i, (0 : Nat) + Csa.sumTo (fun k => Csa.bit (B (r k * W + wi)) i) m = Csa.sumTo (fun k => Csa.bit (B (r k * W + wi)) i) n) from fun i => by
          have en : n = m := by omega
          rw [en, Nat.zero_add]
        have hm2 := hm
        have hc2 := hc0'
        have hT2 := hT'
        have hfz2 := hfz'
        have Hf := show Hid (Row w cb 0 .u64 f (64 * W)) from hf
        clear hr hB hf hfb hBb hrM hfz HB hT' hfz' hc0' hm
        have hoddb : decide ((m : Int) < (n : Int)) = false := decide_eq_false (by omega)
        by_cases hNz : N = 0
        · have hNb : ((N : Int) == 0) = true := by simp [hNz]
          have HNz := show Hid (N = 0) from hNz
          clear hNz
          go_wp2
          refine bodyPost_ret (results_none rfl _ _ _) rfl ?_
          refine ⟨rfl, hm2.keeps, hc2.out Hf.out (fun i hi => ?_)⟩
          have h1 := HT0.out i
          have h2 : Csa.sumTo (fun k => Csa.bit (B (r k * W + wi)) i) m = 0 := by
            rw [Csa.sumTo_zero _ 0 m (Nat.zero_le _) (fun k _ hk => by rw [HN0.out HNz.out k (by have := Hmp.out; omega), Csa.bit_zero])]; rfl
          rw [h2] at h1
          exact h1
        · have hNb : ((N : Int) == 0) = false := by simp [hNz]
          go_wp2_with (go_at_call 6; refine (len_any n _ (by omega)).mono ?_; rintro e w' ⟨rfl, rfl⟩)
          have hL1 := bitLen_lt n (by omega)
          have hL2 := bitLen_13 n hn
          have HF := show Hid (∀ i, i < 64 → Csa.sumTo (Csa.lev Sf Cf m i) (Lib.bitLen n) = Csa.sumTo (fun k => Csa.bit (B (r k * W + wi)) i) m) from fun i hi => by
            have := hh.finish (Lib.bitLen n) (by omega) (by have := Hmp.out; omega) i hi
            rw [← Hmp.out] at this
            exact this
          have hmb : m < 18446744073709551616 := by omega
          clear hh hL1 HN0
          generalize Lib.bitLen n = L at *
          go_loopw [151] (fun kk w3 => ∃ (K : Nat) (T : Nat → Nat), (∀ i, i < 64 → T i = (fun _ => 0) i + Csa.sumTo (Csa.lev Sf Cf m i) K) ∧ K ≤ L ∧ kk = .int .i64 K ∧ Mem cb w w3 Sf Cf ∧ TabAt w3 ∧ (∀ j, j < 64 → w3.frozen? ⟨cb, 64 * wi + j, none⟩ = false) ∧
              Cnt cb (64 * wi) w w3 (fun i => f (64 * wi + i)) shift T) (fun kk _ => L - (intOf kk).toNat)
          case atStart => exact ⟨0, _, fun i _ => rfl, Nat.zero_le _, rfl, hm2, hT2, hfz2, hc2⟩
          case round =>
            obtain ⟨K, T, hTK, hK, rfl, hm3, hT3, hfz3, hc3⟩ := hrel
            have HTK := show Hid (∀ i, i < 64 → T i = (fun _ => 0) i + Csa.sumTo (Csa.lev Sf Cf m i) K) from hTK
            clear hTK
            by_cases hKL : K < L
            · have hd : decide ((K : Int) < (L : Int)) = true := decide_eq_true (by omega)
              have cS := hm3.s K (by omega)
              have cC := hm3.c K (by omega)
              simp only [Nat.zero_add] at cS cC
              have bS := hm3.sb K
              have bC := hm3.cbd K
              obtain ⟨wk, hwk⟩ : ∃ x, x = 2 ^ (K + shift) % 18446744073709551616 := ⟨_, rfl⟩
              have hwk1 : wk < 18446744073709551616 := by rw [hwk]; exact Nat.mod_lt _ (by decide)
              have ewk := wrap_pow_min K shift wk hwk
              obtain ⟨Q, hQ⟩ : ∃ x, x = 2 ^ K % 18446744073709551616 := ⟨_, rfl⟩
              have eQ := wrap_pow K Q hQ
              obtain ⟨q0, q1, q2, q3⟩ := and_pow_walk m K Q hmb (by omega) hQ
              have HWK := show Hid (wk = 2 ^ (K + shift) % 18446744073709551616) from hwk
              clear hwk hQ
              have i1 : (0 : Int) ≤ (K : Int) := by omega
              have i2 : (K : Int) < 16 := by omega
              have i3 : IntKind.i64.wrap ((K : Int) + (shift : Int)) = (K : Int) + (shift : Int) := by simp [IntKind.wrap, IntKind.bits, IntKind.signed]; omega
              have i4 : ¬ (K : Int) + (shift : Int) < 0 := by omega
              have hcbS : w.heap.size ≠ cb := by omega
              have hcbC : w.heap.size + 1 ≠ cb := by omega
              have HT0' := show Hid (∀ i, (((fun _ => 0) i + Csa.sumTo (Csa.lev Sf Cf m i) K) + 2 ^ K * Csa.bit (Sf K) i + 2 ^ K * (Csa.bit m K * Csa.bit (Cf K) i)) = (fun _ => 0) i + Csa.sumTo (Csa.lev Sf Cf m i) (K + 1)) from fun i => tot_level (fun _ => 0) Sf Cf m K i
              go_wp2
              go_region_held3 (fun w' => w'.cell? ⟨w.heap.size, K, none⟩ = some (.int .u64 (Sf K))) (first | exact (ht4.cell hcbS).trans cS | go_keep)
                ((go_at_call 5; refine (addBits_any cb (64 * wi) _ (Sf K) wk (fun i => (f (64 * wi + i) + 2 ^ shift * T i) % 18446744073709551616) _ bS hwk1 hc0 (by exact hT3) (by exact hc3.row) (fun j _ => Nat.mod_lt _ (by decide)) (by exact hfz3)).mono ?_; rintro e w4 ⟨rfl, ht4, hrest4, g4, hg4, hgv4⟩))
              have hm4 := hm3.drew.touch ht4 hcb
              have hc4 := hc3.drew.step K (Sf K) wk HWK.out hrest4 hg4 hgv4
              have hT4 : TabAt w4 := fun j hj => (ht4.cell (Ne.symm hc0)).trans (hT3 j hj)
              have hfz4 : ∀ j, j < 64 → w4.frozen? ⟨cb, 64 * wi + j, none⟩ = false := fun j hj => (ht4.frozen _).trans (hfz3 j hj)
              have cC4 := (ht4.cell (a := ⟨w.heap.size + 1, K, none⟩) hcbC).trans cC
              clear ht4 hrest4 hg4 hgv4 cS cC hT3 hfz3 hm3 hc3
              by_cases hbm : Csa.bit m K = 0
              · have ka := q0 hbm
                have HE := show Hid (∀ i, i < 64 → T i + 2 ^ K * Csa.bit (Sf K) i = (fun _ => 0) i + Csa.sumTo (Csa.lev Sf Cf m i) (K + 1)) from fun i hi => by
                  rw [← HT0'.out i, hbm, HTK.out i hi]; omega
                clear q0 q1 hbm
                go_wp2
                go_roundw
                case rel => exact ⟨K + 1, _, HE.out, by omega, by go_num, hm4, hT4, hfz4, hc4⟩
                case measure => simp only [intOf]; omega
              · have hbm1 : Csa.bit m K = 1 := by have := Csa.bit_le m K; omega
                have ka := q1 hbm1
                have HE := show Hid (∀ i, i < 64 → T i + 2 ^ K * Csa.bit (Sf K) i + 2 ^ K * Csa.bit (Cf K) i = (fun _ => 0) i + Csa.sumTo (Csa.lev Sf Cf m i) (K + 1)) from fun i hi => by
                  rw [← HT0'.out i, hbm1, HTK.out i hi]; simp only [Nat.one_mul]
                have q4 : ((Q : Int) != 0) = true := by rw [bne_iff_ne]; omega
                clear q0 q1 hbm hbm1
                go_wp2
                go_region_held3 (fun w' => w'.cell? ⟨w.heap.size + 1, K, none⟩ = some (.int .u64 (Cf K))) (first | exact (ht5.cell hcbC).trans cC4 | go_keep)
                  ((go_at_call 5; refine (addBits_any cb (64 * wi) _ (Cf K) wk (fun i => (f (64 * wi + i) + 2 ^ shift * (T i + 2 ^ K * Csa.bit (Sf K) i)) % 18446744073709551616) _ bC hwk1 hc0 (by exact hT4) (by exact hc4.row) (fun j _ => Nat.mod_lt _ (by decide)) (by exact hfz4)).mono ?_; rintro e w5 ⟨rfl, ht5, hrest5, g5, hg5, hgv5⟩))
                have hm5 := hm4.drew.touch ht5 hcb
                have hc5 := hc4.drew.step K (Cf K) wk HWK.out hrest5 hg5 hgv5
                have hT5 : TabAt w5 := fun j hj => (ht5.cell (Ne.symm hc0)).trans (hT4 j hj)
                have hfz5 : ∀ j, j < 64 → w5.frozen? ⟨cb, 64 * wi + j, none⟩ = false := fun j hj => (ht5.frozen _).trans (hfz4 j hj)
                clear ht5 hrest5 hg5 hgv5 cC4 hT4 hfz4 hm4 hc4
                go_wp2
                go_roundw
                case rel => exact ⟨K + 1, _, HE.out, by omega, by go_num, hm5, hT5, hfz5, hc5⟩
                case measure => simp only [intOf]; omega
            · have hd : decide ((K : Int) < (L : Int)) = false := decide_eq_false (by omega)
              go_wp2
              go_end0
              refine ⟨rfl, hm3.keeps, hc3.out Hf.out (fun i hi => ?_)⟩
              have eK : K = L := by omega
              rw [HTK.out i hi, eK, HF.out i hi]
              exact HT0.out i
end Go.Proofs.YbulkvnyDoor
