import Derived.Test.YbulkvnyEnv
set_option linter.unusedVariables false
set_option linter.unusedSimpArgs false
namespace Go.Proofs.Ybulkvny
open Go.RowKit Go.MuLone

/-- a slice of bytes that came in: only read -/
structure Arg (w : World) (ao : Option Addr) (n b off : Nat) (f : Nat → Nat) : Prop where
  at' : 0 < n → ao = some ⟨b, off, none⟩
  cell : ∀ i, i < n → w.cell? ⟨b, off + i, none⟩ = some (.int .u8 (f i))
  old : 0 < n → b < w.heap.size

/-- a slice of slices of bytes that came in -/
structure Vals (w : World) (ao : Option Addr) (n b off : Nat) (A : Nat → Option Addr) (N C : Nat → Nat) (L : Nat → List Nat) : Prop where
  at' : 0 < n → ao = some ⟨b, off, none⟩
  cell : ∀ i, i < n → w.cell? ⟨b, off + i, none⟩ = some (.slice (A i) (N i) (C i))
  old : 0 < n → b < w.heap.size
  src : ∀ i, i < n → Src w (A i) (N i) (L i)

theorem Arg.later {w w' : World} {ao : Option Addr} {n b off : Nat} {f : Nat → Nat} (h : Arg w ao n b off f) (hb : Below w.heap.size w w') (i : Nat) (hi : i < n) : w'.cell? ⟨b, off + i, none⟩ = some (.int .u8 (f i)) :=
  (hb.cell (p := ⟨b, off + i, none⟩) (h.old (by omega))).trans (h.cell i hi)
theorem Vals.later {w w' : World} {ao : Option Addr} {n b off : Nat} {A : Nat → Option Addr} {N C : Nat → Nat} {L : Nat → List Nat} (h : Vals w ao n b off A N C L) (hb : Below w.heap.size w w') (i : Nat) (hi : i < n) :
    w'.cell? ⟨b, off + i, none⟩ = some (.slice (A i) (N i) (C i)) :=
  (hb.cell (p := ⟨b, off + i, none⟩) (h.old (by omega))).trans (h.cell i hi)
theorem Src.below {w w' : World} {ao : Option Addr} {n : Nat} {l : List Nat} (h : Src w ao n l) (hb : Below w.heap.size w w') : Src w' ao n l :=
  ⟨h.len, fun hn => by
    obtain ⟨b, off, e, hlt, hcell⟩ := h.cells hn
    exact ⟨b, off, e, Nat.lt_of_lt_of_le hlt hb.size, fun j hj => (hb.cell (p := ⟨b, off + j, none⟩) hlt).trans (hcell j hj)⟩⟩

theorem Part.after {w w' : World} {pb mb : Nat} {V : Nat → Option Value} (h : Part w pb mb V) (t : Keeps pb w w') (hc : ∀ j, w'.cell? ⟨pb, j, none⟩ = w.cell? ⟨pb, j, none⟩) : Part w' pb mb V :=
  ⟨(hc 2).trans h.mu, (t.frozen ⟨pb, 2, none⟩ h.lt).trans h.fmu, (hc 40).trans h.own, h.map.keeps t h.map.lt h.ne, h.ne, Nat.lt_of_lt_of_le h.lt t.size⟩

/-- what the law knows behind j keys: of the key q alone -/
structure Know (H q : Nat) (w : World) (V : Nat → Option Value) (wa : Option Addr) (wn : Nat) (wl : List Nat) (fd : Bool) (ao : Option Addr) (c : Nat) : Prop where
  part : Part w (H + 1) H V
  val : (V q).getD (.slice none 0 0) = .slice ao wn c
  ok : (V q).isSome = fd
  bv : Bt (H + 2) w ao wn wl
  bw : Bt (H + 2) w wa wn wl
  le : wn ≤ 4096

def partCells (H : Nat) : Array Value := #[Value.int IntKind.i32 0, Value.int IntKind.u32 0, Value.int IntKind.i32 0, Value.int IntKind.u32 0,
      Value.pointer none, Value.pointer none, Value.int IntKind.u8 0, Value.int IntKind.u8 0, Value.int IntKind.u8 0, Value.int IntKind.u8 0, Value.int IntKind.u8 0, Value.int IntKind.u8 0, Value.int IntKind.u8 0, Value.int IntKind.u8 0, Value.int IntKind.u8 0, Value.int IntKind.u8 0, Value.int IntKind.u8 0, Value.int IntKind.u8 0, Value.int IntKind.u8 0, Value.int IntKind.u8 0, Value.int IntKind.u8 0, Value.int IntKind.u8 0, Value.int IntKind.u8 0, Value.int IntKind.u8 0, Value.int IntKind.u8 0, Value.int IntKind.u8 0, Value.int IntKind.u8 0, Value.int IntKind.u8 0, Value.int IntKind.u8 0, Value.int IntKind.u8 0, Value.int IntKind.u8 0, Value.int IntKind.u8 0, Value.int IntKind.u8 0, Value.int IntKind.u8 0, Value.int IntKind.u8 0, Value.int IntKind.u8 0, Value.int IntKind.u8 0, Value.int IntKind.u8 0, Value.int IntKind.i64 0, Value.nilFunc, Value.map (some H),
      Value.string { data := #[] }, Value.pointer none, Value.nilIface, Value.bool false, Value.slice none 0 0]

theorem Know.start (w : World) (q : Nat) : Know w.heap.size q ((w.alloc (.map #[] 0)).alloc (.cells (partCells w.heap.size) 43)) (fun _ => none) none 0 [] false none 0 := by
  have hs : (w.alloc (.map #[] 0)).heap.size = w.heap.size + 1 := World.size_alloc _ _
  have hcell : ∀ i, ((w.alloc (.map #[] 0)).alloc (.cells (partCells w.heap.size) 43)).cell? ⟨w.heap.size + 1, i, none⟩ = (partCells w.heap.size)[i]? := fun i => by
    rw [← hs]; exact World.cell?_alloc_new _ _ _ i
  refine ⟨⟨(hcell 2).trans rfl, ?_, (hcell 40).trans rfl, ?_, by omega, ?_⟩, rfl, rfl, Bt.none _ _, Bt.none _ _, by omega⟩
  · rw [← hs]; exact World.frozen?_alloc_at _ _ _ _ rfl
  · exact (MapSt.made w 0).of_block (Below.heap_alloc _ _ _ (by rw [hs]; omega))
  · rw [World.size_alloc, hs]; omega

/-- a key is stored, and it is not q -/
theorem Know.other {H q : Nat} {w w' : World} {V : Nat → Option Value} {wa : Option Addr} {wn : Nat} {wl : List Nat} {fd : Bool} {ao : Option Addr} {c : Nat} (h : Know H q w V wa wn wl fd ao c) (k : Nat) (v : Value) (hk : k ≠ q)
    (hp : Part w' (H + 1) H (setV V k v)) (hb1 : Bt (H + 2) w' ao wn wl) (hb2 : Bt (H + 2) w' wa wn wl) : Know H q w' (setV V k v) wa wn wl fd ao c :=
  ⟨hp, by unfold setV; rw [if_neg (Ne.symm hk)]; exact h.val, by unfold setV; rw [if_neg (Ne.symm hk)]; exact h.ok, hb1, hb2, h.le⟩

/-- q is stored -/
theorem Know.same {H q : Nat} {w' : World} {V : Nat → Option Value} (wa : Option Addr) (n : Nat) (l : List Nat) (ao : Option Addr) (c : Nat) (hn : n ≤ 4096)
    (hp : Part w' (H + 1) H (setV V q (.slice ao n c))) (hb1 : Bt (H + 2) w' ao n l) (hb2 : Bt (H + 2) w' wa n l) : Know H q w' (setV V q (.slice ao n c)) wa n l true ao c :=
  ⟨hp, by unfold setV; rw [if_pos rfl]; rfl, by unfold setV; rw [if_pos rfl]; rfl, hb1, hb2, hn⟩

theorem Touch.keeps {b c : Nat} {u v : World} (h : Touch b u v) (hc : c = b ∨ u.heap.size ≤ b) : Keeps c u v :=
  ⟨h.os, h.tape, h.output, by rw [h.size]; exact Nat.le_refl _, fun k hk hb => h.block k (by omega), fun a _ => h.frozen a⟩

theorem Keeps.weak {w w' : World} {d c : Nat} (h : Keeps d w w') (hd : w.heap.size ≤ d) : Keeps c w w' :=
  ⟨h.os, h.tape, h.output, h.size, fun k hk _ => h.block k hk (by omega), h.frozen⟩
theorem Bt.drewn {lo : Nat} {w : World} {ao : Option Addr} {n : Nat} {l : List Nat} (h : Bt lo w ao n l) : Bt lo w.drew ao n l := ⟨⟨h.src.len, h.src.cells⟩, h.nil, h.lo⟩
theorem Part.stored {w w' : World} {pb mb : Nat} {V V' : Nat → Option Value} (h : Part w pb mb V) (t : Touch mb w.drew w') (hm : MapSt w' mb V') : Part w' pb mb V' :=
  ⟨(t.cell (a := ⟨pb, 2, none⟩) (Ne.symm h.ne)).trans h.mu, (t.frozen _).trans h.fmu, (t.cell (a := ⟨pb, 40, none⟩) (Ne.symm h.ne)).trans h.own, hm, h.ne, by rw [t.size]; exact h.lt⟩
theorem rangeAt_touch {w w' : World} {mb b : Nat} {cs : List Value} (h : w.rangeAt b 0 cs) (t : Touch mb w w') (hb : b ≠ mb) : w'.rangeAt b 0 cs := fun j v hv => (t.cell (a := ⟨b, 0 + j, none⟩) hb).trans (h j v hv)
theorem rangeAt_keeps {w w' : World} {c b : Nat} {cs : List Value} (h : w.rangeAt b 0 cs) (t : Keeps c w w') (hb : b < w.heap.size) (hc : b ≠ c) : w'.rangeAt b 0 cs := fun j v hv => (t.cell (a := ⟨b, 0 + j, none⟩) hb hc).trans (h j v hv)
theorem rangeAt_key (w : World) (k : Nat) : (w.alloc (.cells (keyCells k).toArray 44)).rangeAt w.heap.size 0 (keyCells k) := fun j v hj => by
  rw [Nat.zero_add, World.cell?_alloc_new, List.getElem?_toArray]; exact hj

set_option maxHeartbeats 2000000 in
set_option maxRecDepth 100000 in
theorem law_main (ka va : Option Addr) (kn kc kb koff vn vc vb voff q : Nat) (K : Nat → Nat) (A : Nat → Option Addr) (N C : Nat → Nat) (L : Nat → List Nat) (w : World)
    (hkn : kn ≤ 1024) (hvn : vn ≤ 1024) (hq : q < 256) (hK : Arg w ka kn kb koff K) (hKb : ∀ i, K i < 256) (hV : Vals w va vn vb voff A N C L) (hNb : ∀ i, N i ≤ 9223372036854775807) :
    Calls Yba.prog 3 #[.slice ka kn kc, .slice va vn vc, .int .u8 q] w fun e w' => e = .returned (.bool true) ∧ Below w.heap.size w w' := by
  have c1 : decide ((1024 : Int) < (kn : Int)) = false := decide_eq_false (by omega)
  have c2 : decide ((1024 : Int) < (vn : Int)) = false := decide_eq_false (by omega)
  have hmm := @run_makeMap Yba.prog
  go_enter Yba.func3, Yba.ntmps3
  go_wp2
  go_loop [7] (fun i => ∃ j : Nat, j ≤ vn ∧ i = .int .i64 j ∧ ∀ t, t < j → N t ≤ 4096) (fun i => vn - (intOf i).toNat)
  case atStart => exact ⟨0, Nat.zero_le _, rfl, fun t h => by omega⟩
  case round =>
    obtain ⟨j, hj, rfl, hall⟩ := hrel
    have HALL := show Hid (∀ t, t < j → N t ≤ 4096) from hall
    clear hall
    by_cases hlt : j < vn
    · have hd : decide ((j : Int) < (vn : Int)) = true := decide_eq_true (by omega)
      obtain rfl := hV.at' (by omega)
      have cV := hV.cell j hlt
      have hNj := hNb j
      by_cases hbig : 4096 < N j
      · have hd2 : decide ((4096 : Int) < (N j : Int)) = true := decide_eq_true (by omega)
        go_wp2
        go_ret
        exact ⟨rfl, Below.refl _ _⟩
      · have hd2 : decide ((4096 : Int) < (N j : Int)) = false := decide_eq_false (by omega)
        go_wp2
        go_round
        case rel => exact ⟨j + 1, by omega, by go_num, fun t ht => by
          by_cases e : t = j
          · rw [e]; omega
          · exact HALL.out t (by omega)⟩
        case measure => simp only [intOf]; omega
    · have hd : decide ((j : Int) < (vn : Int)) = false := decide_eq_false (by omega)
      have HN4 := show Hid (∀ t, t < vn → N t ≤ 4096) from fun t ht => HALL.out t (by omega)
      clear HALL
      go_wp2
      have hk0 := Know.start w q
      have hB0 := ((Below.refl w.heap.size w).alloc (Nat.le_refl _) (.map #[] 0)).alloc (by rw [World.size_alloc]; omega) (.cells (partCells w.heap.size) 43)
      have hz0 : ((w.alloc (.map #[] 0)).alloc (.cells (partCells w.heap.size) 43)).heap.size = w.heap.size + 2 := by rw [World.size_alloc, World.size_alloc]
      clear hmm
      go_loopw [9, 10, 45] (fun want found i wr => ∃ (t : Nat) (V : Nat → Option Value) (wa : Option Addr) (wn wc : Nat) (wl : List Nat) (fd : Bool) (ao : Option Addr) (c : Nat), t ≤ kn ∧ want = .slice wa wn wc ∧ found = .bool fd ∧ i = .int .i64 t ∧
          Below w.heap.size w wr ∧ w.heap.size + 2 ≤ wr.heap.size ∧ Know w.heap.size q wr V wa wn wl fd ao c) (fun _ _ i _ => kn - (intOf i).toNat)
      case atStart => exact ⟨0, _, none, 0, 0, [], false, none, 0, Nat.zero_le _, rfl, rfl, rfl, hB0, Nat.le_of_eq hz0.symm, hk0⟩
      case round =>
        clear hk0 hB0 hz0
        obtain ⟨t, V, wa, wn, wc, wl, fd, ao, c, ht, rfl, rfl, rfl, hB1, hz1, hk1⟩ := hrel
        by_cases hlt1 : t < kn
        · have hd1 : decide ((t : Int) < (kn : Int)) = true := decide_eq_true (by omega)
          obtain rfl := hK.at' (by omega)
          have cK := hK.later hB1 t hlt1
          have hk256 := hKb t
          obtain ⟨k, hk⟩ : ∃ k, k = K t := ⟨_, rfl⟩
          rw [← hk] at cK hk256
          clear hk
          by_cases hin : t < vn
          · have hd2 : decide ((t : Int) < (vn : Int)) = true := decide_eq_true (by omega)
            obtain rfl := hV.at' (by omega)
            have hB2 := hB1.alloc (by omega) (.cells (keyCells k).toArray 44)
            have hvb : vb < wr.heap.size := Nat.lt_of_lt_of_le (hV.old (by omega)) hB1.size
            have cV1 : wr.cell? ⟨vb, voff + t, none⟩ = some (.slice (A t) (N t) (C t)) := hV.later hB1 t hin
            have hn4 := HN4.out t hin
            have hsrc := (hV.src t hin).below hB2
            go_wp2_with (at_builtin; refine wpList_copy_nil (by rfl) _ _ (by rfl) _ (A t) (N t) (C t) (L t) (by rfl) (by rfl) hsrc hn4 ?_; intro ao' c' w2 hBt hK2 hfr)
            have hA1 : (wr.alloc (.cells (keyCells k).toArray 44)).heap.size = wr.heap.size + 1 := World.size_alloc _ _
            have hKw : Keeps wr.heap.size wr w2 := ((Keeps.refl wr.heap.size wr).alloc (.cells (keyCells k).toArray 44)).trans (hK2.weak (by exact Nat.le_refl _))
            have hr2 : w2.rangeAt wr.heap.size 0 (keyCells k) := rangeAt_keeps (rangeAt_key wr k) hK2 (by rw [hA1]; omega) (by show wr.heap.size ≠ (wr.alloc (.cells (keyCells k).toArray 44)).heap.size; rw [hA1]; omega)
            have hBt : Bt wr.heap.size w2 ao' (N t) (L t) := hBt.mono (by show wr.heap.size ≤ (wr.alloc (.cells (keyCells k).toArray 44)).heap.size; rw [hA1]; omega)
            clear hA1 hK2 hfr hsrc cV1 hvb hB2
            have hKp : Keeps (w.heap.size + 1) wr w2 := hKw.weak (Nat.le_refl _)
            have hP2 : Part w2 (w.heap.size + 1) w.heap.size V := hk1.part.after hKp (fun j => hKw.cell (a := ⟨w.heap.size + 1, j, none⟩) hk1.part.lt (Nat.ne_of_lt hk1.part.lt))
            have hBd : Below w.heap.size w w2 := hB1.trans (hKw.below (by omega) (by omega))
            have hv2 := hk1.bv.keeps hKp (Or.inl (by omega))
            have hw2 := hk1.bw.keeps hKp (Or.inl (by omega))
            obtain ⟨w3, hup, hM3, ht3⟩ := (show MapSt w2.drew w.heap.size V from hP2.map.of_block rfl).update k hk256 (.slice ao' (N t) c')
            rw [keyV_cells] at hup
            have hP3 := hP2.stored ht3 hM3
            have hK3 : Keeps w.heap.size w2 w3 := (((Keeps.refl w.heap.size w2).drew).touch ht3 (Or.inl rfl))
            have hB3 : Below w.heap.size w w3 := hBd.trans (hK3.below (by have := hBd.size; omega) (Nat.le_refl _))
            have hv3 := hv2.keeps hK3 (Or.inl (by omega))
            have hw3 := hw2.keeps hK3 (Or.inl (by omega))
            have hn3 : Bt (w.heap.size + 2) w3 ao' (N t) (L t) := (hBt.mono (by omega)).keeps hK3 (Or.inl (by omega))
            have hz3 : w.heap.size + 2 ≤ w3.heap.size := Nat.le_trans hz1 (Nat.le_trans hKw.size hK3.size)
            have hown2 := hP2.own
            have hKN := show Hid (Know w.heap.size q wr V wa wn wl fd ao c) from hk1
            have hP3' := show Hid (Part w3 (w.heap.size + 1) w.heap.size (setV V k (.slice ao' (N t) c'))) from hP3
            have hne3 : wr.heap.size ≠ w.heap.size := by omega
            have hpm : w.heap.size + 1 ≠ w.heap.size := by omega
            have hr3 : w3.rangeAt wr.heap.size 0 (keyCells k) := rangeAt_touch (w := w2.drew) hr2 ht3 hne3
            have hown3 : w3.cell? ⟨w.heap.size + 1, 40, none⟩ = some (.map (some w.heap.size)) := (ht3.cell (a := ⟨w.heap.size + 1, 40, none⟩) hpm).trans hown2
            clear hKp hP2 hBd hv2 hw2 hM3 hK3 hP3 hk1 hKw hBt 
            have hu := Yba.underlying44
            have hi : (Yba.prog.info? 44).map (·.size) = some (keyCells k).length := size44
            have hl32 : (keyCells k).length = 32 := rfl
            have h1c := keyCells_one k
            go_region_held3 (fun w' => w'.cell? ⟨w.heap.size + 1, 40, none⟩ = some (.map (some w.heap.size)) ∧ w'.rangeAt wr.heap.size 0 (keyCells k)) (first | exact ⟨hown2, hr2⟩ | exact ⟨hown3, hr3⟩) (fail)
            clear hup ht3 hr2 hown2 hr3 hown3 hu hi hl32 h1c
            by_cases hkq : k = q
            · have hd3 : ((k : Int) == (q : Int)) = true := by simp [hkq]
              have Hkq := show Hid (k = q) from hkq
              clear hkq
              go_wp2_with (at_builtin; refine wpList_copy_nil (by rfl) _ _ (by rfl) _ ao' (N t) c' (L t) (by rfl) (by rfl) (by exact ⟨hn3.src.len, hn3.src.cells⟩) hn4 ?_; intro wa' wc' w4 hBw4 hK4 hfr4)
              have hK4' : Keeps (w.heap.size + 1) w3 w4 := hK4.weak (Nat.le_refl _)
              have hP4 := hP3'.out.after hK4' (fun j => hK4.cell (a := ⟨w.heap.size + 1, j, none⟩) hP3'.out.lt (Nat.ne_of_lt hP3'.out.lt))
              rw [Hkq.out] at hP4
              have hkn4 := Know.same wa' (N t) (L t) ao' c' hn4 hP4 (hn3.keeps hK4' (Or.inl (by omega))) (hBw4.mono hz3)
              have hB4 := hB3.trans (hK4.below (B := w.heap.size) (by omega) (by omega))
              have hz4 := Nat.le_trans hz3 hK4.size
              clear hK4 hK4' hP4 hBw4 hfr4 hn3 hv3 hw3 hKN hP3'
              go_roundw
              case rel => exact ⟨t + 1, _, wa', (N t), wc', (L t), true, ao', c', by omega, rfl, rfl, by go_num, hB4, hz4, hkn4⟩
              case measure => simp only [intOf]; omega
            · have hd3 : ((k : Int) == (q : Int)) = false := by simp; omega
              go_wp2
              go_roundw
              case rel => exact ⟨t + 1, _, wa, wn, wc, wl, fd, ao, c, by omega, rfl, rfl, by go_num, hB3, hz3, hKN.out.other k _ hkq hP3'.out hv3 hw3⟩
              case measure => simp only [intOf]; omega
          · have hd2 : decide ((t : Int) < (vn : Int)) = false := decide_eq_false (by omega)
            go_wp2
            have hKw : Keeps wr.heap.size wr (wr.alloc (.cells #[.int .u8 (k : Int), .int .u8 0, .int .u8 0, .int .u8 0, .int .u8 0, .int .u8 0, .int .u8 0, .int .u8 0, .int .u8 0, .int .u8 0, .int .u8 0, .int .u8 0, .int .u8 0, .int .u8 0, .int .u8 0, .int .u8 0, .int .u8 0, .int .u8 0, .int .u8 0, .int .u8 0, .int .u8 0, .int .u8 0, .int .u8 0, .int .u8 0, .int .u8 0, .int .u8 0, .int .u8 0, .int .u8 0, .int .u8 0, .int .u8 0, .int .u8 0, .int .u8 0] 44)) := (Keeps.refl wr.heap.size wr).alloc _
            have hr2 : (wr.alloc (.cells #[.int .u8 (k : Int), .int .u8 0, .int .u8 0, .int .u8 0, .int .u8 0, .int .u8 0, .int .u8 0, .int .u8 0, .int .u8 0, .int .u8 0, .int .u8 0, .int .u8 0, .int .u8 0, .int .u8 0, .int .u8 0, .int .u8 0, .int .u8 0, .int .u8 0, .int .u8 0, .int .u8 0, .int .u8 0, .int .u8 0, .int .u8 0, .int .u8 0, .int .u8 0, .int .u8 0, .int .u8 0, .int .u8 0, .int .u8 0, .int .u8 0, .int .u8 0, .int .u8 0] 44)).rangeAt wr.heap.size 0 (keyCells k) := rangeAt_key wr k
            have hn4 : (0 : Nat) ≤ 4096 := by omega
            have hBt : Bt wr.heap.size (wr.alloc (.cells #[.int .u8 (k : Int), .int .u8 0, .int .u8 0, .int .u8 0, .int .u8 0, .int .u8 0, .int .u8 0, .int .u8 0, .int .u8 0, .int .u8 0, .int .u8 0, .int .u8 0, .int .u8 0, .int .u8 0, .int .u8 0, .int .u8 0, .int .u8 0, .int .u8 0, .int .u8 0, .int .u8 0, .int .u8 0, .int .u8 0, .int .u8 0, .int .u8 0, .int .u8 0, .int .u8 0, .int .u8 0, .int .u8 0, .int .u8 0, .int .u8 0, .int .u8 0, .int .u8 0] 44)) none 0 [] := Bt.none _ _
            generalize wr.alloc (.cells #[.int .u8 (k : Int), .int .u8 0, .int .u8 0, .int .u8 0, .int .u8 0, .int .u8 0, .int .u8 0, .int .u8 0, .int .u8 0, .int .u8 0, .int .u8 0, .int .u8 0, .int .u8 0, .int .u8 0, .int .u8 0, .int .u8 0, .int .u8 0, .int .u8 0, .int .u8 0, .int .u8 0, .int .u8 0, .int .u8 0, .int .u8 0, .int .u8 0, .int .u8 0, .int .u8 0, .int .u8 0, .int .u8 0, .int .u8 0, .int .u8 0, .int .u8 0, .int .u8 0] 44) = w2 at hKw hr2 hBt ⊢
            have hKp : Keeps (w.heap.size + 1) wr w2 := hKw.weak (Nat.le_refl _)
            have hP2 : Part w2 (w.heap.size + 1) w.heap.size V := hk1.part.after hKp (fun j => hKw.cell (a := ⟨w.heap.size + 1, j, none⟩) hk1.part.lt (Nat.ne_of_lt hk1.part.lt))
            have hBd : Below w.heap.size w w2 := hB1.trans (hKw.below (by omega) (by omega))
            have hv2 := hk1.bv.keeps hKp (Or.inl (by omega))
            have hw2 := hk1.bw.keeps hKp (Or.inl (by omega))
            obtain ⟨w3, hup, hM3, ht3⟩ := (show MapSt w2.drew w.heap.size V from hP2.map.of_block rfl).update k hk256 (.slice none 0 0)
            rw [keyV_cells] at hup
            have hP3 := hP2.stored ht3 hM3
            have hK3 : Keeps w.heap.size w2 w3 := (((Keeps.refl w.heap.size w2).drew).touch ht3 (Or.inl rfl))
            have hB3 : Below w.heap.size w w3 := hBd.trans (hK3.below (by have := hBd.size; omega) (Nat.le_refl _))
            have hv3 := hv2.keeps hK3 (Or.inl (by omega))
            have hw3 := hw2.keeps hK3 (Or.inl (by omega))
            have hn3 : Bt (w.heap.size + 2) w3 none 0 [] := (hBt.mono (by omega)).keeps hK3 (Or.inl (by omega))
            have hz3 : w.heap.size + 2 ≤ w3.heap.size := Nat.le_trans hz1 (Nat.le_trans hKw.size hK3.size)
            have hown2 := hP2.own
            have hKN := show Hid (Know w.heap.size q wr V wa wn wl fd ao c) from hk1
            have hP3' := show Hid (Part w3 (w.heap.size + 1) w.heap.size (setV V k (.slice none 0 0))) from hP3
            have hne3 : wr.heap.size ≠ w.heap.size := by omega
            have hpm : w.heap.size + 1 ≠ w.heap.size := by omega
            have hr3 : w3.rangeAt wr.heap.size 0 (keyCells k) := rangeAt_touch (w := w2.drew) hr2 ht3 hne3
            have hown3 : w3.cell? ⟨w.heap.size + 1, 40, none⟩ = some (.map (some w.heap.size)) := (ht3.cell (a := ⟨w.heap.size + 1, 40, none⟩) hpm).trans hown2
            clear hKp hP2 hBd hv2 hw2 hM3 hK3 hP3 hk1 hKw hBt 
            have hu := Yba.underlying44
            have hi : (Yba.prog.info? 44).map (·.size) = some (keyCells k).length := size44
            have hl32 : (keyCells k).length = 32 := rfl
            have h1c := keyCells_one k
            go_region_held3 (fun w' => w'.cell? ⟨w.heap.size + 1, 40, none⟩ = some (.map (some w.heap.size)) ∧ w'.rangeAt wr.heap.size 0 (keyCells k)) (first | exact ⟨hown2, hr2⟩ | exact ⟨hown3, hr3⟩) (fail)
            clear hup ht3 hr2 hown2 hr3 hown3 hu hi hl32 h1c
            by_cases hkq : k = q
            · have hd3 : ((k : Int) == (q : Int)) = true := by simp [hkq]
              have Hkq := show Hid (k = q) from hkq
              clear hkq
              go_wp2_with (at_builtin; refine wpList_copy_nil (by rfl) _ _ (by rfl) _ none 0 0 [] (by rfl) (by rfl) (by exact ⟨hn3.src.len, hn3.src.cells⟩) hn4 ?_; intro wa' w0 w4 hBw4 hK4 hfr4)
              have hK4' : Keeps (w.heap.size + 1) w3 w4 := hK4.weak (Nat.le_refl _)
              have hP4 := hP3'.out.after hK4' (fun j => hK4.cell (a := ⟨w.heap.size + 1, j, none⟩) hP3'.out.lt (Nat.ne_of_lt hP3'.out.lt))
              rw [Hkq.out] at hP4
              have hkn4 := Know.same wa' 0 [] none 0 hn4 hP4 (hn3.keeps hK4' (Or.inl (by omega))) (hBw4.mono hz3)
              have hB4 := hB3.trans (hK4.below (B := w.heap.size) (by omega) (by omega))
              have hz4 := Nat.le_trans hz3 hK4.size
              clear hK4 hK4' hP4 hBw4 hfr4 hn3 hv3 hw3 hKN hP3'
              go_roundw
              case rel => exact ⟨t + 1, _, wa', 0, w0, [], true, none, 0, by omega, rfl, rfl, by go_num, hB4, hz4, hkn4⟩
              case measure => simp only [intOf]; omega
            · have hd3 : ((k : Int) == (q : Int)) = false := by simp; omega
              go_wp2
              go_roundw
              case rel => exact ⟨t + 1, _, wa, wn, wc, wl, fd, ao, c, by omega, rfl, rfl, by go_num, hB3, hz3, hKN.out.other k _ hkq hP3'.out hv3 hw3⟩
              case measure => simp only [intOf]; omega
        · have hd1 : decide ((t : Int) < (kn : Int)) = false := decide_eq_false (by omega)
          have hrq : (wr.alloc (.cells #[.int .u8 (q : Int), .int .u8 0, .int .u8 0, .int .u8 0, .int .u8 0, .int .u8 0, .int .u8 0, .int .u8 0, .int .u8 0, .int .u8 0, .int .u8 0, .int .u8 0, .int .u8 0, .int .u8 0, .int .u8 0, .int .u8 0, .int .u8 0, .int .u8 0, .int .u8 0, .int .u8 0, .int .u8 0, .int .u8 0, .int .u8 0, .int .u8 0, .int .u8 0, .int .u8 0, .int .u8 0, .int .u8 0, .int .u8 0, .int .u8 0, .int .u8 0, .int .u8 0] 44)).rangeAt wr.heap.size 0 (keyCells q) := rangeAt_key wr q
          have hKq : Keeps (w.heap.size + 1) wr (wr.alloc (.cells #[.int .u8 (q : Int), .int .u8 0, .int .u8 0, .int .u8 0, .int .u8 0, .int .u8 0, .int .u8 0, .int .u8 0, .int .u8 0, .int .u8 0, .int .u8 0, .int .u8 0, .int .u8 0, .int .u8 0, .int .u8 0, .int .u8 0, .int .u8 0, .int .u8 0, .int .u8 0, .int .u8 0, .int .u8 0, .int .u8 0, .int .u8 0, .int .u8 0, .int .u8 0, .int .u8 0, .int .u8 0, .int .u8 0, .int .u8 0, .int .u8 0, .int .u8 0, .int .u8 0] 44)) := (Keeps.refl _ wr).alloc _
          have hBq : Below w.heap.size w (wr.alloc (.cells #[.int .u8 (q : Int), .int .u8 0, .int .u8 0, .int .u8 0, .int .u8 0, .int .u8 0, .int .u8 0, .int .u8 0, .int .u8 0, .int .u8 0, .int .u8 0, .int .u8 0, .int .u8 0, .int .u8 0, .int .u8 0, .int .u8 0, .int .u8 0, .int .u8 0, .int .u8 0, .int .u8 0, .int .u8 0, .int .u8 0, .int .u8 0, .int .u8 0, .int .u8 0, .int .u8 0, .int .u8 0, .int .u8 0, .int .u8 0, .int .u8 0, .int .u8 0, .int .u8 0] 44)) := hB1.alloc (by omega) _
          have hPq := hk1.part.after hKq (fun j => World.cell?_alloc_old _ _ _ (Nat.ne_of_lt hk1.part.lt))
          have hvq := hk1.bv.keeps hKq (Or.inl (by omega))
          have hwq := hk1.bw.keeps hKq (Or.inl (by omega))
          have hval := show Hid ((V q).getD (.slice none 0 0) = .slice ao wn c) from hk1.val
          have hokq := show Hid ((V q).isSome = fd) from hk1.ok
          have hle := hk1.le
          have hzq : w.heap.size + 2 ≤ (wr.alloc (.cells #[.int .u8 (q : Int), .int .u8 0, .int .u8 0, .int .u8 0, .int .u8 0, .int .u8 0, .int .u8 0, .int .u8 0, .int .u8 0, .int .u8 0, .int .u8 0, .int .u8 0, .int .u8 0, .int .u8 0, .int .u8 0, .int .u8 0, .int .u8 0, .int .u8 0, .int .u8 0, .int .u8 0, .int .u8 0, .int .u8 0, .int .u8 0, .int .u8 0, .int .u8 0, .int .u8 0, .int .u8 0, .int .u8 0, .int .u8 0, .int .u8 0, .int .u8 0, .int .u8 0] 44)).heap.size := Nat.le_trans hz1 hKq.size
          have hrlt : wr.heap.size < (wr.alloc (.cells #[.int .u8 (q : Int), .int .u8 0, .int .u8 0, .int .u8 0, .int .u8 0, .int .u8 0, .int .u8 0, .int .u8 0, .int .u8 0, .int .u8 0, .int .u8 0, .int .u8 0, .int .u8 0, .int .u8 0, .int .u8 0, .int .u8 0, .int .u8 0, .int .u8 0, .int .u8 0, .int .u8 0, .int .u8 0, .int .u8 0, .int .u8 0, .int .u8 0, .int .u8 0, .int .u8 0, .int .u8 0, .int .u8 0, .int .u8 0, .int .u8 0, .int .u8 0, .int .u8 0] 44)).heap.size := by rw [World.size_alloc]; omega
          clear hk1 hB1 hKq
          have hu := Yba.underlying44
          go_wp2_with (refine wpList_load_mid (by rfl) 44 (.tmp 15) (by rfl) wr.heap.size 0 (by rfl) (keyCells q) _ (by exact hrq) hu rfl size44 ?_)
          rw [← keyV_cells]
          generalize wr.alloc (.cells #[.int .u8 (q : Int), .int .u8 0, .int .u8 0, .int .u8 0, .int .u8 0, .int .u8 0, .int .u8 0, .int .u8 0, .int .u8 0, .int .u8 0, .int .u8 0, .int .u8 0, .int .u8 0, .int .u8 0, .int .u8 0, .int .u8 0, .int .u8 0, .int .u8 0, .int .u8 0, .int .u8 0, .int .u8 0, .int .u8 0, .int .u8 0, .int .u8 0, .int .u8 0, .int .u8 0, .int .u8 0, .int .u8 0, .int .u8 0, .int .u8 0, .int .u8 0, .int .u8 0] 44) = wq at hrq hBq hPq hvq hwq hzq hrlt ⊢
          refine (envelope_any (w.heap.size + 1) w.heap.size q V wq hPq hq ao wn c (w.heap.size + 2) wl fd hval.out hokq.out hvq (by omega) hle).mono ?_
          rintro e w4 ⟨ga, gc, rfl, hBg, hKg, hcg, hfg⟩
          have hw4 := hwq.keeps hKg (Or.inl (by omega))
          have hB4 : Below w.heap.size w w4 := hBq.trans (hKg.below (by omega) (by omega))
          have hfd : (fd != fd) = false := by simp
          have HFG := show Hid (0 < wn → ∃ gb, ga = some ⟨gb, 0, none⟩ ∧ wq.heap.size ≤ gb ∧ ∀ j, w4.frozen? ⟨gb, j, none⟩ = false) from hfg
          have HCG := show Hid (∀ j, w4.cell? ⟨w.heap.size + 1, j, none⟩ = wq.cell? ⟨w.heap.size + 1, j, none⟩) from hcg
          clear hfg hcg hu
          by_cases hpos : 0 < wn
          · have hd5 : decide ((0 : Int) < (wn : Int)) = true := decide_eq_true (by omega)
            obtain ⟨gb, rfl, hgb, hfz⟩ := HFG.out hpos
            obtain ⟨gb', off', eg, hglt, hgc⟩ := hBg.src.cells hpos
            injection eg with eg
            injection eg with eg1 eg2 eg3
            subst eg1
            subst eg2
            have cG := hgc 0 hpos
            simp only [Nat.add_zero] at cG
            have fG := hfz 0
            generalize wl.getD 0 0 = gv at cG
            have hK5 := show Hid (∀ x, Keeps (w.heap.size + 1) wq (w4.setCell ⟨gb, 0, none⟩ x)) from fun x => hKg.setCell (Or.inr hgb) x
            have hc5 := show Hid (∀ x j, (w4.setCell ⟨gb, 0, none⟩ x).cell? ⟨w.heap.size + 1, j, none⟩ = wq.cell? ⟨w.heap.size + 1, j, none⟩) from fun x j =>
              (World.cell?_setCell_other _ _ _ _ (by intro he; injection he with h1 h2 h3; omega)).trans (HCG.out j)
            have hr5 := show Hid (∀ x, (w4.setCell ⟨gb, 0, none⟩ x).rangeAt wr.heap.size 0 (keyCells q)) from fun x j v hv =>
              (World.cell?_setCell_other _ _ _ _ (by intro he; injection he with h1 h2 h3; omega)).trans ((hKg.cell (a := ⟨wr.heap.size, 0 + j, none⟩) hrlt (by show wr.heap.size ≠ _; omega)).trans (hrq j v hv))
            clear hgc hfz HFG
            have hu := Yba.underlying44
            go_wp2_with (first
              | (go_at_call 5; refine (equal_true _ _ wa wn wn gc wc wl (by exact hBg) (by exact hw4)).mono ?_; rintro e w' ⟨rfl, rfl⟩)
              | (refine wpList_load_mid (by rfl) 44 (.tmp 15) (by rfl) wr.heap.size 0 (by rfl) (keyCells q) _ (by exact hr5.out _) hu rfl size44 ?_))
            rw [← keyV_cells]
            generalize Value.int IntKind.u8 (bits BinOp.xor IntKind.u8 (gv : Int) 255) = xv
            have hK6 := hK5.out xv
            have hP6 := hPq.after hK6 (hc5.out xv)
            have hv6 := hvq.keeps hK6 (Or.inl (by omega))
            have hw6 := hwq.keeps hK6 (Or.inl (by omega))
            have hB6 := hBq.trans (hK6.below (B := w.heap.size) (by omega) (by omega))
            have hz6 := Nat.le_trans hzq hK6.size
            clear hK5 hc5 hr5 cG fG hBg hw4 hB4 hrq
            generalize World.setCell _ ⟨gb, 0, none⟩ xv = w6 at hK6 hP6 hv6 hw6 hB6 hz6 ⊢
            refine (envelope_any (w.heap.size + 1) w.heap.size q V w6 hP6 hq ao wn c (w.heap.size + 2) wl fd hval.out hokq.out hv6 (by omega) hle).mono ?_
            rintro e w7 ⟨ga2, gc2, rfl, hBg2, hKg2, _, _⟩
            have hw7 := hw6.keeps hKg2 (Or.inl (by omega))
            have hB7 := hB6.trans (hKg2.below (B := w.heap.size) (by omega) (by omega))
            have hft : (!fd) = false := by
              cases fd with
              | true => rfl
              | false =>
                have h1 := hval.out
                have h2 := hokq.out
                cases hv : V q with
                | none =>
                  rw [hv] at h1
                  have h3 : Value.slice none 0 0 = Value.slice ao wn c := h1
                  injection h3 with _ h4 _
                  omega
                | some x => rw [hv] at h2; cases h2
            clear hval hokq
            go_wp2_with (go_at_call 5; refine (equal_true _ ga2 wa wn wn gc2 wc wl (by exact hBg2) (by exact hw7)).mono ?_; rintro e w' ⟨rfl, rfl⟩)
            go_ret
            exact ⟨rfl, hB7⟩
          · have hd5 : decide ((0 : Int) < (wn : Int)) = false := decide_eq_false (by omega)
            go_wp2_with (go_at_call 5; refine (equal_true _ ga wa wn wn gc wc wl (by exact hBg) (by exact hw4)).mono ?_; rintro e w' ⟨rfl, rfl⟩)
            go_ret
            exact ⟨rfl, hB4⟩
end Go.Proofs.Ybulkvny
