/- LawS0820CState: the tables that the law lays out, store by store. -/
import Derived.Test.YbulkpyoState
namespace Go.Proofs.Ybulkpyo
open Go.RowKit
set_option linter.unusedVariables false

/-- Block g is a row of N cells of element type e, none of them frozen. -/
def Blk (w : World) (g : Nat) (e : TypeId) (N : Nat) : Prop := ∃ cur : Array Value, w.heap[g]? = some (.cells cur e (0, 0)) ∧ cur.size = N

theorem Blk.cell {w : World} {g : Nat} {e : TypeId} {N o : Nat} (h : Blk w g e N) (ho : o < N) : ∃ u, w.cell? ⟨g, o, none⟩ = some u := by
  obtain ⟨cur, hb, hs⟩ := h
  exact ⟨cur[o]'(by omega), by simp [World.cell?, hb, show o < cur.size by omega]⟩
theorem Blk.free {w : World} {g : Nat} {e : TypeId} {N : Nat} (h : Blk w g e N) (o : Nat) : w.frozen? ⟨g, o, none⟩ = false := by
  obtain ⟨cur, hb, hs⟩ := h
  simp [World.frozen?, hb]
theorem Blk.set {w : World} {g : Nat} {e : TypeId} {N : Nat} (h : Blk w g e N) (g' o : Nat) (u : Value) : Blk (w.setCell ⟨g', o, none⟩ u) g e N := by
  obtain ⟨cur, hb, hs⟩ := h
  by_cases e1 : g = g'
  · subst e1
    exact ⟨_, heap_setCell_same w g o cur e u hb, by simpa using hs⟩
  · exact ⟨cur, by rw [Below.heap_setCell _ _ _ _ e1]; exact hb, hs⟩
theorem Blk.kept {w w' : World} {g : Nat} {e : TypeId} {N : Nat} (h : Blk w g e N) (he : w'.heap[g]? = w.heap[g]?) : Blk w' g e N := by
  obtain ⟨cur, hb, hs⟩ := h
  exact ⟨cur, he.trans hb, hs⟩

theorem cell_put {w : World} {g o : Nat} {e : TypeId} {N : Nat} (h : Blk w g e N) (ho : o < N) (u : Value) : (w.setCell ⟨g, o, none⟩ u).cell? ⟨g, o, none⟩ = some u := by
  obtain ⟨cur, hb, hs⟩ := h
  have := heap_setCell_same w g o cur e u hb
  simp [World.cell?, this, show o < cur.size by omega]
theorem cell_off {w : World} {g o g' o' : Nat} {u v : Value} (hne : g' ≠ g ∨ o' ≠ o) (h : w.cell? ⟨g', o', none⟩ = some v) : (w.setCell ⟨g, o, none⟩ u).cell? ⟨g', o', none⟩ = some v := by
  by_cases e1 : g' = g
  · subst e1
    have ho : o' ≠ o := by rcases hne with h | h; exact absurd rfl h; exact h
    rw [World.cell?_setCell_other w ⟨g', o, none⟩ ⟨g', o', none⟩ u (fun e => ho (by cases e; rfl))]
    exact h
  · exact (World.cell?_of_block (Below.heap_setCell _ _ _ _ e1)).trans h

/-- The blocks that the law makes, in the order in which it makes them. -/
structure Bl where
  gK : Nat
  gO : Nat
  gE : Nat
  gL : Nat
  gI : Nat
  gP : Nat
  gT : Nat
  gA : Nat
  gB : Nat
structure Bl.Up (b : Bl) (s : Nat) : Prop where
  a0 : s ≤ b.gK
  a1 : b.gK < b.gO
  a2 : b.gO < b.gE
  a3 : b.gE < b.gL
  a4 : b.gL < b.gI
  a5 : b.gI < b.gP
  a6 : b.gP < b.gT
  a7 : b.gT < b.gA
  a8 : b.gA < b.gB

/-- WHAT STANDS IN THEM: c1 kinds, c2 outs, c3 codes, c4 jumps, c5 arguments, c6 marks, c7 leasts. -/
structure Setup (w wr : World) (b : Bl) (I : Ins) (c1 c2 c3 c4 c5 c6 c7 : Nat) : Prop where
  up : b.Up w.heap.size
  bK : Blk wr b.gK 3 (I.n + 1)
  bO : Blk wr b.gO 3 (I.n + 1)
  bE : Blk wr b.gE 4 (I.n + 1)
  bL : Blk wr b.gL 3 (I.n + 1)
  bI : Blk wr b.gI 61 ((I.n + 1) * 4)
  pP : wr.cell? ⟨b.gP, 0, none⟩ = some (.slice (some ⟨b.gI, 0, none⟩) (I.n + 1) (I.n + 1))
  tT : ∀ i, i < 7 → wr.cell? ⟨b.gT, i, none⟩ = some (.int .u8 (opc i))
  tA : ∀ i, i < 5 → wr.cell? ⟨b.gA, i, none⟩ = some (.int .u8 (argc i))
  tB : ∀ i, i < 5 → wr.cell? ⟨b.gB, i, none⟩ = some (.bool (endc i))
  kd : ∀ i, i < c1 → wr.cell? ⟨b.gK, i, none⟩ = some (.int .i64 (I.K i))
  ot : ∀ i, i < c2 → wr.cell? ⟨b.gO, i, none⟩ = some (.int .i64 (I.O i))
  op : ∀ i, i < c3 → wr.cell? ⟨b.gI, i * 4, none⟩ = some (.int .u8 (opc (I.K i)))
  out : ∀ i, i < c4 → wr.cell? ⟨b.gI, i * 4 + 1, none⟩ = some (.int .u32 (I.O i))
  arg : ∀ i, i < c5 → I.K i = 1 → wr.cell? ⟨b.gI, i * 4 + 2, none⟩ = some (.int .u32 (argc (I.a i)))
  en : ∀ i, i < c6 → I.K i = 1 → wr.cell? ⟨b.gE, i, none⟩ = some (.bool (endc (I.a i)))
  lst : ∀ i, i < c7 → wr.cell? ⟨b.gL, i, none⟩ = some (.int .i64 (I.L i))
  bel : Below w.heap.size w wr

theorem Setup.drewN {w wr : World} {b : Bl} {I : Ins} {c1 c2 c3 c4 c5 c6 c7 : Nat} (h : Setup w wr b I c1 c2 c3 c4 c5 c6 c7) (q : Nat) : Setup w (wr.drewN q) b I c1 c2 c3 c4 c5 c6 c7 :=
  { h with bel := ⟨h.bel.os, h.bel.tape, h.bel.output, h.bel.size, h.bel.block⟩ }
theorem Setup.kinds {w wr : World} {b : Bl} {I : Ins} {c1 c2 c3 c4 c5 c6 c7 : Nat} (h : Setup w wr b I c1 c2 c3 c4 c5 c6 c7) (hc : c1 ≤ I.n) :
    Setup w (wr.setCell ⟨b.gK, c1, none⟩ (.int .i64 (I.K c1))) b I (c1 + 1) c2 c3 c4 c5 c6 c7 := by
  obtain ⟨a0, a1, a2, a3, a4, a5, a6, a7, a8⟩ := h.up
  refine { up := h.up, bK := h.bK.set _ _ _, bO := h.bO.set _ _ _, bE := h.bE.set _ _ _, bL := h.bL.set _ _ _, bI := h.bI.set _ _ _, bel := h.bel.setCell (by show w.heap.size ≤ b.gK; omega) _, pP := cell_off (by omega) h.pP, tT := fun i hi => cell_off (by omega) (h.tT i hi), tA := fun i hi => cell_off (by omega) (h.tA i hi), tB := fun i hi => cell_off (by omega) (h.tB i hi), kd := fun i hi => ?_, ot := fun i hi => cell_off (by omega) (h.ot i hi), op := fun i hi => cell_off (by omega) (h.op i hi), out := fun i hi => cell_off (by omega) (h.out i hi), arg := fun i hi hk => cell_off (by omega) (h.arg i hi hk), en := fun i hi hk => cell_off (by omega) (h.en i hi hk), lst := fun i hi => cell_off (by omega) (h.lst i hi) }
  by_cases e : i = c1
  · rw [e]; exact cell_put h.bK (by omega) _
  · exact cell_off (by omega) (h.kd i (by omega))

theorem Setup.outs {w wr : World} {b : Bl} {I : Ins} {c1 c2 c3 c4 c5 c6 c7 : Nat} (h : Setup w wr b I c1 c2 c3 c4 c5 c6 c7) (hc : c2 ≤ I.n) :
    Setup w (wr.setCell ⟨b.gO, c2, none⟩ (.int .i64 (I.O c2))) b I c1 (c2 + 1) c3 c4 c5 c6 c7 := by
  obtain ⟨a0, a1, a2, a3, a4, a5, a6, a7, a8⟩ := h.up
  refine { up := h.up, bK := h.bK.set _ _ _, bO := h.bO.set _ _ _, bE := h.bE.set _ _ _, bL := h.bL.set _ _ _, bI := h.bI.set _ _ _, bel := h.bel.setCell (by show w.heap.size ≤ b.gO; omega) _, pP := cell_off (by omega) h.pP, tT := fun i hi => cell_off (by omega) (h.tT i hi), tA := fun i hi => cell_off (by omega) (h.tA i hi), tB := fun i hi => cell_off (by omega) (h.tB i hi), kd := fun i hi => cell_off (by omega) (h.kd i hi), ot := fun i hi => ?_, op := fun i hi => cell_off (by omega) (h.op i hi), out := fun i hi => cell_off (by omega) (h.out i hi), arg := fun i hi hk => cell_off (by omega) (h.arg i hi hk), en := fun i hi hk => cell_off (by omega) (h.en i hi hk), lst := fun i hi => cell_off (by omega) (h.lst i hi) }
  by_cases e : i = c2
  · rw [e]; exact cell_put h.bO (by omega) _
  · exact cell_off (by omega) (h.ot i (by omega))

theorem Setup.ops {w wr : World} {b : Bl} {I : Ins} {c1 c2 c3 c4 c5 c6 c7 : Nat} (h : Setup w wr b I c1 c2 c3 c4 c5 c6 c7) (hc : c3 ≤ I.n) :
    Setup w (wr.setCell ⟨b.gI, c3 * 4, none⟩ (.int .u8 (opc (I.K c3)))) b I c1 c2 (c3 + 1) c4 c5 c6 c7 := by
  obtain ⟨a0, a1, a2, a3, a4, a5, a6, a7, a8⟩ := h.up
  refine { up := h.up, bK := h.bK.set _ _ _, bO := h.bO.set _ _ _, bE := h.bE.set _ _ _, bL := h.bL.set _ _ _, bI := h.bI.set _ _ _, bel := h.bel.setCell (by show w.heap.size ≤ b.gI; omega) _, pP := cell_off (by omega) h.pP, tT := fun i hi => cell_off (by omega) (h.tT i hi), tA := fun i hi => cell_off (by omega) (h.tA i hi), tB := fun i hi => cell_off (by omega) (h.tB i hi), kd := fun i hi => cell_off (by omega) (h.kd i hi), ot := fun i hi => cell_off (by omega) (h.ot i hi), op := fun i hi => ?_, out := fun i hi => cell_off (by omega) (h.out i hi), arg := fun i hi hk => cell_off (by omega) (h.arg i hi hk), en := fun i hi hk => cell_off (by omega) (h.en i hi hk), lst := fun i hi => cell_off (by omega) (h.lst i hi) }
  by_cases e : i = c3
  · rw [e]; exact cell_put h.bI (by omega) _
  · exact cell_off (by omega) (h.op i (by omega))

theorem Setup.jump {w wr : World} {b : Bl} {I : Ins} {c1 c2 c3 c4 c5 c6 c7 : Nat} (h : Setup w wr b I c1 c2 c3 c4 c5 c6 c7) (hc : c4 ≤ I.n) :
    Setup w (wr.setCell ⟨b.gI, c4 * 4 + 1, none⟩ (.int .u32 (I.O c4))) b I c1 c2 c3 (c4 + 1) c5 c6 c7 := by
  obtain ⟨a0, a1, a2, a3, a4, a5, a6, a7, a8⟩ := h.up
  refine { up := h.up, bK := h.bK.set _ _ _, bO := h.bO.set _ _ _, bE := h.bE.set _ _ _, bL := h.bL.set _ _ _, bI := h.bI.set _ _ _, bel := h.bel.setCell (by show w.heap.size ≤ b.gI; omega) _, pP := cell_off (by omega) h.pP, tT := fun i hi => cell_off (by omega) (h.tT i hi), tA := fun i hi => cell_off (by omega) (h.tA i hi), tB := fun i hi => cell_off (by omega) (h.tB i hi), kd := fun i hi => cell_off (by omega) (h.kd i hi), ot := fun i hi => cell_off (by omega) (h.ot i hi), op := fun i hi => cell_off (by omega) (h.op i hi), out := fun i hi => ?_, arg := fun i hi hk => cell_off (by omega) (h.arg i hi hk), en := fun i hi hk => cell_off (by omega) (h.en i hi hk), lst := fun i hi => cell_off (by omega) (h.lst i hi) }
  by_cases e : i = c4
  · rw [e]; exact cell_put h.bI (by omega) _
  · exact cell_off (by omega) (h.out i (by omega))

theorem Setup.args {w wr : World} {b : Bl} {I : Ins} {c1 c2 c3 c4 c5 c6 c7 : Nat} (h : Setup w wr b I c1 c2 c3 c4 c5 c6 c7) (hc : c5 ≤ I.n) :
    Setup w (wr.setCell ⟨b.gI, c5 * 4 + 2, none⟩ (.int .u32 (argc (I.a c5)))) b I c1 c2 c3 c4 (c5 + 1) c6 c7 := by
  obtain ⟨a0, a1, a2, a3, a4, a5, a6, a7, a8⟩ := h.up
  refine { up := h.up, bK := h.bK.set _ _ _, bO := h.bO.set _ _ _, bE := h.bE.set _ _ _, bL := h.bL.set _ _ _, bI := h.bI.set _ _ _, bel := h.bel.setCell (by show w.heap.size ≤ b.gI; omega) _, pP := cell_off (by omega) h.pP, tT := fun i hi => cell_off (by omega) (h.tT i hi), tA := fun i hi => cell_off (by omega) (h.tA i hi), tB := fun i hi => cell_off (by omega) (h.tB i hi), kd := fun i hi => cell_off (by omega) (h.kd i hi), ot := fun i hi => cell_off (by omega) (h.ot i hi), op := fun i hi => cell_off (by omega) (h.op i hi), out := fun i hi => cell_off (by omega) (h.out i hi), arg := fun i hi hk => ?_, en := fun i hi hk => cell_off (by omega) (h.en i hi hk), lst := fun i hi => cell_off (by omega) (h.lst i hi) }
  by_cases e : i = c5
  · rw [e]; exact cell_put h.bI (by omega) _
  · exact cell_off (by omega) (h.arg i (by omega) hk)

theorem Setup.marks {w wr : World} {b : Bl} {I : Ins} {c1 c2 c3 c4 c5 c6 c7 : Nat} (h : Setup w wr b I c1 c2 c3 c4 c5 c6 c7) (hc : c6 ≤ I.n) :
    Setup w (wr.setCell ⟨b.gE, c6, none⟩ (.bool (endc (I.a c6)))) b I c1 c2 c3 c4 c5 (c6 + 1) c7 := by
  obtain ⟨a0, a1, a2, a3, a4, a5, a6, a7, a8⟩ := h.up
  refine { up := h.up, bK := h.bK.set _ _ _, bO := h.bO.set _ _ _, bE := h.bE.set _ _ _, bL := h.bL.set _ _ _, bI := h.bI.set _ _ _, bel := h.bel.setCell (by show w.heap.size ≤ b.gE; omega) _, pP := cell_off (by omega) h.pP, tT := fun i hi => cell_off (by omega) (h.tT i hi), tA := fun i hi => cell_off (by omega) (h.tA i hi), tB := fun i hi => cell_off (by omega) (h.tB i hi), kd := fun i hi => cell_off (by omega) (h.kd i hi), ot := fun i hi => cell_off (by omega) (h.ot i hi), op := fun i hi => cell_off (by omega) (h.op i hi), out := fun i hi => cell_off (by omega) (h.out i hi), arg := fun i hi hk => cell_off (by omega) (h.arg i hi hk), en := fun i hi hk => ?_, lst := fun i hi => cell_off (by omega) (h.lst i hi) }
  by_cases e : i = c6
  · rw [e]; exact cell_put h.bE (by omega) _
  · exact cell_off (by omega) (h.en i (by omega) hk)

theorem Setup.leasts {w wr : World} {b : Bl} {I : Ins} {c1 c2 c3 c4 c5 c6 c7 : Nat} (h : Setup w wr b I c1 c2 c3 c4 c5 c6 c7) (hc : c7 ≤ I.n) :
    Setup w (wr.setCell ⟨b.gL, c7, none⟩ (.int .i64 (I.L c7))) b I c1 c2 c3 c4 c5 c6 (c7 + 1) := by
  obtain ⟨a0, a1, a2, a3, a4, a5, a6, a7, a8⟩ := h.up
  refine { up := h.up, bK := h.bK.set _ _ _, bO := h.bO.set _ _ _, bE := h.bE.set _ _ _, bL := h.bL.set _ _ _, bI := h.bI.set _ _ _, bel := h.bel.setCell (by show w.heap.size ≤ b.gL; omega) _, pP := cell_off (by omega) h.pP, tT := fun i hi => cell_off (by omega) (h.tT i hi), tA := fun i hi => cell_off (by omega) (h.tA i hi), tB := fun i hi => cell_off (by omega) (h.tB i hi), kd := fun i hi => cell_off (by omega) (h.kd i hi), ot := fun i hi => cell_off (by omega) (h.ot i hi), op := fun i hi => cell_off (by omega) (h.op i hi), out := fun i hi => cell_off (by omega) (h.out i hi), arg := fun i hi hk => cell_off (by omega) (h.arg i hi hk), en := fun i hi hk => cell_off (by omega) (h.en i hi hk), lst := fun i hi => ?_ }
  by_cases e : i = c7
  · rw [e]; exact cell_put h.bL (by omega) _
  · exact cell_off (by omega) (h.lst i (by omega))

/-- An instruction whose kind is no assertion: nothing is asked of its argument and its mark. -/
theorem Setup.noArg {w wr : World} {b : Bl} {I : Ins} {c1 c2 c3 c4 c5 c6 c7 : Nat} (h : Setup w wr b I c1 c2 c3 c4 c5 c6 c7) (hk : I.K c5 ≠ 1) : Setup w wr b I c1 c2 c3 c4 (c5 + 1) c6 c7 :=
  have ha : ∀ i, i < c5 + 1 → I.K i = 1 → wr.cell? ⟨b.gI, i * 4 + 2, none⟩ = some (.int .u32 (argc (I.a i))) := by
    intro i hi hki
    by_cases e : i = c5
    · subst e; exact absurd hki hk
    · exact h.arg i (by omega) hki
  { h with arg := ha }
theorem Setup.noMark {w wr : World} {b : Bl} {I : Ins} {c1 c2 c3 c4 c5 c6 c7 : Nat} (h : Setup w wr b I c1 c2 c3 c4 c5 c6 c7) (hk : I.K c6 ≠ 1) : Setup w wr b I c1 c2 c3 c4 c5 (c6 + 1) c7 :=
  have ha : ∀ i, i < c6 + 1 → I.K i = 1 → wr.cell? ⟨b.gE, i, none⟩ = some (.bool (endc (I.a i))) := by
    intro i hi hki
    by_cases e : i = c6
    · subst e; exact absurd hki hk
    · exact h.en i (by omega) hki
  { h with en := ha }
/-- A store of an argument that nobody reads. -/
theorem Setup.idle {w wr : World} {b : Bl} {I : Ins} {c1 c2 c3 c4 c5 c6 c7 : Nat} (h : Setup w wr b I c1 c2 c3 c4 c5 c6 c7) (hk : I.K c5 ≠ 1) (u : Value) : Setup w (wr.setCell ⟨b.gI, c5 * 4 + 2, none⟩ u) b I c1 c2 c3 c4 (c5 + 1) c6 c7 := by
  obtain ⟨a0, a1, a2, a3, a4, a5, a6, a7, a8⟩ := h.up
  refine { up := h.up, bK := h.bK.set _ _ _, bO := h.bO.set _ _ _, bE := h.bE.set _ _ _, bL := h.bL.set _ _ _, bI := h.bI.set _ _ _, bel := h.bel.setCell (by show w.heap.size ≤ b.gI; omega) _, pP := cell_off (by omega) h.pP, tT := fun i hi => cell_off (by omega) (h.tT i hi), tA := fun i hi => cell_off (by omega) (h.tA i hi), tB := fun i hi => cell_off (by omega) (h.tB i hi), kd := fun i hi => cell_off (by omega) (h.kd i hi), ot := fun i hi => cell_off (by omega) (h.ot i hi), op := fun i hi => cell_off (by omega) (h.op i hi), out := fun i hi => cell_off (by omega) (h.out i hi), arg := fun i hi hki => ?_, en := fun i hi hki => cell_off (by omega) (h.en i hi hki), lst := fun i hi => cell_off (by omega) (h.lst i hi) }
  by_cases e : i = c5
  · subst e; exact absurd hki hk
  · exact cell_off (by omega) (h.arg i (by omega) hki)

theorem Setup.later {w wr w' : World} {b : Bl} {I : Ins} {c1 c2 c3 c4 c5 c6 c7 : Nat} (h : Setup w wr b I c1 c2 c3 c4 c5 c6 c7) (hb : Below wr.heap.size wr w') : Setup w w' b I c1 c2 c3 c4 c5 c6 c7 := by
  have blk : ∀ {g : Nat} {e : TypeId} {N : Nat}, Blk wr g e N → Blk w' g e N := fun hB => hB.kept (hb.block _ (by obtain ⟨cur, hh, _⟩ := hB; exact lt_of_block hh))
  exact { up := h.up, bK := blk h.bK, bO := blk h.bO, bE := blk h.bE, bL := blk h.bL, bI := blk h.bI, bel := h.bel.trans (hb.mono h.bel.size), pP := below_cells hb _ _ h.pP, tT := fun i hi => below_cells hb _ _ (h.tT i hi), tA := fun i hi => below_cells hb _ _ (h.tA i hi), tB := fun i hi => below_cells hb _ _ (h.tB i hi), kd := fun i hi => below_cells hb _ _ (h.kd i hi), ot := fun i hi => below_cells hb _ _ (h.ot i hi), op := fun i hi => below_cells hb _ _ (h.op i hi), out := fun i hi => below_cells hb _ _ (h.out i hi), arg := fun i hi hk => below_cells hb _ _ (h.arg i hi hk), en := fun i hi hk => below_cells hb _ _ (h.en i hi hk), lst := fun i hi => below_cells hb _ _ (h.lst i hi) }

theorem Setup.tab {w wr : World} {b : Bl} {I : Ins} {c3 c4 c5 c7 : Nat} (h : Setup w wr b I (I.n + 1) (I.n + 1) c3 c4 c5 I.n c7) (hKn : I.K I.n = 0) : Tab wr b.gK b.gO b.gE I :=
  have lt : ∀ i, i ≤ I.n → I.K i = 1 → i < I.n := by
    intro i hi hk
    rcases Nat.lt_or_ge i I.n with h' | h'
    · exact h'
    · obtain rfl : i = I.n := by omega
      omega
  ⟨fun i hi => h.kd i (by omega), fun i hi => h.ot i (by omega), fun i hi hk => h.en i (lt i hi hk) hk⟩

theorem Setup.mem {w wr : World} {b : Bl} {I : Ins} {c1 c2 c6 R Pt : Nat} (h : Setup w wr b I c1 c2 (I.n + 1) I.n I.n c6 (I.n + 1)) (hKn : I.K I.n = 0)
    (rp : wr.cell? ⟨R, 0, none⟩ = some (.pointer (some ⟨Pt, 0, none⟩))) (pp : wr.cell? ⟨Pt, 0, none⟩ = some (.pointer (some ⟨b.gP, 0, none⟩))) (pl : wr.cell? ⟨Pt, 3, none⟩ = some (.slice (some ⟨b.gL, 0, none⟩) (I.n + 1) (I.n + 1))) :
    Mem wr R Pt b.gP b.gI b.gL I := by
  refine ⟨rp, pp, pl, h.pP, fun i hi => h.op i (by omega), fun i hi => h.out i hi, fun i hi hk => h.arg i ?_ hk, fun i hi => h.lst i (by omega)⟩
  rcases Nat.lt_or_ge i I.n with h' | h'
  · exact h'
  · obtain rfl : i = I.n := by omega
    omega
end Go.Proofs.Ybulkpyo
