/- A Keyed of LawS0820BAddOwn: its block, its three maps, and what each step does to them. -/
import Derived.Test.YbulkpyoMaps
import Derived.Below
import Derived.Deep.Draws
import Derived.BigQuiet
import Derived.Lib.OwnKind
namespace Go.Proofs.Ybulkpyo.AddOwn
open Go.RowKit Go.Maps
set_option linter.unusedVariables false

abbrev Fn := List UInt8 → Option Value

/-- A map that is nil, or lies from block base on. -/
def MP (base : Nat) (w : World) (m : Option Nat) (n : Nat) (F : Fn) : Prop :=
  match m with
  | none => F = fun _ => none
  | some b => base ≤ b ∧ MapIs w b n F

theorem MP.kept {base : Nat} {w w' : World} {m : Option Nat} {n n' : Nat} {F : Fn} (h : MP base w m n F) (hn : n ≤ n') (he : ∀ b, m = some b → w'.heap[b]? = w.heap[b]?) : MP base w' m n' F := by
  cases m with
  | none => exact h
  | some b =>
    obtain ⟨h1, D, h2, h3⟩ := h
    exact ⟨h1, MapIs.kept ⟨D, h2.mono hn, h3⟩ (he b rfl)⟩

theorem MP.lt {base : Nat} {w : World} {b n : Nat} {F : Fn} (h : MP base w (some b) n F) : b < w.heap.size := h.2.lt

/-- WHAT THE CALL HAS DONE SO FAR: nothing below base; no block of cells but gS's, and the row of the key's group. -/
structure Kept (base gS : Nat) (row : Option Nat) (w w' : World) : Prop where
  bel : Below base w w'
  cells : ∀ j c t f, j ≠ gS → some j ≠ row → w.heap[j]? = some (.cells c t f) → w'.heap[j]? = some (.cells c t f)
  size : w.heap.size ≤ w'.heap.size

theorem Kept.refl (base gS : Nat) (row : Option Nat) (w : World) : Kept base gS row w w := ⟨Below.refl _ _, fun _ _ _ _ _ _ h => h, Nat.le_refl _⟩
theorem Kept.trans {base gS : Nat} {row : Option Nat} {w w' w'' : World} (h : Kept base gS row w w') (h' : Kept base gS row w' w'') : Kept base gS row w w'' :=
  ⟨h.bel.trans h'.bel, fun j c t f hj hr hc => h'.cells j c t f hj hr (h.cells j c t f hj hr hc), Nat.le_trans h.size h'.size⟩

structure KS (base : Nat) (w : World) (gS : Nat) (gr : Bool) (nm ks : Int) (mv mg ms : Option Nat) (n : Nat) (Fv Fg Fs : Fn) : Prop where
  blk : w.heap[gS]? = some (.cells #[.bool gr, .map mv, .map mg, .map ms, .int .u8 nm, .int .u8 ks] 30 (0, 0))
  hS : base ≤ gS
  hB : base ≤ w.heap.size
  v : MP base w mv n Fv
  g : MP base w mg n Fg
  s : MP base w ms n Fs
  a1 : ∀ b, mv = some b → mg ≠ some b
  a2 : ∀ b, mv = some b → ms ≠ some b
  a3 : ∀ b, mg = some b → ms ≠ some b

section
variable {base : Nat} {w w' : World} {gS : Nat} {row : Option Nat} {gr : Bool} {nm ks : Int} {mv mg ms : Option Nat} {n : Nat} {Fv Fg Fs : Fn}

theorem KS.lt (h : KS base w gS gr nm ks mv mg ms n Fv Fg Fs) : gS < w.heap.size := lt_of_block h.blk
theorem KS.ne {m : Option Nat} {F : Fn} (h : KS base w gS gr nm ks mv mg ms n Fv Fg Fs) (hm : MP base w m n F) : m ≠ some gS := by
  rintro rfl
  exact hm.2.no_cells h.blk

theorem KS.c0 (h : KS base w gS gr nm ks mv mg ms n Fv Fg Fs) : w.cell? ⟨gS, 0, none⟩ = some (.bool gr) := by simp [World.cell?, h.blk]
theorem KS.c1 (h : KS base w gS gr nm ks mv mg ms n Fv Fg Fs) : w.cell? ⟨gS, 1, none⟩ = some (.map mv) := by simp [World.cell?, h.blk]
theorem KS.c2 (h : KS base w gS gr nm ks mv mg ms n Fv Fg Fs) : w.cell? ⟨gS, 2, none⟩ = some (.map mg) := by simp [World.cell?, h.blk]
theorem KS.c3 (h : KS base w gS gr nm ks mv mg ms n Fv Fg Fs) : w.cell? ⟨gS, 3, none⟩ = some (.map ms) := by simp [World.cell?, h.blk]
theorem KS.c4 (h : KS base w gS gr nm ks mv mg ms n Fv Fg Fs) : w.cell? ⟨gS, 4, none⟩ = some (.int .u8 nm) := by simp [World.cell?, h.blk]
theorem KS.c5 (h : KS base w gS gr nm ks mv mg ms n Fv Fg Fs) : w.cell? ⟨gS, 5, none⟩ = some (.int .u8 ks) := by simp [World.cell?, h.blk]
theorem KS.free (h : KS base w gS gr nm ks mv mg ms n Fv Fg Fs) (o : Nat) : w.frozen? ⟨gS, o, none⟩ = false := by simp [World.frozen?, h.blk]

/-- Other blocks are made. -/
theorem KS.grown (h : KS base w gS gr nm ks mv mg ms n Fv Fg Fs) (hg : w.grownBy w' none) : KS base w' gS gr nm ks mv mg ms n Fv Fg Fs :=
  have e : ∀ b, b < w.heap.size → w'.heap[b]? = w.heap[b]? := fun b hb => hg.block b hb (by simp)
  { blk := (e _ h.lt).trans h.blk, hS := h.hS, hB := Nat.le_trans h.hB hg.size, a1 := h.a1, a2 := h.a2, a3 := h.a3
    v := h.v.kept (Nat.le_refl _) (fun b hb => e b (by have := h.v; rw [hb] at this; exact this.lt))
    g := h.g.kept (Nat.le_refl _) (fun b hb => e b (by have := h.g; rw [hb] at this; exact this.lt))
    s := h.s.kept (Nat.le_refl _) (fun b hb => e b (by have := h.s; rw [hb] at this; exact this.lt)) }

theorem kept_grown (hB : base ≤ w.heap.size) (hg : w.grownBy w' none) : Kept base gS row w w' :=
  ⟨(Below.refl _ _).grown hg hB (fun k hk => by cases hk), fun j c t f hj _ hc => (hg.block j (lt_of_block hc) (by simp)).trans hc, hg.size⟩

theorem kept_map {b : Nat} {F : Fn} (hm : MapIs w b n F) (hb : base ≤ b) (hB : base ≤ w.heap.size) (hg : w.grownBy w' (some b)) : Kept base gS row w w' :=
  ⟨(Below.refl _ _).grown hg hB (fun k hk => by cases hk; exact hb), fun j c t f hj _ hc => (hg.block j (lt_of_block hc) (fun e => by cases e; exact hm.no_cells hc)).trans hc, hg.size⟩

theorem kept_cell (hS : base ≤ gS) (o : Nat) (u : Value) : Kept base gS row w (w.setCell ⟨gS, o, none⟩ u) :=
  ⟨(Below.refl _ _).setCell (p := ⟨gS, o, none⟩) hS u, fun j c t f hj _ hc => (Below.heap_setCell _ _ _ _ hj).trans hc, by simp⟩

theorem kept_row (hr : ∀ j, row = some j → base ≤ j) (hB : base ≤ w.heap.size) (hg : w.grownBy w' row) : Kept base gS row w w' :=
  ⟨(Below.refl _ _).grown hg hB hr, fun j c t f _ hj hc => (hg.block j (lt_of_block hc) hj).trans hc, hg.size⟩

/-- The row of a group is written, or a new one made. -/
theorem KS.rowed {v : Value} {l : Nat} {xs : List Value} (h : KS base w gS gr nm ks mv mg ms n Fv Fg Fs) (hown : w.ownsRow base 36 7 v l xs) (hg : w.grownBy w' v.ownBlock) : KS base w' gS gr nm ks mv mg ms n Fv Fg Fs := by
  have hk := Lib.ownsRow_kind hown
  have eS : w'.heap[gS]? = w.heap[gS]? := hg.block gS h.lt (fun e => by
    obtain ⟨c, fz, hc⟩ := hk gS e.symm
    rw [h.blk] at hc
    simp at hc)
  have eM : ∀ {m : Option Nat} {F : Fn}, MP base w m n F → MP base w' m n F := fun hm => hm.kept (Nat.le_refl _) (fun b hb => by
    subst hb
    refine hg.block b hm.lt (fun e => ?_)
    obtain ⟨c, fz, hc⟩ := hk b e.symm
    exact hm.2.no_cells hc)
  exact { blk := eS.trans h.blk, hS := h.hS, hB := Nat.le_trans h.hB hg.size, a1 := h.a1, a2 := h.a2, a3 := h.a3, v := eM h.v, g := eM h.g, s := eM h.s }

/-- A store into a map. -/
theorem KS.putS {b : Nat} {F : Fn} (h : KS base w gS gr nm ks mv mg (some b) n Fv Fg Fs) (hm : MapIs w' b (n + 1) F) (hg : w.grownBy w' (some b)) : KS base w' gS gr nm ks mv mg (some b) (n + 1) Fv Fg F :=
  have e : ∀ j, j < w.heap.size → j ≠ b → w'.heap[j]? = w.heap[j]? := fun j hj hne => hg.block j hj (fun e => hne (by cases e; rfl))
  { blk := (e _ h.lt (fun e => h.ne h.s (by rw [e]))).trans h.blk, hS := h.hS, hB := Nat.le_trans h.hB hg.size, a1 := h.a1, a2 := h.a2, a3 := h.a3
    v := h.v.kept (Nat.le_succ _) (fun b' hb' => e b' (by have := h.v; rw [hb'] at this; exact this.lt) (fun e => h.a2 b' hb' (by rw [e])))
    g := h.g.kept (Nat.le_succ _) (fun b' hb' => e b' (by have := h.g; rw [hb'] at this; exact this.lt) (fun e => h.a3 b' hb' (by rw [e])))
    s := ⟨h.s.1, hm⟩ }
theorem KS.putV {b : Nat} {F : Fn} (h : KS base w gS gr nm ks (some b) mg ms n Fv Fg Fs) (hm : MapIs w' b (n + 1) F) (hg : w.grownBy w' (some b)) : KS base w' gS gr nm ks (some b) mg ms (n + 1) F Fg Fs :=
  have e : ∀ j, j < w.heap.size → j ≠ b → w'.heap[j]? = w.heap[j]? := fun j hj hne => hg.block j hj (fun e => hne (by cases e; rfl))
  { blk := (e _ h.lt (fun e => h.ne h.v (by rw [e]))).trans h.blk, hS := h.hS, hB := Nat.le_trans h.hB hg.size, a1 := h.a1, a2 := h.a2, a3 := h.a3
    v := ⟨h.v.1, hm⟩
    g := h.g.kept (Nat.le_succ _) (fun b' hb' => e b' (by have := h.g; rw [hb'] at this; exact this.lt) (fun e => h.a1 b rfl (by rw [hb', e])))
    s := h.s.kept (Nat.le_succ _) (fun b' hb' => e b' (by have := h.s; rw [hb'] at this; exact this.lt) (fun e => h.a2 b rfl (by rw [hb', e]))) }
theorem KS.putG {b : Nat} {F : Fn} (h : KS base w gS gr nm ks mv (some b) ms n Fv Fg Fs) (hm : MapIs w' b (n + 1) F) (hg : w.grownBy w' (some b)) : KS base w' gS gr nm ks mv (some b) ms (n + 1) Fv F Fs :=
  have e : ∀ j, j < w.heap.size → j ≠ b → w'.heap[j]? = w.heap[j]? := fun j hj hne => hg.block j hj (fun e => hne (by cases e; rfl))
  { blk := (e _ h.lt (fun e => h.ne h.g (by rw [e]))).trans h.blk, hS := h.hS, hB := Nat.le_trans h.hB hg.size, a1 := h.a1, a2 := h.a2, a3 := h.a3
    v := h.v.kept (Nat.le_succ _) (fun b' hb' => e b' (by have := h.v; rw [hb'] at this; exact this.lt) (fun e => h.a1 b' hb' (by rw [e])))
    g := ⟨h.g.1, hm⟩
    s := h.s.kept (Nat.le_succ _) (fun b' hb' => e b' (by have := h.s; rw [hb'] at this; exact this.lt) (fun e => h.a3 b rfl (by rw [hb', e]))) }

theorem kept_new (hB : base ≤ w.heap.size) (hS : base ≤ gS) (o : Nat) (u : Value) (x : Obj) : Kept base gS row w ((w.alloc x).setCell ⟨gS, o, none⟩ u) :=
  (kept_grown hB (World.grownBy_alloc w x none)).trans (kept_cell hS o u)

theorem new_made (hl : gS < w.heap.size) (o : Nat) (u : Value) : MapIs ((w.alloc (.map #[] 0)).setCell ⟨gS, o, none⟩ u) w.heap.size n (fun _ => none) := by
  obtain ⟨D, h1, h2⟩ := MapIs.made w
  exact MapIs.kept ⟨D, h1.mono (Nat.zero_le _), h2⟩ (Below.heap_setCell _ _ _ _ (by show w.heap.size ≠ gS; omega))

theorem new_old {m : Option Nat} {F : Fn} (h : KS base w gS gr nm ks mv mg ms n Fv Fg Fs) (hm : MP base w m n F) (o : Nat) (u : Value) : MP base ((w.alloc (.map #[] 0)).setCell ⟨gS, o, none⟩ u) m n F := by
  refine hm.kept (Nat.le_refl _) (fun b hb => ?_)
  have hne : b ≠ gS := fun e => h.ne hm (by rw [hb, e])
  have hlt : b < w.heap.size := by rw [hb] at hm; exact hm.lt
  rw [Below.heap_setCell _ _ _ _ hne, Below.heap_alloc _ _ _ hlt]

theorem new_blk (h : KS base w gS gr nm ks mv mg ms n Fv Fg Fs) (o : Nat) (u : Value) : ((w.alloc (.map #[] 0)).setCell ⟨gS, o, none⟩ u).heap[gS]? = some (.cells ((#[.bool gr, .map mv, .map mg, .map ms, .int .u8 nm, .int .u8 ks] : Array Value).setIfInBounds o u) 30 (0, 0)) :=
  heap_setCell_same _ gS o _ 30 u ((Below.heap_alloc _ _ _ h.lt).trans h.blk)

/-- A new map. -/
theorem KS.newS (h : KS base w gS gr nm ks mv mg none n Fv Fg Fs) : KS base ((w.alloc (.map #[] 0)).setCell ⟨gS, 3, none⟩ (.map (some w.heap.size))) gS gr nm ks mv mg (some w.heap.size) n Fv Fg Fs := by
  have hs : Fs = fun _ => none := h.s
  have hv := h.v
  have hg := h.g
  refine { blk := by have := new_blk h 3 (.map (some w.heap.size)); simpa using this, hS := h.hS, hB := by simp; exact Nat.le_succ_of_le h.hB, v := new_old h h.v _ _, g := new_old h h.g _ _, s := ⟨h.hB, by rw [hs]; exact new_made h.lt _ _⟩, a1 := h.a1, a2 := ?_, a3 := ?_ }
  · rintro b rfl e; cases e; exact absurd hv.lt (Nat.lt_irrefl _)
  · rintro b rfl e; cases e; exact absurd hg.lt (Nat.lt_irrefl _)
theorem KS.newV (h : KS base w gS gr nm ks none mg ms n Fv Fg Fs) : KS base ((w.alloc (.map #[] 0)).setCell ⟨gS, 1, none⟩ (.map (some w.heap.size))) gS gr nm ks (some w.heap.size) mg ms n Fv Fg Fs := by
  have hs : Fv = fun _ => none := h.v
  have hv := h.s
  have hg := h.g
  refine { blk := by have := new_blk h 1 (.map (some w.heap.size)); simpa using this, hS := h.hS, hB := by simp; exact Nat.le_succ_of_le h.hB, v := ⟨h.hB, by rw [hs]; exact new_made h.lt _ _⟩, g := new_old h h.g _ _, s := new_old h h.s _ _, a1 := ?_, a2 := ?_, a3 := h.a3 }
  · rintro b e rfl; cases e; exact absurd hg.lt (Nat.lt_irrefl _)
  · rintro b e rfl; cases e; exact absurd hv.lt (Nat.lt_irrefl _)
theorem KS.newG (h : KS base w gS gr nm ks mv none ms n Fv Fg Fs) : KS base ((w.alloc (.map #[] 0)).setCell ⟨gS, 2, none⟩ (.map (some w.heap.size))) gS gr nm ks mv (some w.heap.size) ms n Fv Fg Fs := by
  have hs : Fg = fun _ => none := h.g
  have hv := h.s
  have hg := h.v
  refine { blk := by have := new_blk h 2 (.map (some w.heap.size)); simpa using this, hS := h.hS, hB := by simp; exact Nat.le_succ_of_le h.hB, g := ⟨h.hB, by rw [hs]; exact new_made h.lt _ _⟩, v := new_old h h.v _ _, s := new_old h h.s _ _, a1 := ?_, a2 := h.a2, a3 := ?_ }
  · rintro b rfl e; cases e; exact absurd hg.lt (Nat.lt_irrefl _)
  · rintro b e rfl; cases e; exact absurd hv.lt (Nat.lt_irrefl _)

/-- names and keys are set. -/
theorem KS.names (h : KS base w gS gr nm ks mv mg ms n Fv Fg Fs) (q : Int) : KS base (w.setCell ⟨gS, 4, none⟩ (.int .u8 q)) gS gr q ks mv mg ms n Fv Fg Fs := by
  have e : ∀ {m : Option Nat} {F : Fn}, MP base w m n F → MP base (w.setCell ⟨gS, 4, none⟩ (.int .u8 q)) m n F := fun hm => hm.kept (Nat.le_refl _) (fun b hb => Below.heap_setCell _ _ _ _ (fun e => h.ne hm (by rw [hb, e])))
  exact { blk := by have := heap_setCell_same w gS 4 _ 30 (.int .u8 q) h.blk; simpa using this, hS := h.hS, hB := by simpa using h.hB, v := e h.v, g := e h.g, s := e h.s, a1 := h.a1, a2 := h.a2, a3 := h.a3 }
theorem KS.keys (h : KS base w gS gr nm ks mv mg ms n Fv Fg Fs) (q : Int) : KS base (w.setCell ⟨gS, 5, none⟩ (.int .u8 q)) gS gr nm q mv mg ms n Fv Fg Fs := by
  have e : ∀ {m : Option Nat} {F : Fn}, MP base w m n F → MP base (w.setCell ⟨gS, 5, none⟩ (.int .u8 q)) m n F := fun hm => hm.kept (Nat.le_refl _) (fun b hb => Below.heap_setCell _ _ _ _ (fun e => h.ne hm (by rw [hb, e])))
  exact { blk := by have := heap_setCell_same w gS 5 _ 30 (.int .u8 q) h.blk; simpa using this, hS := h.hS, hB := by simpa using h.hB, v := e h.v, g := e h.g, s := e h.s, a1 := h.a1, a2 := h.a2, a3 := h.a3 }
theorem KS.drewN (h : KS base w gS gr nm ks mv mg ms n Fv Fg Fs) (q : Nat) : KS base (w.drewN q) gS gr nm ks mv mg ms n Fv Fg Fs :=
  { blk := h.blk, hS := h.hS, hB := h.hB, a1 := h.a1, a2 := h.a2, a3 := h.a3, v := h.v.kept (Nat.le_refl _) (fun _ _ => rfl), g := h.g.kept (Nat.le_refl _) (fun _ _ => rfl), s := h.s.kept (Nat.le_refl _) (fun _ _ => rfl) }
theorem Kept.drewN (h : Kept base gS row w w') (q : Nat) : Kept base gS row w (w'.drewN q) := ⟨⟨h.bel.os, h.bel.tape, h.bel.output, h.bel.size, h.bel.block⟩, h.cells, h.size⟩
end
end Go.Proofs.Ybulkpyo.AddOwn
