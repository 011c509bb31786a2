/- LawS0820BAddOwn: the Keyed that the law lays out ahead of the call. -/
import Derived.Test.YbulkpyoOwn
namespace Go.Proofs.Ybulkpyo.AddOwn
open Go.RowKit Go.Maps
set_option linter.unusedVariables false

/-- A block that is made and then written is new all the same. -/
theorem grown_fresh {W w1 : World} {o : Obj} (h : (W.alloc o).grownBy w1 (some W.heap.size)) : W.grownBy w1 none := by
  have hs := h.size
  simp at hs
  refine ⟨h.os, h.tape, h.output, by omega, fun j hj _ => ?_⟩
  exact (h.block j (by simp; omega) (fun e => by cases e; omega)).trans (Below.heap_alloc _ _ _ hj)

theorem grown_fresh2 {W w1 : World} {o o' : Obj} (h : ((W.alloc o).alloc o').grownBy w1 (some W.heap.size)) : W.grownBy w1 none := by
  have hs := h.size
  simp at hs
  refine ⟨h.os, h.tape, h.output, by omega, fun j hj _ => ?_⟩
  exact (h.block j (by simp; omega) (fun e => by cases e; omega)).trans ((Below.heap_alloc _ _ _ (by simp; omega)).trans (Below.heap_alloc _ _ _ hj))

section
variable {base : Nat} {w : World} {gS : Nat} {gr : Bool} {nm ks : Int} {mv mg ms : Option Nat} {n b : Nat} {Fv Fg Fs F : Fn}

theorem set_map {m : Option Nat} (h : KS base w gS gr nm ks mv mg ms n Fv Fg Fs) (hm : MP base w m n F) (o : Nat) (u : Value) : MP base (w.setCell ⟨gS, o, none⟩ u) m (n + 1) F :=
  hm.kept (Nat.le_succ _) (fun b hb => Below.heap_setCell _ _ _ _ (fun e => h.ne hm (by rw [hb, e])))
theorem set_new (h : KS base w gS gr nm ks mv mg ms n Fv Fg Fs) (hm : MapIs w b 1 F) (o : Nat) (u : Value) : MapIs (w.setCell ⟨gS, o, none⟩ u) b (n + 1) F := by
  obtain ⟨D, h1, h2⟩ := hm
  exact MapIs.kept ⟨D, h1.mono (by omega), h2⟩ (Below.heap_setCell _ _ _ _ (fun e => MapIs.no_cells ⟨D, h1, h2⟩ (by rw [e]; exact h.blk)))

theorem KS.setV (h : KS base w gS gr nm ks none mg ms n Fv Fg Fs) (hb : base ≤ b) (hm : MapIs w b 1 F) (h1 : mg ≠ some b) (h2 : ms ≠ some b) : KS base (w.setCell ⟨gS, 1, none⟩ (.map (some b))) gS gr nm ks (some b) mg ms (n + 1) F Fg Fs :=
  { blk := by have := heap_setCell_same w gS 1 _ 30 (.map (some b)) h.blk; simpa using this, hS := h.hS, hB := by simpa using h.hB, v := ⟨hb, set_new h hm _ _⟩, g := set_map h h.g _ _, s := set_map h h.s _ _, a1 := fun b' e => by cases e; exact h1, a2 := fun b' e => by cases e; exact h2, a3 := h.a3 }
theorem KS.setG (h : KS base w gS gr nm ks mv none ms n Fv Fg Fs) (hb : base ≤ b) (hm : MapIs w b 1 F) (h1 : mv ≠ some b) (h2 : ms ≠ some b) : KS base (w.setCell ⟨gS, 2, none⟩ (.map (some b))) gS gr nm ks mv (some b) ms (n + 1) Fv F Fs :=
  { blk := by have := heap_setCell_same w gS 2 _ 30 (.map (some b)) h.blk; simpa using this, hS := h.hS, hB := by simpa using h.hB, v := set_map h h.v _ _, g := ⟨hb, set_new h hm _ _⟩, s := set_map h h.s _ _, a1 := fun b' e e' => by cases e'; exact h1 e, a2 := h.a2, a3 := fun b' e => by cases e; exact h2 }
theorem KS.setS (h : KS base w gS gr nm ks mv mg none n Fv Fg Fs) (hb : base ≤ b) (hm : MapIs w b 1 F) (h1 : mv ≠ some b) (h2 : mg ≠ some b) : KS base (w.setCell ⟨gS, 3, none⟩ (.map (some b))) gS gr nm ks mv mg (some b) (n + 1) Fv Fg F :=
  { blk := by have := heap_setCell_same w gS 3 _ 30 (.map (some b)) h.blk; simpa using this, hS := h.hS, hB := by simpa using h.hB, v := set_map h h.v _ _, g := set_map h h.g _ _, s := ⟨hb, set_new h hm _ _⟩, a1 := h.a1, a2 := fun b' e e' => by cases e'; exact h1 e, a3 := fun b' e e' => by cases e'; exact h2 e }
end

abbrev old : ByteArray := ⟨#[111, 108, 100]⟩
def nilF : Fn := fun _ => none
/-- The cells of the law's argument. -/
abbrev inc (gr : Bool) (nm ks : Int) (kn : ByteArray) (km : Int) (vs : ByteArray) (vm ok om oq : Int) (pre : Bool) (pn : ByteArray) (pm : Int) : Array Value :=
  #[.bool gr, .int .u8 nm, .int .u8 ks, .string kn, .int .u8 km, .string vs, .int .u8 vm, .int .u8 ok, .int .u8 om, .int .u8 oq, .bool pre, .string pn, .int .u8 pm]

theorem cellsI {w : World} {x : Nat} {gr : Bool} {nm ks : Int} {kn : ByteArray} {km : Int} {vs : ByteArray} {vm ok om oq : Int} {pre : Bool} {pn : ByteArray} {pm : Int} (h : w.heap[x]? = some (.cells (inc gr nm ks kn km vs vm ok om oq pre pn pm) 23 (0, 0))) :
    w.cell? ⟨x, 0, none⟩ = some (.bool gr) ∧ w.cell? ⟨x, 1, none⟩ = some (.int .u8 nm) ∧ w.cell? ⟨x, 2, none⟩ = some (.int .u8 ks) ∧ w.cell? ⟨x, 3, none⟩ = some (.string kn) ∧ w.cell? ⟨x, 4, none⟩ = some (.int .u8 km) ∧ w.cell? ⟨x, 5, none⟩ = some (.string vs) ∧ w.cell? ⟨x, 6, none⟩ = some (.int .u8 vm) ∧
    w.cell? ⟨x, 7, none⟩ = some (.int .u8 ok) ∧ w.cell? ⟨x, 8, none⟩ = some (.int .u8 om) ∧ w.cell? ⟨x, 9, none⟩ = some (.int .u8 oq) ∧ w.cell? ⟨x, 10, none⟩ = some (.bool pre) ∧ w.cell? ⟨x, 11, none⟩ = some (.string pn) ∧ w.cell? ⟨x, 12, none⟩ = some (.int .u8 pm) := by
  refine ⟨?_, ?_, ?_, ?_, ?_, ?_, ?_, ?_, ?_, ?_, ?_, ?_, ?_⟩ <;> simp [World.cell?, h]

/-- Ahead of the call: what stands of the argument's box, of 'old', of the Keyed. -/
structure Pre (B : Nat) (w W : World) (ar : Array Value) (gr : Bool) (nm ks : Int) (kn pn : ByteArray) (pm : Int) (pre same : Bool) (mv mg ms : Option Nat) (n go : Nat) (Fv Fg Fs : Fn) : Prop where
  hn : n ≤ 3
  arg : W.heap[B]? = some (.cells ar 23 (0, 0))
  od : W.heap[B + 1 + 1]? = some (.cells (kc old 0) 36 (0, 0))
  st : KS B W (B + 1) gr nm ks mv mg ms n Fv Fg Fs
  bel : Below B w W
  aV : Fv kn.data.toList = if same then some (kv old 0) else none
  aG : Fg kn.data.toList = if same then some (.slice (some ⟨go, 0, none⟩) 1 1) else none
  aS : Fs kn.data.toList = if same then some (.int .u8 pm) else none
  bV : pre = true → Fv pn.data.toList = some (kv old 0)
  bG : pre = true → Fg pn.data.toList = some (.slice (some ⟨go, 0, none⟩) 1 1)
  row : same = true → W.heap[go]? = some (.cells (kc old 0) 36 (0, 0)) ∧ B + 1 + 1 < go
end Go.Proofs.Ybulkpyo.AddOwn
