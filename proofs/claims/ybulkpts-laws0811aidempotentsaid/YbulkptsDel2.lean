/- slices.DeleteFunc. -/
import Derived.Test.YbulkptsDel
import Derived.Lib.SliceRun
namespace Go.Proofs.Ybulkpts
open Go.RowKit
set_option linter.unusedVariables false

def keepB (e : Lock) : Bool := e.2 != 1
def dfl : Lock := (⟨#[]⟩, 0)
/-- The locks as a function of their place. -/
def fnOf (ls : List Lock) (t : Nat) : Lock := ls.getD t dfl

theorem Row2.put {w : World} {g cap n : Nat} {D : Nat → Lock} (h : Row2 w g cap n D) {i : Nat} (hi : i < n) (k : ByteArray) (m : Int) :
    Row2 ((w.setCell ⟨g, i * 2, none⟩ (.string k)).setCell ⟨g, i * 2 + 1, none⟩ (.int .u8 m)) g cap n (fun t => if t = i then (k, m) else D t) := by
  obtain ⟨cur, hb, hs, hc, hD⟩ := h
  have h1 := heap_setCell_same w g (i * 2) cur 37 (.string k) hb
  have h2 := heap_setCell_same _ g (i * 2 + 1) _ 37 (.int .u8 m) h1
  refine ⟨_, h2, by simpa using hs, hc, fun t ht => ?_⟩
  obtain ⟨e0, e1⟩ := hD t ht
  simp only [Array.getElem?_setIfInBounds]
  by_cases e : t = i
  · subst e
    have : t * 2 + 1 < cur.size := by omega
    have : t * 2 < cur.size := by omega
    simp [*]; omega
  · have a1 : i * 2 + 1 ≠ t * 2 := by omega
    have a2 : i * 2 ≠ t * 2 := by omega
    have a3 : i * 2 + 1 ≠ t * 2 + 1 := by omega
    have a4 : i * 2 ≠ t * 2 + 1 := by omega
    simp only [if_neg a1, if_neg a2, if_neg a3, if_neg a4, if_neg e]
    exact ⟨e0, e1⟩

theorem grown_put (w : World) (g o o' : Nat) (u u' : Value) : w.grownBy ((w.setCell ⟨g, o, none⟩ u).setCell ⟨g, o', none⟩ u') (some g) :=
  ⟨rfl, rfl, rfl, by simp, fun k _ hk => by
    rw [Below.heap_setCell _ _ _ _ (fun e => hk (by simp [e])), Below.heap_setCell _ _ _ _ (fun e => hk (by simp [e]))]⟩

theorem Row2.alloc {w : World} {g cap n : Nat} {D : Nat → Lock} (h : Row2 w g cap n D) (o : Obj) : Row2 (w.alloc o) g cap n D :=
  h.kept (Below.heap_alloc _ _ _ h.lt)

theorem Row2.congr {w : World} {g cap n : Nat} {D D' : Nat → Lock} (h : Row2 w g cap n D) (he : ∀ t, t < n → D t = D' t) : Row2 w g cap n D' := by
  obtain ⟨cur, hb, hs, hc, hD⟩ := h
  exact ⟨cur, hb, hs, hc, fun t ht => by rw [← he t ht]; exact hD t ht⟩

theorem Row2.fewer {w : World} {g cap n n' : Nat} {D : Nat → Lock} (h : Row2 w g cap n D) (hn : n' ≤ n) : Row2 w g cap n' D := by
  obtain ⟨cur, hb, hs, hc, hD⟩ := h
  exact ⟨cur, hb, hs, by omega, fun t ht => hD t (by omega)⟩

theorem Row2.setCells : ∀ (vs : List Value) (o : Nat) {w : World} {g cap n : Nat} {D : Nat → Lock}, Row2 w g cap n D → n * 2 ≤ o → Row2 (w.setCells g o vs) g cap n D
  | [], _, _, _, _, _, _, h, _ => h
  | v :: r, o, w, g, cap, n, D, h, ho => by
    refine Row2.setCells r (o + 1) ?_ (by omega)
    obtain ⟨cur, hb, hs, hc, hD⟩ := h
    refine ⟨_, heap_setCell_same w g o cur 37 v hb, by simpa using hs, hc, fun t ht => ?_⟩
    obtain ⟨e0, e1⟩ := hD t ht
    simp only [Array.getElem?_setIfInBounds]
    rw [if_neg (by omega), if_neg (by omega)]
    exact ⟨e0, e1⟩

theorem grown_setCells : ∀ (vs : List Value) (o : Nat) (w : World) (g : Nat), w.grownBy (w.setCells g o vs) (some g)
  | [], _, w, g => ⟨rfl, rfl, rfl, Nat.le_refl _, fun _ _ _ => rfl⟩
  | v :: r, o, w, g => by
    have h1 : w.grownBy (w.setCell ⟨g, o, none⟩ v) (some g) := ⟨rfl, rfl, rfl, by simp, fun k _ hk => Below.heap_setCell _ _ _ _ (fun e => hk (by simp [e]))⟩
    exact h1.trans (grown_setCells r (o + 1) _ g)

/-- 'clear(s)' on a slice of locks: its cells are written; no other. -/
theorem run_clear_locks (w : World) (ty : TypeId) (g o n c : Nat) (hn : 0 < n) (hc : ∀ j, j < n * 2 → (w.cell? ⟨g, o + j, none⟩).isSome = true) (hf : ∀ j, w.frozen? ⟨g, j, none⟩ = false) :
    ∃ vs, (Builtin.clear_ #[32] ty #[.slice (some ⟨g, o, none⟩) n c]).run Yba.prog w = .ok (.tuple #[]) (w.setCells g o vs) := by
  have hv : ∀ w, (zeroValue 37).run Yba.prog w = .ok (.agg #[.string ⟨#[]⟩, .int .u8 0]) w := fun w => by kernel_rfl
  refine ⟨(Builtin.zeroCells (Value.cells (.agg #[.string ⟨#[]⟩, .int .u8 0])) n).toList, ?_⟩
  have hsz : (Builtin.zeroCells (Value.cells (.agg #[.string ⟨#[]⟩, .int .u8 0])) n).toList.length = n * 2 := by
    simp [Builtin.zeroCells, Value.cells]
  have h1 : ∀ v ∈ (Builtin.zeroCells (Value.cells (.agg #[.string ⟨#[]⟩, .int .u8 0])) n).toList, v.oneCell' = true := by
    intro v hv
    simp [Builtin.zeroCells, Value.cells] at hv
    obtain ⟨a, ha, rfl⟩ := hv
    rcases (show a % 2 = 0 ∨ a % 2 = 1 by omega) with e | e
    · simp [e]; rfl
    · simp [e]; rfl
  have hst := run_storeCells_cells (P := Yba.prog) g o _ 0 w (by rw [hsz]; simpa using hc) (fun j _ => by simpa using hf _) h1
  simp only [Nat.add_zero] at hst
  obtain ⟨m, rfl⟩ : ∃ m, n = m + 1 := ⟨n - 1, by omega⟩
  simp [Builtin.clear_, run_underlying Yba.underlying32, hv, hst]
end Go.Proofs.Ybulkpts
