/- LawS0820CState: the walk. -/
import Derived.Test.YbulkpyoSetup
namespace Go.Proofs.Ybulkpyo
open Go.RowKit
set_option linter.unusedVariables false

theorem info3 : (Yba.prog.info? 3).map (fun i => (i.zero, i.size, i.bytes)) = some (some (.int .i64 0), 1, 8) := by kernel_rfl
theorem info4 : (Yba.prog.info? 4).map (fun i => (i.zero, i.size, i.bytes)) = some (some (.bool false), 1, 1) := by kernel_rfl
theorem info61 : (Yba.prog.info? 61).map (fun i => (i.zero, i.size, i.bytes)) = some (some (.agg #[.int .u8 0, .int .u32 0, .int .u32 0, .slice none 0 0]), 4, 40) := by kernel_rfl

/-- What is known of the instructions that came in, in the words of what the law makes of them. -/
structure Given (w : World) (a0 : Option Addr) (b0 o0 : Nat) (P Q A : Nat → Int) (I : Ins) : Prop where
  ad : I.n = 0 ∨ a0 = some ⟨b0, o0, none⟩
  bl : 0 < I.n → b0 < w.heap.size
  c0 : ∀ i, i < I.n → w.cell? ⟨b0, o0 + i * 4, none⟩ = some (.int .u8 (P i))
  c1 : ∀ i, i < I.n → w.cell? ⟨b0, o0 + i * 4 + 1, none⟩ = some (.int .u8 (Q i))
  c2 : ∀ i, i < I.n → w.cell? ⟨b0, o0 + i * 4 + 2, none⟩ = some (.int .u8 (A i))
  c3 : ∀ i, i < I.n → w.cell? ⟨b0, o0 + i * 4 + 3, none⟩ = some (.int .i64 (I.L i))
  wp : ∀ i, 0 ≤ P i ∧ P i ≤ 255
  wq : ∀ i, 0 ≤ Q i ∧ Q i ≤ 255
  wa : ∀ i, 0 ≤ A i ∧ A i ≤ 255
  wl : ∀ i, -9223372036854775808 ≤ I.L i ∧ I.L i ≤ 9223372036854775807
  hK : ∀ i, i < I.n → P i % 7 = (I.K i : Int)
  hO : ∀ i, i < I.n → (i : Int) + 1 + Q i % ((I.n : Int) - i) = (I.O i : Int)
  ha : ∀ i, A i % 5 = (I.a i : Int)
  hL : I.L I.n = 0

theorem argc_bd (a : Nat) : 0 ≤ argc a ∧ argc a ≤ 255 := by unfold argc; split <;> decide

theorem blk_of {w : World} {g : Nat} {e : TypeId} {s n : Nat} {xs : List Value} (h : w.ownsRow g e s (.slice (some ⟨g, 0, none⟩) n n) n xs) : Blk w g e (n * s) := by
  rcases h.2 with ⟨hh, _⟩ | ⟨g', c, cur, hh, _, hb, _, _, hs, _⟩
  · cases hh
  · cases hh; exact ⟨cur, hb, hs⟩

theorem idx43 (ao : Option Addr) (n c k b o : Nat) (ha : n = 0 ∨ ao = some ⟨b, o, none⟩) (hk : k < n) (W : World) :
    (Instr.indexAt 43 (.slice ao n c) (.int .i64 k)).run Yba.prog W = .ok (.pointer (some ⟨b, o + k * 4, none⟩)) W := by
  rcases ha with h | rfl
  · omega
  · simp [go_sem, hk]
theorem idx44 (ao : Option Addr) (n c k b o : Nat) (ha : n = 0 ∨ ao = some ⟨b, o, none⟩) (hk : k < n) (W : World) :
    (Instr.indexAt 44 (.slice ao n c) (.int .i64 k)).run Yba.prog W = .ok (.pointer (some ⟨b, o + k, none⟩)) W := by
  rcases ha with h | rfl
  · omega
  · simp [go_sem, hk]


/-- The world in which the law's first loop begins. -/
def W6 (w5 : World) (gI n : Nat) : World :=
  (((w5.alloc (.cells #[.slice (some ⟨gI, 0, none⟩) (n + 1) (n + 1), .int .i64 0, .int .i64 0] 50)).alloc (.cells #[.int .u8 4, .int .u8 3, .int .u8 8, .int .u8 6, .int .u8 2, .int .u8 0, .int .u8 5] 52)).alloc (.cells #[.int .u8 8, .int .u8 4, .int .u8 12, .int .u8 10, .int .u8 0] 54)).alloc (.cells #[.bool true, .bool false, .bool false, .bool false, .bool true] 55)

theorem setup_start {w w1 w2 w3 w4 w5 : World} {I : Ins} {x1 x2 x3 x4 x5 : List Value}
    (h1 : w1.ownsRow w.heap.size 3 1 (.slice (some ⟨w.heap.size, 0, none⟩) (I.n + 1) (I.n + 1)) (I.n + 1) x1) (g1 : w.grownBy w1 none)
    (h2 : w2.ownsRow w1.heap.size 3 1 (.slice (some ⟨w1.heap.size, 0, none⟩) (I.n + 1) (I.n + 1)) (I.n + 1) x2) (g2 : w1.grownBy w2 none)
    (h3 : w3.ownsRow w2.heap.size 4 1 (.slice (some ⟨w2.heap.size, 0, none⟩) (I.n + 1) (I.n + 1)) (I.n + 1) x3) (g3 : w2.grownBy w3 none)
    (h4 : w4.ownsRow w3.heap.size 3 1 (.slice (some ⟨w3.heap.size, 0, none⟩) (I.n + 1) (I.n + 1)) (I.n + 1) x4) (g4 : w3.grownBy w4 none)
    (h5 : w5.ownsRow w4.heap.size 61 4 (.slice (some ⟨w4.heap.size, 0, none⟩) (I.n + 1) (I.n + 1)) (I.n + 1) x5) (g5 : w4.grownBy w5 none) :
    Setup w (W6 w5 w4.heap.size I.n) ⟨w.heap.size, w1.heap.size, w2.heap.size, w3.heap.size, w4.heap.size, w5.heap.size, w5.heap.size + 1, w5.heap.size + 1 + 1, w5.heap.size + 1 + 1 + 1⟩ I 0 0 0 0 0 0 0 := by
  have l1 : w.heap.size < w1.heap.size := (h1.lt _ rfl).2
  have l2 : w1.heap.size < w2.heap.size := (h2.lt _ rfl).2
  have l3 : w2.heap.size < w3.heap.size := (h3.lt _ rfl).2
  have l4 : w3.heap.size < w4.heap.size := (h4.lt _ rfl).2
  have l5 : w4.heap.size < w5.heap.size := (h5.lt _ rfl).2
  have s1 := g1.size
  have s2 := g2.size
  have s3 := g3.size
  have s4 := g4.size
  have s5 := g5.size
  have hsz : (W6 w5 w4.heap.size I.n).heap.size = w5.heap.size + 4 := by simp [W6]
  have old : ∀ k, k < w5.heap.size → (W6 w5 w4.heap.size I.n).heap[k]? = w5.heap[k]? := by
    intro k hk
    unfold W6
    rw [Below.heap_alloc _ _ _ (by simp; omega), Below.heap_alloc _ _ _ (by simp; omega), Below.heap_alloc _ _ _ (by simp; omega), Below.heap_alloc _ _ _ (by omega)]
  have b1 := blk_of h1
  have b2 := blk_of h2
  have b3 := blk_of h3
  have b4 := blk_of h4
  have b5 := blk_of h5
  rw [Nat.mul_one] at b1 b2 b3 b4
  have n0 : ∀ i : Nat, ¬ i < 0 := fun i => Nat.not_lt_zero i
  refine { up := ⟨Nat.le_refl _, l1, l2, l3, l4, l5, Nat.lt_succ_self _, Nat.lt_succ_self _, Nat.lt_succ_self _⟩, bK := ?_, bO := ?_, bE := ?_, bL := ?_, bI := ?_, pP := ?_, tT := ?_, tA := ?_, tB := ?_, kd := fun i hi => absurd hi (n0 i), ot := fun i hi => absurd hi (n0 i), op := fun i hi => absurd hi (n0 i), out := fun i hi => absurd hi (n0 i), arg := fun i hi => absurd hi (n0 i), en := fun i hi => absurd hi (n0 i), lst := fun i hi => absurd hi (n0 i), bel := ?_ }
  · exact b1.kept ((old w.heap.size (by omega)).trans ((g5.block w.heap.size (by omega) (by simp)).trans ((g4.block w.heap.size (by omega) (by simp)).trans ((g3.block w.heap.size (by omega) (by simp)).trans (g2.block _ l1 (by simp))))))
  · exact b2.kept ((old w1.heap.size (by omega)).trans ((g5.block w1.heap.size (by omega) (by simp)).trans ((g4.block w1.heap.size (by omega) (by simp)).trans (g3.block _ l2 (by simp)))))
  · exact b3.kept ((old w2.heap.size (by omega)).trans ((g5.block w2.heap.size (by omega) (by simp)).trans (g4.block _ l3 (by simp))))
  · exact b4.kept ((old w3.heap.size (by omega)).trans (g5.block _ l4 (by simp)))
  · exact b5.kept (old _ l5)
  · show (W6 w5 w4.heap.size I.n).cell? ⟨w5.heap.size, 0, none⟩ = _
    simp [W6, go_sem]
  · intro i hi
    show (W6 w5 w4.heap.size I.n).cell? ⟨w5.heap.size + 1, i, none⟩ = _
    rcases (show i = 0 ∨ i = 1 ∨ i = 2 ∨ i = 3 ∨ i = 4 ∨ i = 5 ∨ i = 6 by omega) with rfl | rfl | rfl | rfl | rfl | rfl | rfl <;> simp [W6, go_sem, opc]
  · intro i hi
    show (W6 w5 w4.heap.size I.n).cell? ⟨w5.heap.size + 1 + 1, i, none⟩ = _
    rcases (show i = 0 ∨ i = 1 ∨ i = 2 ∨ i = 3 ∨ i = 4 by omega) with rfl | rfl | rfl | rfl | rfl <;> simp [W6, go_sem, argc]
  · intro i hi
    show (W6 w5 w4.heap.size I.n).cell? ⟨w5.heap.size + 1 + 1 + 1, i, none⟩ = _
    rcases (show i = 0 ∨ i = 1 ∨ i = 2 ∨ i = 3 ∨ i = 4 by omega) with rfl | rfl | rfl | rfl | rfl <;> simp [W6, go_sem, endc]
  · have B1 : Below w.heap.size w w5 := (((((Below.refl _ _).grown g1 (Nat.le_refl _) (fun k hk => by cases hk)).grown g2 s1 (fun k hk => by cases hk)).grown g3 (by omega) (fun k hk => by cases hk)).grown g4 (by omega) (fun k hk => by cases hk)).grown g5 (by omega) (fun k hk => by cases hk)
    exact (((B1.alloc (by omega) _).alloc (by simp; omega) _).alloc (by simp; omega) _).alloc (by simp; omega) _

theorem Setup.far {w wr : World} {b : Bl} {I : Ins} {c1 c2 c3 c4 c5 c6 c7 g : Nat} (h : Setup w wr b I c1 c2 c3 c4 c5 c6 c7) (hg : b.gB < g) (o : Nat) (u : Value) : Setup w (wr.setCell ⟨g, o, none⟩ u) b I c1 c2 c3 c4 c5 c6 c7 := by
  obtain ⟨a0, a1, a2, a3, a4, a5, a6, a7, a8⟩ := h.up
  exact { up := h.up, bK := h.bK.set _ _ _, bO := h.bO.set _ _ _, bE := h.bE.set _ _ _, bL := h.bL.set _ _ _, bI := h.bI.set _ _ _, bel := h.bel.setCell (by show w.heap.size ≤ g; omega) _, pP := cell_off (by omega) h.pP, tT := fun i hi => cell_off (by omega) (h.tT i hi), tA := fun i hi => cell_off (by omega) (h.tA i hi), tB := fun i hi => cell_off (by omega) (h.tB i hi), kd := fun i hi => cell_off (by omega) (h.kd i hi), ot := fun i hi => cell_off (by omega) (h.ot i hi), op := fun i hi => cell_off (by omega) (h.op i hi), out := fun i hi => cell_off (by omega) (h.out i hi), arg := fun i hi hki => cell_off (by omega) (h.arg i hi hki), en := fun i hi hki => cell_off (by omega) (h.en i hi hki), lst := fun i hi => cell_off (by omega) (h.lst i hi) }

/-- The tables whole: the state behind the law's first loop and its four stores. -/
def Full (w wr : World) (b : Bl) (I : Ins) : Prop := Setup w wr b I (I.n + 1) (I.n + 1) (I.n + 1) I.n I.n I.n (I.n + 1)

theorem full_of {w wr : World} {gO gE gL gI gP : Nat} {b : Bl} {I : Ins} (hb : b = ⟨w.heap.size, gO, gE, gL, gI, gP, gP + 1, gP + 1 + 1, gP + 1 + 1 + 1⟩) (h : Setup w wr b I I.n I.n I.n I.n I.n I.n I.n) (ok : I.Ok) (hL : I.L I.n = 0) :
    Full w ((((wr.setCell ⟨w.heap.size, I.n, none⟩ (.int .i64 0)).setCell ⟨gO, I.n, none⟩ (.int .i64 I.n)).setCell ⟨gI, I.n * 4, none⟩ (.int .u8 4)).setCell ⟨gL, I.n, none⟩ (.int .i64 0)) b I := by
  have h1 := (((h.kinds (Nat.le_refl _)).outs (Nat.le_refl _)).ops (Nat.le_refl _)).leasts (Nat.le_refl _)
  rw [ok.hKn, ok.hOn, hL] at h1
  subst hb
  exact h1

/-- The waits: of the first k the numbers, of all mm a cell. -/
def Wts (wr : World) (gW mm : Nat) (W : Nat → Nat) (k : Nat) : Prop := Blk wr gW 58 mm ∧ ∀ t, t < k → wr.cell? ⟨gW, t, none⟩ = some (.int .u32 (W t))

theorem Wts.step {wr : World} {gW mm k : Nat} {W : Nat → Nat} (h : Wts wr gW mm W k) (hk : k < mm) : Wts (wr.setCell ⟨gW, k, none⟩ (.int .u32 (W k))) gW mm W (k + 1) := by
  refine ⟨h.1.set _ _ _, fun t ht => ?_⟩
  by_cases e : t = k
  · rw [e]; exact cell_put h.1 hk _
  · exact cell_off (by omega) (h.2 t (by omega))

end Go.Proofs.Ybulkpyo
