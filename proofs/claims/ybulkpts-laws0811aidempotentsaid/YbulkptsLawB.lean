/- LawS0811AIdempotent: what its walk leans on. -/
import Derived.Test.YbulkptsLawA
namespace Go.Proofs.Ybulkpts
open Go.RowKit Go.Maps Go.Sort
set_option linter.unusedVariables false

theorem Inv.other {w w' : World} {P M base nb g : Nat} {v : Value} {D : DataW Unit} {ls : List Lk} {h : Nat → Bool} (hi : Inv w P M base nb v D ls h) (hg : w.grownBy w' (some g)) (hP : P ≠ g) (hM : M ≠ g) (hv : v.ownBlock ≠ some g) : Inv w' P M base nb v D ls h := by
  obtain ⟨a1, a2, a3, a4, a5⟩ := hi
  exact ⟨(hg.block _ (lt_of_block a1) (by simpa using hP)).trans a1, a2.kept hg (.inr hv), a3.kept hg (by simpa using hM), a4, Nat.le_trans a5 hg.size⟩

/-- THE STATE OF THE LAW's FIRST LOOP: k locks copied. -/
def Cpy (w wr : World) (P M base nb : Nat) (v : Value) (D : DataW Unit) (ls : List Lk) (h : Nat → Bool) (gk gm k : Nat) : Prop :=
  ∃ xs ys : List Value, wr.ownsRow gk 9 1 (.slice (some ⟨gk, 0, none⟩) ls.length ls.length) ls.length xs ∧ wr.ownsRow gm 29 1 (.slice (some ⟨gm, 0, none⟩) ls.length ls.length) ls.length ys ∧
    (∀ (j : Nat) (e : Lk), j < k → ls[j]? = some e → xs[j]? = some (.string ⟨(kb e.1).toArray⟩) ∧ ys[j]? = some (.int .u8 e.2)) ∧ Inv wr P M base nb v D ls h ∧ Below w.heap.size w wr

/-- The two new rows lie apart from all else. -/
structure Far (w : World) (P M gk gm : Nat) (v : Value) : Prop where
  pk : P ≠ gk
  pm : P ≠ gm
  mgk : M ≠ gk
  mgm : M ≠ gm
  vk : v.ownBlock ≠ some gk
  vm : v.ownBlock ≠ some gm
  km : gk ≠ gm
  wk : w.heap.size ≤ gk
  wm : w.heap.size ≤ gm

theorem Cpy.cells {w wr : World} {P M base nb : Nat} {v : Value} {D : DataW Unit} {ls : List Lk} {h : Nat → Bool} {gk gm k : Nat} (hc : Cpy w wr P M base nb v D ls h gk gm k) {j : Nat} (hj : j < ls.length) :
    (∃ u, wr.cell? ⟨gk, j, none⟩ = some u) ∧ (∃ u, wr.cell? ⟨gm, j, none⟩ = some u) ∧ wr.frozen? ⟨gk, j, none⟩ = false ∧ wr.frozen? ⟨gm, j, none⟩ = false := by
  obtain ⟨xs, ys, r1, r2, _, _, _⟩ := hc
  have l1 := r1.1
  have l2 := r2.1
  refine ⟨⟨xs[j]'(by omega), (r1.cellAt j (by omega)).trans (List.getElem?_eq_getElem (by omega))⟩, ⟨ys[j]'(by omega), (r2.cellAt j (by omega)).trans (List.getElem?_eq_getElem (by omega))⟩, r1.frozenAt j, r2.frozenAt j⟩

theorem Cpy.done {w wr : World} {P M base nb : Nat} {v : Value} {D : DataW Unit} {ls : List Lk} {h : Nat → Bool} {gk gm k : Nat} (hc : Cpy w wr P M base nb v D ls h gk gm k) {j : Nat} {e : Lk} (hj : j < k) (he : ls[j]? = some e) :
    wr.cell? ⟨gk, j, none⟩ = some (.string ⟨(kb e.1).toArray⟩) ∧ wr.cell? ⟨gm, j, none⟩ = some (.int .u8 e.2) := by
  obtain ⟨xs, ys, r1, r2, h3, _, _⟩ := hc
  have hl := (List.getElem?_eq_some_iff.1 he).1
  exact ⟨(r1.cellAt j (by omega)).trans (h3 j e hj he).1, (r2.cellAt j (by omega)).trans (h3 j e hj he).2⟩

theorem Cpy.step {w wr : World} {P M base nb : Nat} {v : Value} {D : DataW Unit} {ls : List Lk} {h : Nat → Bool} {gk gm k : Nat} {e : Lk} (hc : Cpy w wr P M base nb v D ls h gk gm k) (f : Far w P M gk gm v) (he : ls[k]? = some e) :
    Cpy w ((wr.setCell ⟨gk, k, none⟩ (.string ⟨(kb e.1).toArray⟩)).setCell ⟨gm, k, none⟩ (.int .u8 e.2)) P M base nb v D ls h gk gm (k + 1) := by
  obtain ⟨xs, ys, r1, r2, h3, h4, h5⟩ := hc
  have hl := (List.getElem?_eq_some_iff.1 he).1
  have l1 := r1.1
  have l2 := r2.1
  obtain ⟨s1, g1⟩ := r1.stored k (.string ⟨(kb e.1).toArray⟩)
  have r2' := r2.kept g1 (.inr (by simp [Value.ownBlock]; exact fun e => f.km e.symm))
  obtain ⟨s2, g2⟩ := r2'.stored k (.int .u8 e.2)
  have s1' := s1.kept g2 (.inr (by simp [Value.ownBlock]; exact f.km))
  refine ⟨_, _, s1', s2, fun j e' hj he' => ?_, (h4.other g1 f.pk f.mgk f.vk).other g2 f.pm f.mgm f.vm, ?_⟩
  · by_cases ej : j = k
    · subst ej
      rw [he] at he'
      cases he'
      simp [show j < xs.length by omega, show j < ys.length by omega]
    · rw [List.getElem?_set_ne (by omega), List.getElem?_set_ne (by omega)]
      exact h3 j e' (by omega) he'
  · exact (h5.setCell (by exact f.wk) _).setCell (by exact f.wm) _

theorem want_none {ls : List Lk} {h : Nat → Bool} (hn : ∀ e ∈ ls, (e.2 == 1) = false) : want ls h = [] := by
  unfold want
  rw [List.filter_eq_nil_iff.2 fun e he => by simp [isSh, hn e he]]
  rfl
theorem kept_none {ls : List Lk} (hn : ∀ e ∈ ls, (e.2 == 1) = false) : ls.filter notSh = ls := by
  rw [List.filter_eq_self]
  intro e he
  simp [notSh, bne, hn e he]
theorem kp_notSh (z : Nat → Int) (k : Nat) : ∀ e ∈ kp z k, (e.2 == 1) = false := by
  intro e he
  have := (List.mem_filter.1 he).2
  simpa [notSh] using this

/-- The two copies read as before behind the second release. -/
theorem Cpy.fr {w wr w5 : World} {P M base nb : Nat} {v : Value} {D : DataW Unit} {ls : List Lk} {h : Nat → Bool} {gk gm k : Nat} (hc : Cpy w wr P M base nb v D ls h gk gm k) (f : Far w P M gk gm v) (fr : Fr wr w5 P M v) {j : Nat} {e : Lk} (hj : j < k) (he : ls[j]? = some e) :
    w5.cell? ⟨gk, j, none⟩ = some (.string ⟨(kb e.1).toArray⟩) ∧ w5.cell? ⟨gm, j, none⟩ = some (.int .u8 e.2) := by
  obtain ⟨a, b⟩ := hc.done hj he
  obtain ⟨xs, ys, r1, r2, _⟩ := hc
  have k1 := (r1.lt gk rfl).2
  have k2 := (r2.lt gm rfl).2
  rw [← a, ← b]
  exact ⟨World.cell?_of_block (fr.block gk k1 f.pk.symm f.mgk.symm (fun e => f.vk e.symm)), World.cell?_of_block (fr.block gm k2 f.pm.symm f.mgm.symm (fun e => f.vm e.symm))⟩
end Go.Proofs.Ybulkpts
