/- LawS0811AReleaseShared: what its walk leans on. -/
import Derived.Test.YbulkptsRel1
namespace Go.Proofs.Ybulkpts
open Go.RowKit Go.Maps Go.Sort
set_option linter.unusedVariables false

theorem info29 : (Yba.prog.info? 29).map (fun i => (i.zero, i.size, i.bytes)) = some (some (.int .u8 0), 1, 1) := by kernel_rfl
theorem info4 : (Yba.prog.info? 4).map (fun i => (i.zero, i.size, i.bytes)) = some (some (.bool false), 1, 1) := by kernel_rfl

/-- The locks that are kept of the first k. -/
def kp (z : Nat → Int) (k : Nat) : List Lk := (made z k).filter notSh
/-- No row is shared. -/
def Apart (v v' : Value) : Prop := ∀ k, v.ownBlock = some k → v'.ownBlock ≠ some k

theorem good_made (z : Nat → Int) (k : Nat) (hk : k ≤ 300) : Good (made z k) := by
  refine ⟨?_, fun e he => ?_, by rw [made_length]; exact hk⟩
  · unfold made
    rw [List.pairwise_map]
    exact List.pairwise_lt_range
  · simp [made] at he
    obtain ⟨i, hi, rfl⟩ := he
    show i < 676
    omega

theorem begin_build {w1 : World} {P M base : Nat} {v : Value} {D : DataW Unit} {z : Nat → Int} {k : Nat} {h : Nat → Bool} (hi : Inv w1 P M base 300 v D (made z k) h) (hk : k ≤ 300) (hP : P < base) (hM : M < base) (hPM : P ≠ M) : Begin w1 P M base 300 v D (made z k) h :=
  ⟨hi, good_made z k hk, hP, hM, hPM, by omega⟩

/-- THE STATE OF THE LAW's FIRST LOOP. -/
def Coll (W wr : World) (z : Nat → Int) (h : Nat → Bool) (k : Nat) (v7 v8 v9 v10 : Value) : Prop :=
  wr.ownsRow W.heap.size 9 1 v7 (want (made z k) h).length ((want (made z k) h).map encStr) ∧
  wr.ownsRow W.heap.size 9 1 v8 (kp z k).length ((kp z k).map fun e => encStr (kb e.1)) ∧
  wr.ownsRow W.heap.size 29 1 v9 (kp z k).length ((kp z k).map fun e => .int .u8 e.2) ∧
  wr.ownsRow W.heap.size 4 1 v10 (kp z k).length ((kp z k).map fun e => .bool (h e.1)) ∧ Apart v7 v8 ∧ Below W.heap.size W wr

theorem Coll.start (W : World) (z : Nat → Int) (h : Nat → Bool) : Coll W W z h 0 (.slice none 0 0) (.slice none 0 0) (.slice none 0 0) (.slice none 0 0) :=
  ⟨World.ownsRow_nil _ _ _ _, World.ownsRow_nil _ _ _ _, World.ownsRow_nil _ _ _ _, World.ownsRow_nil _ _ _ _, fun k hk => by simp [Value.ownBlock] at hk, Below.refl _ _⟩

/-- Rows of different element types are different rows. -/
theorem row_kinds {w : World} {b b' : Nat} {e e' : TypeId} {s s' : Nat} {v v' : Value} {n n' : Nat} {xs xs' : List Value} (h : w.ownsRow b e s v n xs) (h' : w.ownsRow b' e' s' v' n' xs') (hne : e ≠ e') : v.ownBlock = none ∨ v.ownBlock ≠ v'.ownBlock := by
  rcases h.2 with ⟨rfl, _⟩ | ⟨g, cap, cur, rfl, _, hb, _⟩
  · exact .inl rfl
  · refine .inr fun e1 => ?_
    rcases h'.2 with ⟨rfl, _⟩ | ⟨g', cap', cur', rfl, _, hb', _⟩
    · simp [Value.ownBlock] at e1
    · have : g = g' := by simpa [Value.ownBlock] using e1
      subst this
      rw [hb] at hb'
      simp at hb'
      exact hne hb'.2

theorem want_snoc_hit (z : Nat → Int) (h : Nat → Bool) (k : Nat) (hm : (z k % 4 == 1) = true) (hh : h k = true) : want (made z (k + 1)) h = want (made z k) h ++ [kb k] := by
  rw [made_succ]; unfold want; rw [List.filter_append]; simp [isSh, hm, hh]
theorem want_snoc_not (z : Nat → Int) (h : Nat → Bool) (k : Nat) (hh : h k = false) : want (made z (k + 1)) h = want (made z k) h := by
  rw [made_succ]; unfold want; rw [List.filter_append]; simp [hh]
theorem want_snoc_kept (z : Nat → Int) (h : Nat → Bool) (k : Nat) (hm : (z k % 4 == 1) = false) : want (made z (k + 1)) h = want (made z k) h := by
  rw [made_succ]; unfold want; rw [List.filter_append]; simp [isSh, hm]
theorem kp_snoc_sh (z : Nat → Int) (k : Nat) (hm : (z k % 4 == 1) = true) : kp z (k + 1) = kp z k := by
  unfold kp; rw [made_succ, List.filter_append]; simp [notSh, bne, hm]
theorem kp_snoc (z : Nat → Int) (k : Nat) (hm : (z k % 4 == 1) = false) : kp z (k + 1) = kp z k ++ [(k, z k % 4)] := by
  unfold kp; rw [made_succ, List.filter_append]; simp [notSh, bne, hm]

theorem kp_le (z : Nat → Int) (k : Nat) : (kp z k).length ≤ k := by
  have := List.length_filter_le notSh (made z k); rw [made_length] at this; exact this
theorem want_le (z : Nat → Int) (h : Nat → Bool) (k : Nat) : (want (made z k) h).length ≤ k := by
  unfold want; rw [List.length_map]
  have := List.length_filter_le (fun e : Lk => isSh e && h e.1) (made z k); rw [made_length] at this; exact this

/-- A lock in shared mode that is not held. -/
theorem Coll.pass {W wr : World} {z : Nat → Int} {h : Nat → Bool} {k : Nat} {v7 v8 v9 v10 : Value} (hc : Coll W wr z h k v7 v8 v9 v10) (hm : (z k % 4 == 1) = true) (hh : h k = false) (o : Obj) : Coll W (wr.alloc o) z h (k + 1) v7 v8 v9 v10 := by
  obtain ⟨a1, a2, a3, a4, a5, a6⟩ := hc
  unfold Coll
  rw [want_snoc_not z h k hh, kp_snoc_sh z k hm]
  exact ⟨a1.alloc o, a2.alloc o, a3.alloc o, a4.alloc o, a5, a6.alloc a6.size o⟩

/-- .. that is held: its key is wanted. -/
theorem Coll.hit {W wr w1 : World} {z : Nat → Int} {h : Nat → Bool} {k g cap : Nat} {v7 v8 v9 v10 : Value} {o o' : Obj} (hc : Coll W wr z h k v7 v8 v9 v10) (hm : (z k % 4 == 1) = true) (hh : h k = true)
    (hown : w1.ownsRow W.heap.size 9 1 (.slice (some ⟨g, 0, none⟩) ((want (made z k) h).length + 1) cap) ((want (made z k) h).length + 1) ((want (made z k) h).map encStr ++ [encStr (kb k)]))
    (hg : ((wr.alloc o).alloc o').grownBy w1 v7.ownBlock) (hat : v7.ownBlock = some g ∨ g = wr.heap.size + 2) :
    Coll W w1 z h (k + 1) (.slice (some ⟨g, 0, none⟩) ((want (made z k) h).length + 1) cap) v8 v9 v10 := by
  obtain ⟨a1, a2, a3, a4, a5, a6⟩ := hc
  have hg' : wr.grownBy w1 v7.ownBlock := ((World.grownBy_alloc wr o _).trans (World.grownBy_alloc _ o' _)).trans hg
  unfold Coll
  rw [want_snoc_hit z h k hm hh, kp_snoc_sh z k hm]
  refine ⟨by simpa using hown, a2.kept hg' ?_, a3.kept hg' (row_kinds a3 a1 (by decide)), a4.kept hg' (row_kinds a4 a1 (by decide)), ?_, a6.grown hg' a6.size (fun j hj => (a1.lt j hj).1)⟩
  · cases hq : v8.ownBlock with
    | none => exact .inl rfl
    | some b => exact .inr fun e => a5 b e.symm hq
  · intro b hb e
    have hb' : g = b := by simpa [Value.ownBlock] using hb
    subst hb'
    rcases hat with h1 | h1
    · exact a5 g h1 e
    · have := (a2.lt _ e).2; omega

/-- A lock of another mode: it is kept: three slices grow. -/
theorem Coll.kept {W wr w1 w2 w3 : World} {z : Nat → Int} {h : Nat → Bool} {k g8 c8 : Nat} {v7 v8 v9 v10 v9' v10' : Value} {o o1 o2 o3 : Obj} (hc : Coll W wr z h k v7 v8 v9 v10) (hm : (z k % 4 == 1) = false)
    (h1 : w1.ownsRow W.heap.size 9 1 (.slice (some ⟨g8, 0, none⟩) ((kp z k).length + 1) c8) ((kp z k).length + 1) (((kp z k).map fun e => encStr (kb e.1)) ++ [encStr (kb k)]))
    (hg1 : ((wr.alloc o).alloc o1).grownBy w1 v8.ownBlock) (hat : v8.ownBlock = some g8 ∨ g8 = wr.heap.size + 2)
    (h2 : w2.ownsRow W.heap.size 29 1 v9' ((kp z k).length + 1) (((kp z k).map fun e => .int .u8 e.2) ++ [.int .u8 (z k % 4)])) (hg2 : (w1.alloc o2).grownBy w2 v9.ownBlock)
    (h3 : w3.ownsRow W.heap.size 4 1 v10' ((kp z k).length + 1) (((kp z k).map fun e => .bool (h e.1)) ++ [.bool (h k)])) (hg3 : (w2.alloc o3).grownBy w3 v10.ownBlock) :
    Coll W w3 z h (k + 1) v7 (.slice (some ⟨g8, 0, none⟩) ((kp z k).length + 1) c8) v9' v10' := by
  obtain ⟨a1, a2, a3, a4, a5, a6⟩ := hc
  have G1 : wr.grownBy w1 v8.ownBlock := ((World.grownBy_alloc wr o _).trans (World.grownBy_alloc _ o1 _)).trans hg1
  have G2 : w1.grownBy w2 v9.ownBlock := (World.grownBy_alloc w1 o2 _).trans hg2
  have G3 : w2.grownBy w3 v10.ownBlock := (World.grownBy_alloc w2 o3 _).trans hg3
  have b6 := a6.grown G1 a6.size (fun j hj => (a2.lt j hj).1)
  have c9 : w1.ownsRow W.heap.size 29 1 v9 _ _ := a3.kept G1 (row_kinds a3 a2 (by decide))
  have c10 : w1.ownsRow W.heap.size 4 1 v10 _ _ := a4.kept G1 (row_kinds a4 a2 (by decide))
  have d10 : w2.ownsRow W.heap.size 4 1 v10 _ _ := c10.kept G2 (row_kinds c10 c9 (by decide))
  have d6 := b6.grown G2 b6.size (fun j hj => (c9.lt j hj).1)
  have c7 : w1.ownsRow W.heap.size 9 1 v7 _ _ := a1.kept G1 (by
    cases hq : v7.ownBlock with
    | none => exact .inl rfl
    | some b => exact .inr fun e => a5 b hq e.symm)
  have d7 := c7.kept G2 (row_kinds c7 c9 (by decide))
  have d8 := h1.kept G2 (row_kinds h1 c9 (by decide))
  unfold Coll
  rw [want_snoc_kept z h k hm, kp_snoc z k hm]
  refine ⟨d7.kept G3 (row_kinds d7 d10 (by decide)), ?_, ?_, ?_, ?_, d6.grown G3 d6.size (fun j hj => (d10.lt j hj).1)⟩
  · simpa using d8.kept G3 (row_kinds d8 d10 (by decide))
  · simpa using h2.kept G3 (row_kinds h2 d10 (by decide))
  · simpa using h3
  · intro b hb e
    have hb' : g8 = b := by simpa [Value.ownBlock] using e
    subst hb'
    rcases hat with e1 | e1
    · exact a5 g8 hb e1
    · have := (a1.lt _ hb).2; omega
theorem news_one (w : World) (o : Obj) (u : Value) (t : TypeId) : ∀ (j : Nat) (x : Value), [u][j]? = some x → ((w.alloc o).alloc (.cells #[u] t)).cell? ((⟨w.heap.size + 1, 0, none⟩ : Addr).add j) = some x := by
  intro j x hj
  match j, hj with
  | 0, hj =>
    simp at hj
    subst hj
    simp [Addr.add]

theorem row_shape {w : World} {b : Nat} {e : TypeId} {v : Value} {n : Nat} {xs : List Value} (h : w.ownsRow b e 1 v n xs) :
    ∃ (ao : Option Addr) (c g : Nat), v = .slice ao n c ∧ (n = 0 ∨ ao = some ⟨g, 0, none⟩) ∧ ∀ (j : Nat) (u : Value), xs[j]? = some u → j < n → w.cell? ⟨g, j, none⟩ = some u := by
  have h0 := h
  rcases h.2 with ⟨rfl, rfl⟩ | ⟨g, cap, cur, rfl, _, hb, _⟩
  · exact ⟨none, 0, 0, rfl, .inl rfl, fun j u _ hj => absurd hj (Nat.not_lt_zero _)⟩
  · exact ⟨_, cap, g, rfl, .inr rfl, fun j u hu hj => (h0.cellAt j (by omega)).trans hu⟩

theorem locks_shape {w : World} {b : Nat} {v : Value} {ls : List Lk} (h : w.ownsRow b 37 2 v ls.length (flat (lk ls))) :
    ∃ (ao : Option Addr) (c g : Nat), v = .slice ao ls.length c ∧ (ls.length = 0 ∨ ao = some ⟨g, 0, none⟩) ∧ ∀ (j : Nat) (e : Lk), ls[j]? = some e → w.cell? ⟨g, j * 2, none⟩ = some (.string ⟨(kb e.1).toArray⟩) ∧ w.cell? ⟨g, j * 2 + 1, none⟩ = some (.int .u8 e.2) := by
  have h0 := h
  rcases h.2 with ⟨rfl, h1⟩ | ⟨g, cap, cur, rfl, _, hb, _⟩
  · refine ⟨none, 0, 0, by rw [h1], .inl h1, fun j e he => ?_⟩
    have := (List.getElem?_eq_some_iff.1 he).1
    omega
  · refine ⟨_, cap, g, rfl, .inr rfl, fun j e he => ?_⟩
    have hj := (List.getElem?_eq_some_iff.1 he).1
    have hr := (row2_of_owns (lk_length ls) h0).2.2
    have a := hr.cell0 (t := j) (by rw [lk_length]; exact hj)
    have b := hr.cell1 (t := j) (by rw [lk_length]; exact hj)
    rw [fnOf_lk he] at a b
    exact ⟨a, b⟩

theorem idx26 (ao : Option Addr) (n c k g : Nat) (ha : n = 0 ∨ ao = some ⟨g, 0, none⟩) (hk : k < n) (W : World) :
    (Instr.indexAt 26 (.slice ao n c) (.int .i64 k)).run Yba.prog W = .ok (.pointer (some ⟨g, k, none⟩)) W := by
  rcases ha with h | rfl
  · omega
  · simp [go_sem, hk]
theorem idx28 (ao : Option Addr) (n c k g : Nat) (ha : n = 0 ∨ ao = some ⟨g, 0, none⟩) (hk : k < n) (W : World) :
    (Instr.indexAt 28 (.slice ao n c) (.int .i64 k)).run Yba.prog W = .ok (.pointer (some ⟨g, k, none⟩)) W := by
  rcases ha with h | rfl
  · omega
  · simp [go_sem, hk]
theorem idx23' (ao : Option Addr) (n c k g : Nat) (ha : n = 0 ∨ ao = some ⟨g, 0, none⟩) (hk : k < n) (W : World) :
    (Instr.indexAt 23 (.slice ao n c) (.int .i64 k)).run Yba.prog W = .ok (.pointer (some ⟨g, k, none⟩)) W := by
  rcases ha with h | rfl
  · omega
  · simp [go_sem, hk]

theorem Inv.kept {w w' : World} {P M base nb : Nat} {v : Value} {D : DataW Unit} {ls : List Lk} {h : Nat → Bool} (hi : Inv w P M base nb v D ls h) (hb : Below w.heap.size w w') : Inv w' P M base nb v D ls h := by
  obtain ⟨a1, a2, a3, a4, a5⟩ := hi
  have hg : w.grownBy w' none := ⟨hb.os, hb.tape, hb.output, hb.size, fun k hk _ => hb.block k hk⟩
  exact ⟨(hb.block _ (lt_of_block a1)).trans a1, a2.kept hg (by cases hq : v.ownBlock; exact .inl rfl; exact .inr (by simp)), a3.kept hg (by simp), a4, Nat.le_trans a5 hb.size⟩

theorem row_kept {w w' : World} {b : Nat} {e : TypeId} {s : Nat} {v : Value} {n : Nat} {xs : List Value} (h : w.ownsRow b e s v n xs) (hb : Below w.heap.size w w') : w'.ownsRow b e s v n xs := by
  have hg : w.grownBy w' none := ⟨hb.os, hb.tape, hb.output, hb.size, fun k hk _ => hb.block k hk⟩
  exact h.kept hg (by cases hq : v.ownBlock; exact .inl rfl; exact .inr (by simp))

/-- How many of the first k are held. -/
def cntH (ls : List Lk) (h : Nat → Bool) (k : Nat) : Nat := ((ls.take k).filter fun e => h e.1).length
theorem cntH_succ {ls : List Lk} {h : Nat → Bool} {k : Nat} {e : Lk} (he : ls[k]? = some e) : cntH ls h (k + 1) = cntH ls h k + (if h e.1 then 1 else 0) := by
  obtain ⟨hk, rfl⟩ := List.getElem?_eq_some_iff.1 he
  unfold cntH
  rw [List.take_succ_eq_append_getElem hk, List.filter_append, List.length_append]
  cases hq : h ls[k].1 <;> simp [hq]
theorem cntH_le (ls : List Lk) (h : Nat → Bool) (k : Nat) : cntH ls h k ≤ k := by
  unfold cntH
  have := List.length_filter_le (fun e : Lk => h e.1) (ls.take k)
  have := List.length_take_le k ls
  omega
theorem cntH_all (ls : List Lk) (h : Nat → Bool) : cntH ls h ls.length = (ls.filter fun e => h e.1).length := by unfold cntH; rw [List.take_length]

end Go.Proofs.Ybulkpts
