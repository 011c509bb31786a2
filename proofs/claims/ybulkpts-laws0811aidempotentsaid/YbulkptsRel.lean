/- releaseShared: what its walk leans on. -/
import Derived.Test.YbulkptsBuild
import Derived.Test.YbulkptsShelf
import Derived.Maps.RangeWalk
import Derived.Sort.OwnSorted
import Derived.BigQuiet
namespace Go.Proofs.Ybulkpts
open Go.RowKit Go.Maps Go.Sort
set_option linter.unusedVariables false

theorem info9 : (Yba.prog.info? 9).map (fun i => (i.zero, i.size, i.bytes)) = some (some (.string ⟨#[]⟩), 1, 16) := by kernel_rfl

/-- The sort, on a slice of the call's own, nil or not. -/
theorem sort_any (B : Nat) (v : Value) (ss : List (List UInt8)) (w : World) (hn : ss.length ≤ 1000) (h : w.ownsRow B 9 1 v ss.length (ss.map encStr)) :
    Calls Yba.prog 8 #[v] w fun e w' => e = .returned (.tuple #[]) ∧ w'.ownsRow B 9 1 v ss.length ((ss.mergeSort fun x y => decide (x ≤ y)).map encStr) ∧ w.grownBy w' v.ownBlock := by
  rcases h.2 with ⟨rfl, h0⟩ | ⟨g, cap, cur, rfl, hbase, hb, h1, h2, h3, h4⟩
  · have e : ss = [] := List.length_eq_zero_iff.1 h0
    subst e
    exact (Yba.slices_Sort_string_none none 0 w).mono fun e w' ⟨h1, h2⟩ => ⟨h1, by rw [h2]; simpa using World.ownsRow_nil w B 9 1, by rw [h2]; exact World.grownBy.refl _ _⟩
  · have hH : Holds encStr w g 0 ss.toArray := holds_of_block hb (by simpa using h4)
    refine (Yba.slices_Sort_string g 0 cap ss w hH (lt_of_block hb) (by omega)).mono fun e w' ⟨he, n, os, hw⟩ => ⟨he, ?_, ?_⟩
    · rw [hw]; exact ownsRow_sorted (by simp) hbase hb h1 h2 h3
    · rw [hw]; exact grownBy_sorted _

theorem lk_filter (ls : List Lk) : (lk ls).filter keepB = lk (ls.filter notSh) := by
  unfold lk
  rw [List.filter_map]
  rfl

theorem fnOf_lk {ls : List Lk} {j : Nat} {e : Lk} (h : ls[j]? = some e) : fnOf (lk ls) j = (⟨(kb e.1).toArray⟩, e.2) := by
  simp [fnOf, lk, h]

/-- Of all that was there only p, the map and the locks' row have turned. -/
structure Fr (w w' : World) (P M : Nat) (v : Value) : Prop where
  os : w'.os = w.os
  tape : w'.tape = w.tape
  output : w'.output = w.output
  size : w.heap.size ≤ w'.heap.size
  block : ∀ k, k < w.heap.size → k ≠ P → k ≠ M → some k ≠ v.ownBlock → w'.heap[k]? = w.heap[k]?

theorem Fr.refl (w : World) (P M : Nat) (v : Value) : Fr w w P M v := ⟨rfl, rfl, rfl, Nat.le_refl _, fun _ _ _ _ _ => rfl⟩
/-- A step that turns one of the three, or a block that is new. -/
theorem Fr.step {w w1 w2 : World} {P M : Nat} {v : Value} {row : Option Nat} (h : Fr w w1 P M v) (hg : w1.grownBy w2 row) (hr : ∀ k, row = some k → k = P ∨ k = M ∨ some k = v.ownBlock ∨ w.heap.size ≤ k) : Fr w w2 P M v :=
  ⟨hg.os.trans h.os, hg.tape.trans h.tape, hg.output.trans h.output, Nat.le_trans h.size hg.size, fun k hk h1 h2 h3 => (hg.block k (Nat.lt_of_lt_of_le hk h.size) (fun e => by
    rcases hr k e.symm with a | a | a | a
    · exact h1 a
    · exact h2 a
    · exact h3 a
    · omega)).trans (h.block k hk h1 h2 h3)⟩
theorem Fr.below {w w' : World} {P M B base : Nat} {v : Value} (h : Fr w w' P M v) (hP : B ≤ P) (hM : B ≤ M) (hB : B ≤ w.heap.size) (hv : ∀ k, v.ownBlock = some k → B ≤ k) : Below B w w' :=
  ⟨h.os, h.tape, h.output, h.size, fun k hk => h.block k (by omega) (by omega) (by omega) (fun e => by have := hv k e.symm; omega)⟩

/-- A DRAW IS NOTHING. -/
theorem grown_drewN (w : World) (n : Nat) : w.grownBy (w.drewN n) none := ⟨rfl, rfl, rfl, Nat.le_refl _, fun _ _ _ => rfl⟩

theorem has_cell {w : World} {P M : Nat} {v : Value} (h : w.heap[P]? = some (.cells #[.pointer none, .bool false, v, .map (some M)] 35 (0, 0))) :
    w.cell? ⟨P, 2, none⟩ = some v ∧ w.cell? ⟨P, 3, none⟩ = some (.map (some M)) ∧ w.frozen? ⟨P, 2, none⟩ = false := by
  refine ⟨by simp [World.cell?, h], by simp [World.cell?, h], by simp [World.frozen?, h]⟩

/-- THE STATE OF THE FIRST LOOP. -/
def Rng (w wr : World) (P M base nb : Nat) (v : Value) (D0 : DataW Unit) (ls : List Lk) (v3 : Value) (left : Lit → Bool) (cnt : Nat) (D : DataW Unit) (ss : List (List UInt8)) : Prop :=
  wr.heap[P]? = some (.cells #[.pointer none, .bool false, v, .map (some M)] 35 (0, 0)) ∧ wr.ownsRow base 37 2 v ls.length (flat (lk ls)) ∧
  wr.ranges Yba.prog 9 (plainElem Yba.prog 3) M w.heap.size nb D left cnt ∧ Struck D0 ls left D ss ∧ wr.ownsRow w.heap.size 9 1 v3 ss.length (ss.map encStr) ∧ Fr w wr P M v

/-- WHAT THE CALL BEGINS WITH. -/
structure Begin (w : World) (P M base nb : Nat) (v : Value) (D0 : DataW Unit) (ls : List Lk) (h : Nat → Bool) : Prop where
  inv : Inv w P M base nb v D0 ls h
  good : Good ls
  hP : P < base
  hM : M < base
  hPM : P ≠ M
  hnb : nb ≤ 1000

theorem Begin.sz {w : World} {P M base nb : Nat} {v : Value} {D0 : DataW Unit} {ls : List Lk} {h : Nat → Bool} (b : Begin w P M base nb v D0 ls h) : base ≤ w.heap.size := b.inv.2.2.2.2

theorem Begin.rowlt {w : World} {P M base nb : Nat} {v : Value} {D0 : DataW Unit} {ls : List Lk} {h : Nat → Bool} (b : Begin w P M base nb v D0 ls h) : ∀ k, v.ownBlock = some k → base ≤ k ∧ k < w.heap.size := b.inv.2.1.lt

theorem rng_start {w w0 : World} {P M base nb : Nat} {v : Value} {D0 : DataW Unit} {ls : List Lk} {h : Nat → Bool} (b : Begin w P M base nb v D0 ls h)
    (hrg : w0.ranges Yba.prog 9 (plainElem Yba.prog 3) M w.heap.size nb D0 (has D0) (size D0)) (hg : w.grownBy w0 none) :
    Rng w w0 P M base nb v D0 ls (.slice none 0 0) (has D0) (size D0) D0 [] := by
  have hs := b.sz
  have h1 := b.hP
  exact ⟨(hg.block P (by omega) (by simp)).trans b.inv.1, b.inv.2.1.kept hg (by cases hq : v.ownBlock; exact .inl rfl; exact .inr (by simp)), hrg, Struck.start D0 ls, World.ownsRow_nil _ _ _ _, (Fr.refl w P M v).step hg (fun k hk => by cases hk)⟩

/-- The iterator's step. -/
theorem rng_step {w wr w2 : World} {P M base nb : Nat} {v v3 : Value} {D0 D : DataW Unit} {ls : List Lk} {h : Nat → Bool} {left : Lit → Bool} {cnt cnt2 : Nat} {ss : List (List UInt8)} (b : Begin w P M base nb v D0 ls h)
    (hr : Rng w wr P M base nb v D0 ls v3 left cnt D ss) (hg : wr.grownBy w2 (some w.heap.size)) :
    w2.heap[P]? = some (.cells #[.pointer none, .bool false, v, .map (some M)] 35 (0, 0)) ∧ w2.ownsRow base 37 2 v ls.length (flat (lk ls)) ∧ w2.ownsRow w.heap.size 9 1 v3 ss.length (ss.map encStr) ∧ Fr w w2 P M v := by
  obtain ⟨a1, a2, a3, a4, a5, a6⟩ := hr
  have hs := b.sz
  have h1 := b.hP
  refine ⟨(hg.block P (by have := a6.size; omega) (by simp; omega)).trans a1, a2.kept hg (.inr fun e => ?_), a5.kept hg (.inr fun e => ?_), a6.step hg (fun k hk => by cases hk; exact .inr (.inr (.inr (Nat.le_refl _))))⟩
  · have := (b.rowlt _ e).2; omega
  · exact row_ne_iter a5 a3 e.symm

theorem rng_stay {w wr w2 : World} {P M base nb : Nat} {v v3 : Value} {D0 D : DataW Unit} {ls : List Lk} {h : Nat → Bool} {left : Lit → Bool} {cnt cnt2 : Nat} {ss : List (List UInt8)} {x : List UInt8} (b : Begin w P M base nb v D0 ls h)
    (hr : Rng w wr P M base nb v D0 ls v3 left cnt D ss) (hg : wr.grownBy w2 (some w.heap.size))
    (hrg : w2.ranges Yba.prog 9 (plainElem Yba.prog 3) M w.heap.size nb D (fun z => left z && !z.sameKey (.string x)) cnt2) (hn : shB ls (.string x) = false) :
    Rng w w2 P M base nb v D0 ls v3 (fun z => left z && !z.sameKey (.string x)) cnt2 D ss := by
  obtain ⟨r1, r2, r3, r4⟩ := rng_step (cnt2 := cnt2) b hr hg
  exact ⟨r1, r2, hrg, hr.2.2.2.1.stays hn, r3, r4⟩

/-- The key that has come: a lock's. -/
theorem rng_entry {w wr : World} {P M base nb : Nat} {v v3 : Value} {D0 D : DataW Unit} {ls : List Lk} {h : Nat → Bool} {left : Lit → Bool} {cnt : Nat} {ss : List (List UInt8)} {kl : Lit} {c : Int} {y : DataW Unit × List MemPlace} (b : Begin w P M base nb v D0 ls h)
    (hr : Rng w wr P M base nb v D0 ls v3 left cnt D ss) (hv : plainElem Yba.prog 3 (.int .i64 c) = some y) (hat : ∀ zd, D.atKey kl zd = y.1) :
    has D kl = true ∧ ∃ (j : Nat) (e : Lk), ls[j]? = some e ∧ h e.1 = true ∧ kl = K e.1 ∧ c = j := by
  obtain ⟨a1, a2, a3, a4, a5, a6⟩ := hr
  have hh : has D kl = true := has_true_of_atKey hat
  have hh0 : has D0 kl = true := by have := hh; rw [a4.1 kl] at this; simp at this; exact this.1
  obtain ⟨j, e, he, hhe, rfl⟩ := (b.inv.2.2.2.1.1 kl).1 hh0
  refine ⟨hh, j, e, he, hhe, rfl, ?_⟩
  have h1 := a4.2.1 _ hh (.lit (.int .i64 0))
  rw [hat, b.inv.2.2.2.1.2.1 j e he hhe] at h1
  obtain ⟨c', hc', hy, _⟩ := plainElem_int_inv Yba.underlying3 hv
  cases hc'
  rw [hy] at h1
  simpa using h1

theorem rng_strike {w wr w2 w3 w4 : World} {P M base nb : Nat} {v v3 v3' : Value} {D0 D : DataW Unit} {ls : List Lk} {h : Nat → Bool} {left : Lit → Bool} {cnt cnt2 cnt4 : Nat} {ss : List (List UInt8)} {x : List UInt8} {o : Obj} (b : Begin w P M base nb v D0 ls h)
    (hr : Rng w wr P M base nb v D0 ls v3 left cnt D ss) (hg : wr.grownBy w2 (some w.heap.size)) (hx : has D (.string x) = true) (hl : left (.string x) = true) (hs : shB ls (.string x) = true)
    (hown : w3.ownsRow w.heap.size 9 1 v3' (ss.length + 1) (ss.map encStr ++ [encStr x])) (hg3 : (w2.alloc o).grownBy w3 v3.ownBlock)
    (hrg : w4.ranges Yba.prog 9 (plainElem Yba.prog 3) M w.heap.size nb (D.del (.string x)) (fun z => left z && !z.sameKey (.string x)) cnt4) (ht : w3.mapTurned w4 M) :
    Rng w w4 P M base nb v D0 ls v3' (fun z => left z && !z.sameKey (.string x)) cnt4 (D.del (.string x)) (ss ++ [x]) := by
  obtain ⟨r1, r2, r3, r4⟩ := rng_step (cnt2 := cnt2) b hr hg
  have hsz := b.sz
  have hP := b.hP
  have hM := b.hM
  have hg2 : w2.grownBy w3 v3.ownBlock := (World.grownBy_alloc w2 o v3.ownBlock).trans hg3
  have hg4 := ht.grown
  have hrow3 : ∀ k, v3.ownBlock = some k → w.heap.size ≤ k := fun k hk => (r3.lt k hk).1
  have hlt2 : w.heap.size ≤ w2.heap.size := r4.size
  have hlt3 : w.heap.size ≤ w3.heap.size := Nat.le_trans hlt2 hg2.size
  have bl : ∀ k, k < w.heap.size → k ≠ M → w4.heap[k]? = w2.heap[k]? := fun k hk hkM => (hg4.block k (by omega) (by simpa using hkM)).trans (hg2.block k (by omega) (fun e => by have := hrow3 k e.symm; omega))
  refine ⟨(bl P (by omega) b.hPM).trans r1, ?_, hrg, ?_, ?_, ?_⟩
  · have k1 : w3.ownsRow base 37 2 v ls.length (flat (lk ls)) := r2.kept hg2 (by
      cases hq : v.ownBlock with
      | none => exact .inl rfl
      | some g => exact .inr fun e => by have := hrow3 g e.symm; have := (b.rowlt g hq).2; omega)
    exact k1.kept hg4 (.inr fun e => by have := (b.rowlt _ e).1; omega)
  · exact hr.2.2.2.1.struck (hr.2.2.1.owns.tidy law9) hx hl hs
  · have k2 := hown.kept hg4 (.inr fun e => by have := (hown.lt _ e).1; omega)
    simpa using k2
  · exact (r4.step hg2 (fun k hk => .inr (.inr (.inr (hrow3 k hk))))).step hg4 (fun k hk => by cases hk; exact .inr (.inl rfl))

/-- THE STATE OF THE SECOND LOOP. -/
def Mov (w wr : World) (P M base nb : Nat) (v v' v3 : Value) (D : DataW Unit) (ls' : List Lk) (h : Nat → Bool) (k : Nat) (wl : List (List UInt8)) : Prop :=
  wr.heap[P]? = some (.cells #[.pointer none, .bool false, v', .map (some M)] 35 (0, 0)) ∧ wr.ownsRow base 37 2 v' ls'.length (flat (lk ls')) ∧
  wr.ownsMap Yba.prog 9 (plainElem Yba.prog 3) M (nb + k) D ∧ Kept D ls' h k ∧ wr.ownsRow w.heap.size 9 1 v3 wl.length (wl.map encStr) ∧ Fr w wr P M v

/-- From the first loop's end, through the sort, DeleteFunc and the store into p.locks, to the second loop's start. -/
theorem mov_start {w wr w1 w2 : World} {P M base nb n3 : Nat} {v v3 v' : Value} {D0 D : DataW Unit} {ls : List Lk} {h : Nat → Bool} {left : Lit → Bool} {cnt : Nat} {ss : List (List UInt8)} (b : Begin w P M base nb v D0 ls h)
    (hr : Rng w wr P M base nb v D0 ls v3 left cnt D ss) (hl : ∀ kl, left kl = false)
    (hs1 : w1.ownsRow w.heap.size 9 1 v3 ss.length ((ss.mergeSort fun x y => decide (x ≤ y)).map encStr)) (hg1 : wr.grownBy w1 v3.ownBlock)
    (hd2 : w2.ownsRow base 37 2 v' (ls.filter notSh).length (flat (lk (ls.filter notSh)))) (hg2 : w1.grownBy w2 v.ownBlock) (hv' : v'.ownBlock = v.ownBlock) :
    Mov w (w2.setCell ⟨P, 2, none⟩ v') P M base nb v v' v3 D (ls.filter notSh) h 0 (want ls h) := by
  obtain ⟨a1, a2, a3, a4, a5, a6⟩ := hr
  have hsz := b.sz
  have hP := b.hP
  have hM := b.hM
  have hPM := b.hPM
  have hr3 : ∀ k, v3.ownBlock = some k → w.heap.size ≤ k := fun k hk => (a5.lt k hk).1
  have nM3 : some M ≠ v3.ownBlock := row_ne_low a5 (by omega)
  have nP3 : some P ≠ v3.ownBlock := row_ne_low a5 (by omega)
  have nM : some M ≠ v.ownBlock := row_ne_low a2 hM
  have nP : some P ≠ v.ownBlock := row_ne_low a2 hP
  have s1 := a6.size
  have s2 := hg1.size
  have s3 := hg2.size
  have hP2 : w2.heap[P]? = some (.cells #[.pointer none, .bool false, v, .map (some M)] 35 (0, 0)) := (hg2.block P (by omega) nP).trans ((hg1.block P (by omega) nP3).trans a1)
  have hP3 := heap_setCell_same w2 P 2 _ 35 v' hP2
  have hgs : w2.grownBy (w2.setCell ⟨P, 2, none⟩ v') (some P) := ⟨rfl, rfl, rfl, by simp [World.setCell], fun k _ hk => Below.heap_setCell _ _ _ _ (fun e => hk (by simp [e]))⟩
  have hsrt := a4.sorted b.inv.2.2.2.1 b.good hl
  have hlen : ss.length = (want ls h).length := (a4.perm b.inv.2.2.2.1 b.good hl).length_eq
  rw [hsrt, hlen] at hs1
  refine ⟨by simpa using hP3, ?_, ?_, a4.done b.inv.2.2.2.1 b.good hl, ?_, ?_⟩
  · exact hd2.kept hgs (.inr fun e => nP (by rw [hv'] at e; exact e.symm))
  · exact (((a3.owns.kept hg1 nM3).kept hg2 nM).kept hgs (by simpa using Ne.symm hPM))
  · exact (hs1.kept hg2 (by
      cases hq : v3.ownBlock with
      | none => exact .inl rfl
      | some g => exact .inr fun e => by have := hr3 g hq; have := (b.rowlt g e.symm).2; omega)).kept hgs (.inr fun e => nP3 e.symm)
  · exact ((a6.step hg1 (fun k hk => .inr (.inr (.inr (hr3 k hk))))).step hg2 (fun k hk => .inr (.inr (.inl hk.symm)))).step hgs (fun k hk => by cases hk; exact .inl rfl)

theorem mov_pass {w wr : World} {P M base nb : Nat} {v v' v3 : Value} {D : DataW Unit} {ls' : List Lk} {h : Nat → Bool} {k : Nat} {wl : List (List UInt8)} {e : Lk} (hm : Mov w wr P M base nb v v' v3 D ls' h k wl) (he : ls'[k]? = some e) (hh : h e.1 = false) (hsz : P < wr.heap.size) (o : Obj) (n : Nat) :
    Mov w ((wr.alloc o).drewN n) P M base nb v v' v3 D ls' h (k + 1) wl := by
  obtain ⟨a1, a2, a3, a4, a5, a6⟩ := hm
  have hg : wr.grownBy ((wr.alloc o).drewN n) none := (World.grownBy_alloc wr o none).trans (grown_drewN _ _)
  exact ⟨(hg.block P hsz (by simp)).trans a1, a2.kept hg (by cases hq : v'.ownBlock; exact .inl rfl; exact .inr (by simp)), (a3.kept hg (by simp)).mono (by omega), a4.pass he hh, a5.kept hg (by cases hq : v3.ownBlock; exact .inl rfl; exact .inr (by simp)), a6.step hg (fun k hk => by cases hk)⟩

theorem mov_move {w wr w2 : World} {P M base nb : Nat} {v v' v3 : Value} {D : DataW Unit} {ls' : List Lk} {h : Nat → Bool} {k : Nat} {wl : List (List UInt8)} {e : Lk} (hm : Mov w wr P M base nb v v' v3 D ls' h k wl) (g : Good ls') (he : ls'[k]? = some e) (hh : h e.1 = true) (hsz : P < wr.heap.size) (hPM : P ≠ M) (hMb : M < base) (hMw : M < w.heap.size) (o : Obj) (n : Nat)
    (hown : w2.ownsMap Yba.prog 9 (plainElem Yba.prog 3) M (nb + k + 1) (D.put (K e.1) (.lit (.int .i64 k)))) (hg2 : ((wr.alloc o).drewN n).grownBy w2 (some M)) :
    Mov w w2 P M base nb v v' v3 (D.put (K e.1) (.lit (.int .i64 k))) ls' h (k + 1) wl := by
  obtain ⟨a1, a2, a3, a4, a5, a6⟩ := hm
  have hg1 : wr.grownBy ((wr.alloc o).drewN n) none := (World.grownBy_alloc wr o none).trans (grown_drewN _ _)
  have hg : wr.grownBy w2 (some M) := ⟨hg2.os.trans hg1.os, hg2.tape.trans hg1.tape, hg2.output.trans hg1.output, Nat.le_trans hg1.size hg2.size, fun i hi hn => (hg2.block i (Nat.lt_of_lt_of_le hi hg1.size) hn).trans (hg1.block i hi (by simp))⟩
  refine ⟨(hg.block P hsz (by simpa using hPM)).trans a1, a2.kept hg (.inr fun e => ?_), hown, a4.move g (a3.tidy law9) he hh, a5.kept hg (.inr fun e => ?_), a6.step hg (fun k hk => by cases hk; exact .inr (.inl rfl))⟩
  · have := (a2.lt _ e).1; omega
  · have := (a5.lt _ e).1; omega

theorem look_all {w : World} {M n : Nat} {D : DataW Unit} (hmap : w.ownsMap Yba.prog 9 (plainElem Yba.prog 3) M n D) (i : Nat) :
    ∃ cc : Int, D.atKey (K i) (.lit (.int .i64 0)) = .lit (.int .i64 cc) ∧ ∀ nq, (Instr.lookup 33 (.map (some M)) (.string ⟨(kb i).toArray⟩) true).run Yba.prog (w.drewN nq) = .ok (.tuple #[.int .i64 cc, .bool (has D (K i))]) (w.drewN nq) := by
  have key : ∀ nq, ∃ cc : Int, D.atKey (K i) (.lit (.int .i64 0)) = .lit (.int .i64 cc) ∧ (Instr.lookup 33 (.map (some M)) (.string ⟨(kb i).toArray⟩) true).run Yba.prog (w.drewN nq) = .ok (.tuple #[.int .i64 cc, .bool (has D (K i))]) (w.drewN nq) := by
    intro nq
    have hm : (w.drewN nq).ownsMap Yba.prog 9 (plainElem Yba.prog 3) M n D := hmap
    obtain ⟨v, ps, hrun, hR⟩ := hm.look_ok law9 Yba.underlying33 (zero3 _) (plainElem_int (H := Unit) Yba.underlying3 (by decide)) (keyOf_kb i)
    obtain ⟨cc, rfl, hy, _⟩ := plainElem_int_inv Yba.underlying3 hR
    exact ⟨cc, congrArg Prod.fst hy, hrun⟩
  obtain ⟨c0, h0, _⟩ := key 0
  refine ⟨c0, h0, fun nq => ?_⟩
  obtain ⟨c1, h1, h2⟩ := key nq
  rw [h0] at h1
  have e : c0 = c1 := by simpa using h1
  rw [e]; exact h2

theorem idx32 (ao : Option Addr) (n c k g : Nat) (ha : n = 0 ∨ ao = some ⟨g, 0, none⟩) (hk : k < n) (W : World) :
    (Instr.indexAt 32 (.slice ao n c) (.int .i64 k)).run Yba.prog W = .ok (.pointer (some ⟨g, k * 2, none⟩)) W := by
  rcases ha with h | rfl
  · omega
  · simp [go_sem, hk]

end Go.Proofs.Ybulkpts
