/- zzs0811abuild: the walk. -/
import Derived.Test.YbulkptsHeld
import Derived.Test.YbulkptsDel3
import Derived.Maps.OwnSet
import Derived.Deep.RegionLaw
import Derived.Deep.CutRange
import Derived.Deep.LoopGhost
import Derived.Deep.AppendLies
namespace Go.Proofs.Ybulkpts
open Go.RowKit Go.Maps
set_option linter.unusedVariables false

theorem law9 : Keyed Yba.prog 9 := string_keyed Yba.underlying9
theorem zero3 (w : World) : (zeroValue 3).run Yba.prog w = .ok (.int .i64 0) w := by kernel_rfl
theorem info37 : (Yba.prog.info? 37).map (fun i => (i.zero, i.size, i.bytes)) = some (some (.agg #[.string ⟨#[]⟩, .int .u8 0]), 2, 24) := by kernel_rfl

/-- The locks with their keys' bytes. -/
def lk (ls : List Lk) : List Lock := ls.map fun e => (⟨(kb e.1).toArray⟩, e.2)

theorem lk_length (ls : List Lk) : (lk ls).length = ls.length := by simp [lk]
theorem flat_snoc (ls : List Lk) (k : Nat) (m : Int) : flat (lk (ls ++ [(k, m)])) = flat (lk ls) ++ [.string ⟨(kb k).toArray⟩, .int .u8 m] := by simp [flat, lk]
theorem keyOf_kb (i : Nat) : keyOf Yba.prog 9 (.string ⟨(kb i).toArray⟩) = some (K i) := WideMaps.keyOf_string_mk Yba.underlying9 (by rw [kb_size]; unfold maxLen; omega)

theorem idx22 (a0 : Option Addr) (len cap k b o : Nat) (ha : len = 0 ∨ a0 = some ⟨b, o, none⟩) (hk : k < len) (W : World) :
    (Instr.indexAt 22 (.slice a0 len cap) (.int .i64 k)).run Yba.prog W = .ok (.pointer (some ⟨b, o + k, none⟩)) W := by
  rcases ha with h | rfl
  · omega
  · simp [go_sem, hk]
theorem idx23 (a0 : Option Addr) (len cap k b o : Nat) (ha : len = 0 ∨ a0 = some ⟨b, o, none⟩) (hk : k < len) (W : World) :
    (Instr.indexAt 23 (.slice a0 len cap) (.int .i64 k)).run Yba.prog W = .ok (.pointer (some ⟨b, o + k, none⟩)) W := by
  rcases ha with h | rfl
  · omega
  · simp [go_sem, hk]

/-- THE STRUCT p AND ALL THAT IT LEADS TO. -/
def Inv (w : World) (P M base nb : Nat) (v : Value) (D : DataW Unit) (ls : List Lk) (h : Nat → Bool) : Prop :=
  w.heap[P]? = some (.cells #[.pointer none, .bool false, v, .map (some M)] 35 (0, 0)) ∧
  w.ownsRow base 37 2 v ls.length (flat (lk ls)) ∧ w.ownsMap Yba.prog 9 (plainElem Yba.prog 3) M nb D ∧ Held D ls h ∧ base ≤ w.heap.size

/-- The locks that build makes of the first k modes. -/
def made (z : Nat → Int) (k : Nat) : List Lk := (List.range k).map fun i => (i, z i % 4)

theorem made_succ (z : Nat → Int) (k : Nat) : made z (k + 1) = made z k ++ [(k, z k % 4)] := by simp [made, List.range_succ]
theorem made_length (z : Nat → Int) (k : Nat) : (made z k).length = k := by simp [made]

/-- What is known of 'notHeld': nil or empty; or its cells. -/
def heldOf (len1 : Nat) (nh : Nat → Bool) (i : Nat) : Bool := !(decide (i < len1) && nh i)

/-- Behind the append of lock number k: the locks are k + 1, the map is as it was. -/
def Mid (w wc : World) (z : Nat → Int) (k : Nat) (D : DataW Unit) : Prop :=
  ∃ v, wc.heap[w.heap.size + 1]? = some (.cells #[.pointer none, .bool false, v, .map (some w.heap.size)] 35 (0, 0)) ∧
    wc.ownsRow (w.heap.size + 2) 37 2 v (k + 1) (flat (lk (made z (k + 1)))) ∧ wc.ownsMap Yba.prog 9 (plainElem Yba.prog 3) w.heap.size k D ∧ w.heap.size + 2 ≤ wc.heap.size ∧ Below w.heap.size w wc

theorem mid_of {w W w1 : World} {z : Nat → Int} {k gg cap : Nat} {D : DataW Unit} {v : Value} {o : Obj} (hz : 0 ≤ z k)
    (hP : W.heap[w.heap.size + 1]? = some (.cells #[.pointer none, .bool false, v, .map (some w.heap.size)] 35 (0, 0)))
    (hrow : W.ownsRow (w.heap.size + 2) 37 2 v k (flat (lk (made z k)))) (hmap : W.ownsMap Yba.prog 9 (plainElem Yba.prog 3) w.heap.size k D) (hsz : w.heap.size + 2 ≤ W.heap.size) (hbel : Below w.heap.size w W)
    (hown1 : w1.ownsRow (w.heap.size + 2) 37 2 (.slice (some ⟨gg, 0, none⟩) (k + 1) cap) (k + 1) (flat (lk (made z k)) ++ [.string ⟨(kb k).toArray⟩, .int .u8 ((z k).tmod 4)]))
    (hgrow : (W.alloc o).drew.grownBy w1 v.ownBlock) : Mid w (w1.setCell ⟨w.heap.size + 1, 2, none⟩ (.slice (some ⟨gg, 0, none⟩) (k + 1) cap)) z k D := by
  have hg : W.grownBy w1 v.ownBlock := (World.grownBy_alloc W o v.ownBlock).trans ⟨hgrow.os, hgrow.tape, hgrow.output, hgrow.size, hgrow.block⟩
  have low : ∀ j, j < w.heap.size + 2 → some j ≠ v.ownBlock := fun j hj e => by have := (hrow.lt j e.symm).1; omega
  have hP1 : w1.heap[w.heap.size + 1]? = some (.cells #[.pointer none, .bool false, v, .map (some w.heap.size)] 35 (0, 0)) := (hg.block _ (by omega) (low _ (by omega))).trans hP
  have h2 := heap_setCell_same w1 (w.heap.size + 1) 2 _ 35 (.slice (some ⟨gg, 0, none⟩) (k + 1) cap) hP1
  refine ⟨.slice (some ⟨gg, 0, none⟩) (k + 1) cap, by simpa using h2, ?_, (hmap.kept hg (low _ (by omega))).setCell (by simp) _, ?_, ?_⟩
  · rw [made_succ, flat_snoc, ← Int.tmod_eq_emod_of_nonneg hz]
    exact ownsRow_setCell_below hown1 (by simp) _
  · have := hg.size; simp [World.setCell]; omega
  · exact (hbel.grown hg hbel.size (fun j hj => by have := (hrow.lt j hj).1; omega)).setCell (by simp) _

theorem inv_skip {w wc : World} {z : Nat → Int} {k : Nat} {D : DataW Unit} {h : Nat → Bool} (hm : Mid w wc z k D) (hd : Held D (made z k) h) (hh : h k = false) :
    ∃ v D, Inv wc (w.heap.size + 1) w.heap.size (w.heap.size + 2) (k + 1) v D (made z (k + 1)) h := by
  obtain ⟨v, h1, h2, h3, h4, h5⟩ := hm
  exact ⟨v, D, h1, by rw [made_length]; exact h2, h3.mono (by omega), by rw [made_succ]; exact hd.skip k _ hh, h4⟩

theorem inv_push {w wc w2 : World} {z : Nat → Int} {k : Nat} {D : DataW Unit} {h : Nat → Bool} (hm : Mid w wc z k D) (hd : Held D (made z k) h) (hk : k < 676) (hh : h k = true)
    (hown : w2.ownsMap Yba.prog 9 (plainElem Yba.prog 3) w.heap.size (k + 1) (D.put (K k) (.lit (.int .i64 k)))) (hg : wc.grownBy w2 (some w.heap.size)) :
    (∃ v D, Inv w2 (w.heap.size + 1) w.heap.size (w.heap.size + 2) (k + 1) v D (made z (k + 1)) h) ∧ Below w.heap.size w w2 := by
  obtain ⟨v, h1, h2, h3, h4, h5⟩ := hm
  refine ⟨⟨v, _, (hg.block _ (by omega) (by simp)).trans h1, by rw [made_length]; exact h2.kept hg (.inr fun e => by have := (h2.lt _ e).1; omega), hown, ?_, Nat.le_trans h4 hg.size⟩, h5.grown hg h5.size (fun j hj => by cases hj; exact Nat.le_refl _)⟩
  · rw [made_succ]
    exact hd.push (h3.tidy law9) k _ hk (made_length z k) (fun e he => by simp [made] at he; obtain ⟨i, hi, rfl⟩ := he; exact hi) hh

set_option maxHeartbeats 2000000 in
set_option maxRecDepth 100000 in
theorem build_any (a0 a1 : Option Addr) (len0 cap0 len1 cap1 b0 o0 b1 o1 : Nat) (z : Nat → Int) (nh : Nat → Bool) (w : World) (hl : len0 ≤ 300) (hl1 : len1 ≤ maxLen)
    (ha0 : len0 = 0 ∨ a0 = some ⟨b0, o0, none⟩) (ha1 : len1 = 0 ∨ a1 = some ⟨b1, o1, none⟩) (hb0 : 0 < len0 → b0 < w.heap.size) (hb1 : 0 < len1 → b1 < w.heap.size)
    (c0 : ∀ i, i < len0 → w.cell? ⟨b0, o0 + i, none⟩ = some (.int .u8 (z i))) (hz : ∀ i, 0 ≤ z i ∧ z i ≤ 255) (c1 : ∀ i, i < len1 → w.cell? ⟨b1, o1 + i, none⟩ = some (.bool (nh i))) :
    Calls Yba.prog 5 #[.slice a0 len0 cap0, .slice a1 len1 cap1] w fun e w' => e = .returned (.pointer (some ⟨w.heap.size + 1, 0, none⟩)) ∧
      ∃ v D, Inv w' (w.heap.size + 1) w.heap.size (w.heap.size + 2) 300 v D (made z len0) (heldOf len1 nh) ∧ Below w.heap.size w w' := by
  obtain ⟨i0, hi, hz0, hz1, hz2⟩ := info_parts info37
  have hmm := @run_makeMap Yba.prog
  unfold maxLen at hl1
  go_enter Yba.func5, Yba.ntmps5
  go_wp2
  go_loopg [6, 7] len0 (fun gg i _ wr => ∃ (k : Nat) (v : Value) (D : DataW Unit), k ≤ len0 ∧ len0 - k ≤ gg ∧ i = .int .i64 k ∧ Inv wr (w.heap.size + 1) w.heap.size (w.heap.size + 2) k v D (made z k) (heldOf len1 nh) ∧ Below w.heap.size w wr)
  case atStart =>
    refine ⟨0, .slice none 0 0, .map [], Nat.zero_le _, Nat.le_refl _, rfl, ⟨?_, World.ownsRow_nil _ _ _ _, ?_, Held.start _, by simp⟩, ?_⟩
    · have := heap_alloc_new (w.alloc (.map #[] 0)) (.cells #[.pointer none, .bool false, .slice none 0 0, .map (some w.heap.size)] 35)
      simpa using this
    · exact (World.ownsMap_made w _ _ _).alloc _
    · exact ((Below.refl _ _).alloc (Nat.le_refl _) _).alloc (by simp) _
  case round =>
    obtain ⟨k, v, D, hk, hgg, rfl, ⟨hP, hrow, hmap, hheld, hsz⟩, hbel⟩ := hrel
    by_cases hlt : k < len0
    · have hix := idx22 a0 len0 cap0 k b0 o0 ha0 hlt
      go_wp2_with (go_at_call 7; refine (key_any k _ (by omega)).mono ?_; rintro e w1 ⟨rfl, o, rfl⟩)
      have hP1 : (wr.alloc o).heap[w.heap.size + 1]? = some (.cells #[.pointer none, .bool false, v, .map (some w.heap.size)] 35 (0, 0)) := (Below.heap_alloc _ _ _ (lt_of_block hP)).trans hP
      have hrow1 := hrow.alloc o
      have hmap1 := hmap.alloc o
      have hbel1 : Below w.heap.size w (wr.alloc o) := hbel.alloc hbel.size o
      have hsz1 : w.heap.size + 2 ≤ (wr.alloc o).heap.size := by simp; omega
      clear hP hrow hmap hbel hsz
      generalize wr.alloc o = W at *
      rw [made_length] at hrow1
      have HH : Hid (Held D (made z k) (heldOf len1 nh)) := hheld
      clear hheld
      go_cut [] from 11 to 51 (fun wc => Mid w wc z k D)
      case first =>
        have e0 : W.cell? ⟨b0, o0 + k, none⟩ = some (.int .u8 (z k)) := (hbel1.cell (hb0 (by omega))).trans (c0 k hlt)
        have p2 : W.cell? ⟨w.heap.size + 1, 2, none⟩ = some v := by simp [World.cell?, hP1]
        have pf : W.frozen? ⟨w.heap.size + 1, 2, none⟩ = false := by simp [World.frozen?, hP1]
        have aP : v.ownBlock ≠ some (w.heap.size + 1) := fun e => by have := (hrow1.lt _ e).1; omega
        have hk300 : k + 1 ≤ maxLen := by unfold maxLen; omega
        have lP : w.heap.size + 1 < W.heap.size := by omega
        have l0 : b0 < W.heap.size := by have := hb0 (by omega); omega
        have HQ : Hid (0 ≤ z k ∧ W.heap[w.heap.size + 1]? = some (.cells #[.pointer none, .bool false, v, .map (some w.heap.size)] 35 (0, 0)) ∧ W.ownsMap Yba.prog 9 (plainElem Yba.prog 3) w.heap.size k D ∧ Below w.heap.size w W) := ⟨(hz k).1, hP1, hmap1, hbel1⟩
        clear hmap1 hbel1 hP1 c1 c0 hz hmm
        go_region_law ((refine step_append_lies _ rfl (.tmp 23) (.tmp 31) 32 rfl (w.heap.size + 2) 37 i0 _ 2 24 Yba.underlying32 hi hz0 hz1 hz2 rfl (by omega) v k _ (by simp [Act.eval]) ((hrow1.alloc _).drew) ⟨W.heap.size, 0, none⟩ 1 1 [.string ⟨(kb k).toArray⟩, .int .u8 ((z k).tmod 4)] (by simp [Act.eval]) (by rfl) (World.news_of_block (cs := #[.string ⟨(kb k).toArray⟩, .int .u8 ((z k).tmod 4)]) (t := 37) (fr := (0, 0)) (heap_alloc_new W _)) (by simp [Value.oneCell']) (by omega) hk300 (by omega) (by simp; omega) (W.heap.size + 1) (by simp) ?_; intro gg cap w1 hown1 hgrow hat hltg; have q2 := (hgrow.cell_far ⟨w.heap.size + 1, 2, none⟩ (by simp; omega) (Ne.symm aP)).trans ((World.cell?_alloc_past _ _ _ lP).trans p2); have qf := (hgrow.frozen_far ⟨w.heap.size + 1, 2, none⟩ (by simp; omega) (Ne.symm aP)).trans ((World.frozen?_alloc_past _ _ _ lP).trans pf)))
        all_goals (go_wp2_with fail; go_meet)
        all_goals exact mid_of HQ.out.1 HQ.out.2.1 hrow1 HQ.out.2.2.1 hsz1 HQ.out.2.2.2 hown1 hgrow
      case rest =>
        have hcut2 := hcut
        obtain ⟨v2, hP2, hrow2, hmap2, hsz2, hbel2⟩ := hcut2
        have p3 : wc.cell? ⟨w.heap.size + 1, 3, none⟩ = some (.map (some w.heap.size)) := by simp [World.cell?, hP2]
        have HC : Hid (Mid w wc z k D ∧ Below w.heap.size w wc) := ⟨hcut, hbel2⟩
        have hwf : (Lit.int .i64 (k : Int)).wf = true := WalkArith.wf_i64 (by omega)
        by_cases h1 : k < len1
        · have hix1 := idx23 a1 len1 cap1 k b1 o1 ha1 h1
          have e1 : wc.cell? ⟨b1, o1 + k, none⟩ = some (.bool (nh k)) := (hbel2.cell (hb1 (by omega))).trans (c1 k h1)
          clear hcut hP2 hrow2 hsz2 hbel2 hP1 hrow1 hmap1 hbel1 hsz1 c0 c1 hz hmm
          cases hq : nh k
          · have HN : Hid (heldOf len1 nh k = true) := by show heldOf len1 nh k = true; simp [heldOf, hq]
            rw [hq] at e1
            clear hq
            go_wp2_with (at_mapUpdate; refine wpList_mapUpdate_own _ rfl _ _ _ 33 rfl 9 3 law9 Yba.underlying33 _ w.heap.size k _ rfl hmap2 (by unfold maxLen; omega) _ _ _ rfl rfl (keyOf_kb k) _ [] (plainElem_int Yba.underlying3 hwf) ?_; intro w2 hown2 hgrow2)
            obtain ⟨⟨v3, D3, r1⟩, r2⟩ := inv_push HC.out.1 HH.out (by omega) HN.out hown2 hgrow2
            go_roundg (len0 - (k + 1))
            case measure => omega
            case rel => exact ⟨k + 1, v3, D3, by omega, Nat.le_refl _, by go_num, r1, r2⟩
          · have HN : Hid (heldOf len1 nh k = false) := by show heldOf len1 nh k = false; simp [heldOf, hq, h1]
            rw [hq] at e1
            clear hq
            go_wp2
            obtain ⟨v3, D3, r1⟩ := inv_skip HC.out.1 HH.out HN.out
            go_roundg (len0 - (k + 1))
            case measure => omega
            case rel => exact ⟨k + 1, v3, D3, by omega, Nat.le_refl _, by go_num, r1, HC.out.2⟩
        · have HN : Hid (heldOf len1 nh k = true) := by show heldOf len1 nh k = true; simp [heldOf, h1]
          clear hcut hP2 hrow2 hsz2 hbel2 hP1 hrow1 hmap1 hbel1 hsz1 c0 c1 hz hmm
          go_wp2_with (at_mapUpdate; refine wpList_mapUpdate_own _ rfl _ _ _ 33 rfl 9 3 law9 Yba.underlying33 _ w.heap.size k _ rfl hmap2 (by unfold maxLen; omega) _ _ _ rfl rfl (keyOf_kb k) _ [] (plainElem_int Yba.underlying3 hwf) ?_; intro w2 hown2 hgrow2)
          obtain ⟨⟨v3, D3, r1⟩, r2⟩ := inv_push HC.out.1 HH.out (by omega) HN.out hown2 hgrow2
          go_roundg (len0 - (k + 1))
          case measure => omega
          case rel => exact ⟨k + 1, v3, D3, by omega, Nat.le_refl _, by go_num, r1, r2⟩
    · obtain rfl : k = len0 := by omega
      go_wp2
      go_ret
      exact ⟨rfl, v, D, ⟨hP, hrow, hmap.mono hl, hheld, hsz⟩, hbel⟩
end Go.Proofs.Ybulkpts
