/- slices.IndexFunc, slices.DeleteFunc at the locks' struct and the closure that asks for 'shared'. -/
import Derived.Test.YbulkptsKey
import Derived.Deep.Draws
namespace Go.Proofs.Ybulkpts
open Go.RowKit
set_option linter.unusedVariables false

abbrev Lock := ByteArray × Int

/-- Block g is a row of 'cap' locks, the first n of which are as D says. -/
def Row2 (w : World) (g cap n : Nat) (D : Nat → Lock) : Prop :=
  ∃ cur : Array Value, w.heap[g]? = some (.cells cur 37 (0, 0)) ∧ cur.size = cap * 2 ∧ n ≤ cap ∧
    ∀ t, t < n → cur[t * 2]? = some (.string (D t).1) ∧ cur[t * 2 + 1]? = some (.int .u8 (D t).2)

theorem Row2.cell0 {w : World} {g cap n : Nat} {D : Nat → Lock} (h : Row2 w g cap n D) {t : Nat} (ht : t < n) : w.cell? ⟨g, t * 2, none⟩ = some (.string (D t).1) := by
  obtain ⟨cur, hb, _, _, hc⟩ := h
  simp [World.cell?, hb, (hc t ht).1]
theorem Row2.cell1 {w : World} {g cap n : Nat} {D : Nat → Lock} (h : Row2 w g cap n D) {t : Nat} (ht : t < n) : w.cell? ⟨g, t * 2 + 1, none⟩ = some (.int .u8 (D t).2) := by
  obtain ⟨cur, hb, _, _, hc⟩ := h
  simp [World.cell?, hb, (hc t ht).2]
theorem Row2.free {w : World} {g cap n : Nat} {D : Nat → Lock} (h : Row2 w g cap n D) (o : Nat) : w.frozen? ⟨g, o, none⟩ = false := by
  obtain ⟨cur, hb, _, _, hc⟩ := h
  simp [World.frozen?, hb]
theorem Row2.lt {w : World} {g cap n : Nat} {D : Nat → Lock} (h : Row2 w g cap n D) : g < w.heap.size := by
  obtain ⟨cur, hb, _⟩ := h
  exact lt_of_block hb
theorem Row2.kept {w w' : World} {g cap n : Nat} {D : Nat → Lock} (h : Row2 w g cap n D) (he : w'.heap[g]? = w.heap[g]?) : Row2 w' g cap n D := by
  obtain ⟨cur, hb, r⟩ := h
  exact ⟨cur, he.trans hb, r⟩

theorem grown_refl (w : World) : w.grownBy w none := ⟨rfl, rfl, rfl, Nat.le_refl _, fun _ _ _ => rfl⟩

set_option maxHeartbeats 400000 in
theorem index_any (g cap n : Nat) (D : Nat → Lock) (w : World) (hn : n ≤ 300) (hr : Row2 w g cap n D) :
    Calls Yba.prog 13 #[.slice (some ⟨g, 0, none⟩) n cap, .func (.func 10) #[] #[]] w fun e w' => ∃ r : Int, e = .returned (.int .i64 r) ∧
      ((r = -1 ∧ ∀ t, t < n → (D t).2 ≠ 1) ∨ ∃ k : Nat, r = k ∧ k < n ∧ (D k).2 = 1 ∧ ∀ t, t < k → (D t).2 ≠ 1) ∧ w.grownBy w' none := by
  go_enter Yba.func13, Yba.ntmps13
  go_wp2
  go_loopw [5, 8] (fun _ i wr => ∃ k : Nat, k ≤ n ∧ i = .int .i64 k ∧ (∀ t, t < k → (D t).2 ≠ 1) ∧ w.grownBy wr none) (fun _ i _ => n - (intOf i).toNat)
  case atStart => exact ⟨0, Nat.zero_le _, rfl, fun t ht => absurd ht (Nat.not_lt_zero _), grown_refl w⟩
  case round =>
    obtain ⟨k, hk, rfl, hno, hgr⟩ := hrel
    have HN : Hid (∀ t, t < k → (D t).2 ≠ 1) := hno
    clear hno
    by_cases hlt : k < n
    · have hr' := hr.kept (hgr.block g hr.lt (by simp))
      have c0 := hr'.cell0 hlt
      have c1 := hr'.cell1 hlt
      clear hr'
      have hg2 : w.grownBy (wr.alloc (.cells #[.string (D k).1, .int .u8 (D k).2] 37)) none := hgr.trans (World.grownBy_alloc _ _ _)
      cases hq : ((D k).2 == 1)
      · have H2 : Hid ((D k).2 ≠ 1) := (by simpa using hq : (D k).2 ≠ 1)
        go_wp2_with (go_at_call 10; refine (shared_any _ _ _).mono ?_; rintro e w' ⟨rfl, rfl⟩)
        go_roundw
        case rel =>
          refine ⟨k + 1, by omega, by go_num, fun t ht => ?_, hg2⟩
          by_cases e : t = k
          · subst e; exact H2.out
          · exact HN.out t (by omega)
        case measure => simp [intOf]; omega
      · have H2 : Hid ((D k).2 = 1) := (by simpa using hq : (D k).2 = 1)
        go_wp2_with (go_at_call 10; refine (shared_any _ _ _).mono ?_; rintro e w' ⟨rfl, rfl⟩)
        go_ret
        exact ⟨k, rfl, .inr ⟨k, rfl, hlt, H2.out, HN.out⟩, hg2⟩
    · go_wp2
      go_ret
      exact ⟨-1, rfl, .inl ⟨rfl, fun t ht => HN.out t (by omega)⟩, hgr⟩

set_option maxHeartbeats 400000 in
theorem index_nil (w : World) :
    Calls Yba.prog 13 #[.slice none 0 0, .func (.func 10) #[] #[]] w fun e w' => e = .returned (.int .i64 (-1)) ∧ w' = w := by
  go_enter Yba.func13, Yba.ntmps13
  go_wp2
  refine wp_loop_rounds 1 ?_
  rw [rounds_succ]
  go_wp2
  go_ret
  exact ⟨rfl, rfl⟩
end Go.Proofs.Ybulkpts
