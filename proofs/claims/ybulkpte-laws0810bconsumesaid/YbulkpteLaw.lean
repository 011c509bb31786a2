/- The walk of 'prog.LawS0810BConsume'. -/
import Derived.Test.YbulkpteWalks
namespace Go.Proofs.Ybulkpte
open Go.RowKit
set_option linter.unusedVariables false

theorem consume_yes (t p : ByteArray) (q : Nat) (b : Nat) (w : World) (ht : t.size ≤ 4096) (hp : p.size ≤ 8192) (hq : q ≤ t.size)
    (c0 : w.cell? ⟨b, 0, none⟩ = some (.string t)) (c1 : w.cell? ⟨b, 1, none⟩ = some (.int .i64 q)) (f1 : w.frozen? ⟨b, 1, none⟩ = false) (hs : stB (t.extract q t.size) p = true) :
    Calls Yba.prog 4 #[.pointer (some ⟨b, 0, none⟩), .string p] w fun e w' => e = .returned (.bool true) ∧ w' = (w.setCell ⟨b, 1, none⟩ (.int .i64 (q + p.size))).drew :=
  (consume_any t p q b w ht hp hq c0 c1 f1).mono fun e w' ⟨h1, h2⟩ => by rw [hs] at h1 h2; exact ⟨h1, by simpa using h2⟩

theorem consume_no (t p : ByteArray) (q : Nat) (b : Nat) (w : World) (ht : t.size ≤ 4096) (hp : p.size ≤ 8192) (hq : q ≤ t.size)
    (c0 : w.cell? ⟨b, 0, none⟩ = some (.string t)) (c1 : w.cell? ⟨b, 1, none⟩ = some (.int .i64 q)) (f1 : w.frozen? ⟨b, 1, none⟩ = false) (hs : stB (t.extract q t.size) p = false) :
    Calls Yba.prog 4 #[.pointer (some ⟨b, 0, none⟩), .string p] w fun e w' => e = .returned (.bool false) ∧ w' = w.drew :=
  (consume_any t p q b w ht hp hq c0 c1 f1).mono fun e w' ⟨h1, h2⟩ => by rw [hs] at h1 h2; exact ⟨h1, by simpa using h2⟩

theorem starts_as (r p : ByteArray) (w : World) (v : Bool) (hr : r.size ≤ maxLen) (hp : p.size ≤ maxLen) (hs : stB r p = v) :
    Calls Yba.prog 5 #[.string r, .string p] w fun e w' => e = .returned (.bool v) ∧ ∃ n, w' = w.drewN n := by
  subst hs; exact starts_any r p w hr hp

theorem Grown_drewN {W w' : World} (h : Grown W w') (n : Nat) : Grown W (w'.drewN n) := h

/-- The three tests of the switch. -/
def Mode (a3 : Int) (m : Nat) : Prop := a3 % 3 = m

set_option maxHeartbeats 1000000 in
theorem law_main (a0 : ByteArray) (a1 a2 a3 : Int) (a4 : ByteArray) (w : World) (h0 : a0.size ≤ 4096) (h4 : a4.size ≤ 4096)
    (b1 : 0 ≤ a1) (b2 : 0 ≤ a2) (b3 : 0 ≤ a3) (b3' : a3 ≤ 255) (p q : Nat) (hp : a1 % (a0.size + 1 : Int) = p) (hpl : p ≤ a0.size)
    (hq : a2 % ((a0.size - p : Nat) + 1 : Int) = q) (hql : q ≤ a0.size - p) :
    Calls Yba.prog 3 #[.string a0, .int .u64 a1, .int .u64 a2, .int .u8 a3, .string a4] w fun e w' => e = .returned (.bool true) ∧ Grown w w' := by
  have hc0 : ∀ X : World, (X.alloc (.cells #[.string a0, .int .i64 p] 25)).cell? ⟨X.heap.size, 0, none⟩ = some (.string a0) := fun X => by simp
  have hc1 : ∀ X : World, (X.alloc (.cells #[.string a0, .int .i64 p] 25)).cell? ⟨X.heap.size, 1, none⟩ = some (.int .i64 p) := fun X => by simp
  have hf1 : ∀ X : World, (X.alloc (.cells #[.string a0, .int .i64 p] 25)).frozen? ⟨X.heap.size, 1, none⟩ = false := fun X => by simp
  have hm : a3 % 3 = 0 ∨ a3 % 3 = 1 ∨ a3 % 3 = 2 := by omega
  rcases hm with hm | hm | hm
  · cases hs : stB (a0.extract p a0.size) ((a0.extract p a0.size).extract 0 q)
    · go_enter Yba.func3, Yba.ntmps3
      go_wp2_with fail
      refine (consume_no a0 _ p _ _ h0 (by first | omega | (simp; omega)) hpl (hc0 _) (hc1 _) (hf1 _) hs).mono ?_
      rintro e w' ⟨rfl, rfl⟩
      go_wp2_with fail
      refine (starts_as _ _ _ false (by unfold maxLen; simp; omega) (by unfold maxLen; simp; omega) hs).mono ?_
      rintro e w' ⟨rfl, n, rfl⟩
      go_wp2
      go_ret
      exact ⟨by simp, Grown_drewN ((Grown.refl _).alloc _ _) _⟩
    · go_enter Yba.func3, Yba.ntmps3
      go_wp2_with fail
      refine (consume_yes a0 _ p _ _ h0 (by first | omega | (simp; omega)) hpl (hc0 _) (hc1 _) (hf1 _) hs).mono ?_
      rintro e w' ⟨rfl, rfl⟩
      go_wp2_with fail
      refine (starts_as _ _ _ true (by unfold maxLen; simp; omega) (by unfold maxLen; simp; omega) hs).mono ?_
      rintro e w' ⟨rfl, n, rfl⟩
      go_wp2
      go_ret
      exact ⟨by simp, Grown_drewN ((Grown.refl _).alloc _ _) _⟩
  · cases hs : stB (a0.extract p a0.size) a4
    · go_enter Yba.func3, Yba.ntmps3
      go_wp2_with fail
      refine (consume_no a0 _ p _ _ h0 (by first | omega | (simp; omega)) hpl (hc0 _) (hc1 _) (hf1 _) hs).mono ?_
      rintro e w' ⟨rfl, rfl⟩
      go_wp2_with fail
      refine (starts_as _ _ _ false (by unfold maxLen; simp; omega) (by unfold maxLen; simp; omega) hs).mono ?_
      rintro e w' ⟨rfl, n, rfl⟩
      go_wp2
      go_ret
      exact ⟨by simp, Grown_drewN ((Grown.refl _).alloc _ _) _⟩
    · go_enter Yba.func3, Yba.ntmps3
      go_wp2_with fail
      refine (consume_yes a0 _ p _ _ h0 (by first | omega | (simp; omega)) hpl (hc0 _) (hc1 _) (hf1 _) hs).mono ?_
      rintro e w' ⟨rfl, rfl⟩
      go_wp2_with fail
      refine (starts_as _ _ _ true (by unfold maxLen; simp; omega) (by unfold maxLen; simp; omega) hs).mono ?_
      rintro e w' ⟨rfl, n, rfl⟩
      go_wp2
      go_ret
      exact ⟨by simp, Grown_drewN ((Grown.refl _).alloc _ _) _⟩
  · cases hs : stB (a0.extract p a0.size) ((a0.extract p a0.size).extract 0 q ++ a4)
    · go_enter Yba.func3, Yba.ntmps3
      go_wp2_with fail
      refine (consume_no a0 _ p _ _ h0 (by first | omega | (simp; omega)) hpl (hc0 _) (hc1 _) (hf1 _) hs).mono ?_
      rintro e w' ⟨rfl, rfl⟩
      go_wp2_with fail
      refine (starts_as _ _ _ false (by unfold maxLen; simp; omega) (by unfold maxLen; simp; omega) hs).mono ?_
      rintro e w' ⟨rfl, n, rfl⟩
      go_wp2
      go_ret
      exact ⟨by simp, Grown_drewN ((Grown.refl _).alloc _ _) _⟩
    · go_enter Yba.func3, Yba.ntmps3
      go_wp2_with fail
      refine (consume_yes a0 _ p _ _ h0 (by first | omega | (simp; omega)) hpl (hc0 _) (hc1 _) (hf1 _) hs).mono ?_
      rintro e w' ⟨rfl, rfl⟩
      go_wp2_with fail
      refine (starts_as _ _ _ true (by unfold maxLen; simp; omega) (by unfold maxLen; simp; omega) hs).mono ?_
      rintro e w' ⟨rfl, n, rfl⟩
      go_wp2
      go_ret
      exact ⟨by simp, Grown_drewN ((Grown.refl _).alloc _ _) _⟩
end Go.Proofs.Ybulkpte
