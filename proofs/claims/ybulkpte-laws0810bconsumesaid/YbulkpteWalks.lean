/- The walks of the callees of 'prog.LawS0810BConsume'. -/
import Derived.Test.YbulkpteRows
import Derived.WalkKit
import Derived.WalkSpells
import Derived.Deep.Draws
namespace Go.Proofs.Ybulkpte
open Go.RowKit
set_option linter.unusedVariables false

/-- r begins with p. -/
def stB (r p : ByteArray) : Bool := decide (p.size ≤ r.size) && (r.extract 0 p.size).toList == p.toList

theorem stB_false_of_lt {r p : ByteArray} (h : r.size < p.size) : stB r p = false := by
  unfold stB; simp; intro h'; omega

theorem toList_inj {a b : ByteArray} (h : a.toList = b.toList) : a = b := by
  rw [ByteArray.toList_eq, ByteArray.toList_eq] at h
  obtain ⟨⟨x⟩⟩ := a
  obtain ⟨⟨y⟩⟩ := b
  simp at h
  rw [h]

theorem stB_true {r p : ByteArray} (h : p.size ≤ r.size) (hj : ∀ j (h1 : j < r.size) (h2 : j < p.size), r[j] = p[j]) : stB r p = true := by
  have e : r.extract 0 p.size = p := by
    apply ByteArray.ext_getElem
    · simp; omega
    · intro i hi hi'
      rw [ByteArray.getElem_extract]
      simp only [Nat.zero_add]
      exact hj i (by omega) hi'
  simp [stB, h, e]

theorem stB_false {r p : ByteArray} {k : Nat} (h1 : k < r.size) (h2 : k < p.size) (h : r[k] ≠ p[k]) : stB r p = false := by
  unfold stB
  rw [Bool.and_eq_false_iff]
  by_cases hle : p.size ≤ r.size
  · right
    rw [beq_eq_false_iff_ne]
    intro he
    have e := toList_inj he
    apply h
    have : (r.extract 0 p.size)[k]'(by rw [e]; exact h2) = p[k] := by simp only [e]
    rw [ByteArray.getElem_extract] at this
    simpa using this
  · left; simpa using hle

theorem neq_of_walk {a b : UInt8} (h : ((a.toNat : Int) != (b.toNat : Int)) = true) : a ≠ b := by
  intro e; subst e; simp at h

theorem eq_of_walk {a b : UInt8} (h : ((a.toNat : Int) != (b.toNat : Int)) = false) : a = b := by
  simp at h
  exact UInt8.toNat_inj.1 (by omega)

set_option maxHeartbeats 400000 in
theorem hasPrefix_any (r p : ByteArray) (w : World) (hr : r.size ≤ maxLen) (hp : p.size ≤ maxLen) :
    Calls Yba.prog 6 #[.string r, .string p] w fun e w' => e = .returned (.bool (stB r p)) ∧ w' = w := by
  unfold maxLen at hr hp
  by_cases hlt : r.size < p.size
  · have hf := stB_false_of_lt hlt
    have HF : Hid (stB r p = false) := hf
    clear hf
    go_enter Yba.func6, Yba.ntmps6
    go_wp2
    go_ret
    exact ⟨by rw [HF.out]; rfl, rfl⟩
  · have hle : p.size ≤ r.size := by omega
    go_enter Yba.func6, Yba.ntmps6
    go_wp2
    go_ret
    exact ⟨by simp [stB, hle], rfl⟩

set_option maxHeartbeats 400000 in
theorem starts_any (r p : ByteArray) (w : World) (hr : r.size ≤ maxLen) (hp : p.size ≤ maxLen) :
    Calls Yba.prog 5 #[.string r, .string p] w fun e w' => e = .returned (.bool (stB r p)) ∧ ∃ n, w' = w.drewN n := by
  unfold maxLen at hr hp
  by_cases hlt : r.size < p.size
  · have hf := stB_false_of_lt hlt
    have HF : Hid (stB r p = false) := hf
    clear hf
    go_enter Yba.func5, Yba.ntmps5
    go_wp2
    go_ret
    exact ⟨by rw [HF.out]; rfl, 0, rfl⟩
  · go_enter Yba.func5, Yba.ntmps5
    go_wp2
    go_loopw [5] (fun i wr => ∃ k n : Nat, k ≤ p.size ∧ i = .int .i64 k ∧ wr = w.drewN n ∧ ∀ j (h1 : j < r.size) (h2 : j < p.size), j < k → r[j] = p[j]) (fun i _ => p.size - (intOf i).toNat)
    case atStart => exact ⟨0, 0, Nat.zero_le _, rfl, rfl, by omega⟩
    case round =>
      obtain ⟨k, n, hk, rfl, rfl, hag⟩ := hrel
      have HAG : Hid (∀ j (h1 : j < r.size) (h2 : j < p.size), j < k → r[j] = p[j]) := hag
      clear hag
      by_cases hkl : k < p.size
      · have hkr : k < r.size := by omega
        go_wp2
        go_region
        all_goals go_wp2
        · have hne : r[k] ≠ p[k] := neq_of_walk (by assumption)
          have hf : stB r p = false := stB_false hkr hkl hne
          go_ret
          exact ⟨by rw [hf]; rfl, n + 1, rfl⟩
        · have heq : r[k] = p[k] := eq_of_walk (by assumption)
          go_roundw
          case rel =>
            refine ⟨k + 1, n + 1, by omega, by go_num, rfl, ?_⟩
            intro j h1 h2 hj
            by_cases hjk : j = k
            · subst hjk; exact heq
            · exact HAG.out j h1 h2 (by omega)
          case measure => simp [intOf]; omega
      · go_wp2
        have ht : stB r p = true := stB_true (by omega) (fun j h1 h2 => HAG.out j h1 h2 (by omega))
        go_ret
        exact ⟨by rw [ht]; rfl, n, rfl⟩

set_option maxHeartbeats 400000 in
theorem rest_any (t : ByteArray) (q : Nat) (b : Nat) (w : World) (ht : t.size ≤ maxLen) (hq : q ≤ t.size)
    (c0 : w.cell? ⟨b, 0, none⟩ = some (.string t)) (c1 : w.cell? ⟨b, 1, none⟩ = some (.int .i64 q)) :
    Calls Yba.prog 7 #[.pointer (some ⟨b, 0, none⟩)] w fun e w' => e = .returned (.string (t.extract q t.size)) ∧ w' = w.drew := by
  unfold maxLen at ht
  go_enter Yba.func7, Yba.ntmps7
  go_wp2
  go_region
  all_goals go_wp2
  all_goals go_ret
  all_goals exact ⟨rfl, rfl⟩

set_option maxHeartbeats 400000 in
theorem consume_any (t p : ByteArray) (q : Nat) (b : Nat) (w : World) (ht : t.size ≤ 4096) (hp : p.size ≤ 8192) (hq : q ≤ t.size)
    (c0 : w.cell? ⟨b, 0, none⟩ = some (.string t)) (c1 : w.cell? ⟨b, 1, none⟩ = some (.int .i64 q)) (f1 : w.frozen? ⟨b, 1, none⟩ = false) :
    Calls Yba.prog 4 #[.pointer (some ⟨b, 0, none⟩), .string p] w fun e w' => e = .returned (.bool (stB (t.extract q t.size) p)) ∧
      w' = if stB (t.extract q t.size) p then (w.setCell ⟨b, 1, none⟩ (.int .i64 (q + p.size))).drew else w.drew := by
  cases hs : stB (t.extract q t.size) p
  all_goals
    go_enter Yba.func4, Yba.ntmps4
    go_wp2_with (first
      | (go_at_call 7; refine (rest_any t q b _ (by unfold maxLen; omega) hq c0 c1).mono ?_; rintro e w' ⟨rfl, rfl⟩)
      | (go_at_call 6; refine (hasPrefix_any _ _ _ (by unfold maxLen; simp; omega) (by unfold maxLen; omega)).mono ?_; rintro e w' ⟨rfl, rfl⟩))
    go_ret
    exact ⟨rfl, rfl⟩
end Go.Proofs.Ybulkpte
