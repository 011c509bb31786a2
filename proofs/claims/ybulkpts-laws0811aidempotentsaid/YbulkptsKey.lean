/- The walks of zzs0811akey and of the closure; the keys as lists of bytes. -/
import Derived.Test.YbulkptsRows
import Derived.WalkKit
import Derived.WalkSpells
import Derived.Laws.BytesArg
namespace Go.Proofs.Ybulkpts
open Go.RowKit
set_option linter.unusedVariables false

/-- The two bytes of key number i. -/
def kb (i : Nat) : List UInt8 := [UInt8.ofNat (97 + i / 26 % 26), UInt8.ofNat (97 + i % 26)]

theorem kb_inj {i j : Nat} (hi : i < 676) (hj : j < 676) (h : kb i = kb j) : i = j := by
  unfold kb at h
  simp only [List.cons.injEq, and_true] at h
  have h1 := congrArg UInt8.toNat h.1
  have h2 := congrArg UInt8.toNat h.2
  simp at h1 h2
  omega

theorem kb_lt {i j : Nat} (hj : j < 676) (h : i < j) : kb i < kb j := by
  have u : ∀ a b : Nat, a < 256 → b < 256 → a < b → UInt8.ofNat a < UInt8.ofNat b := by
    intro a b ha hb hab
    rw [UInt8.lt_iff_toNat_lt]
    simp
    omega
  unfold kb
  rw [List.cons_lt_cons_iff]
  by_cases e : i / 26 % 26 = j / 26 % 26
  · right
    refine ⟨by rw [e], ?_⟩
    rw [List.cons_lt_cons_iff]
    exact Or.inl (u _ _ (by omega) (by omega) (by omega))
  · left
    exact u _ _ (by omega) (by omega) (by omega)

theorem kb_nums (i : Nat) : strOfNums [97 + (i : Int) / 26 % 26, 97 + (i : Int) % 26] = ⟨(kb i).toArray⟩ := by
  unfold strOfNums kb
  have h1 : (97 + (i : Int) / 26 % 26).toNat = 97 + i / 26 % 26 := by omega
  have h2 : (97 + (i : Int) % 26).toNat = 97 + i % 26 := by omega
  simp only [List.map_cons, List.map_nil, h1, h2]

theorem kb_size (i : Nat) : (⟨(kb i).toArray⟩ : ByteArray).size = 2 := by simp [kb, ByteArray.size]

set_option maxHeartbeats 400000 in
set_option maxRecDepth 100000 in
theorem key_any (i : Nat) (w : World) (hi : i < 676) :
    Calls Yba.prog 7 #[.int .i64 i] w fun e w' => e = .returned (.string ⟨(kb i).toArray⟩) ∧ ∃ o, w' = w.alloc o := by
  have hcv : ∀ x y : Int, (convert 22 9 (.slice (some ⟨w.heap.size, 0, none⟩) 2 2)).run Yba.prog (w.alloc (.cells #[.int .u8 x, .int .u8 y] 5)) = .ok (.string (strOfNums [x, y])) (w.alloc (.cells #[.int .u8 x, .int .u8 y] 5)) := by
    intro x y
    refine run_convert_bytes_arg _ 22 5 Yba.underlying22 Yba.underlying5 _ 0 2 2 [x, y] rfl ?_ 9 Yba.underlying9
    intro j hj
    match j, hj with
    | 0, _ => simp
    | 1, _ => simp
  have HK : Hid (strOfNums [97 + (i : Int) / 26 % 26, 97 + (i : Int) % 26] = ⟨(kb i).toArray⟩) := kb_nums i
  go_enter Yba.func7, Yba.ntmps7
  go_wp2
  go_ret
  exact ⟨by rw [← HK.out]; rfl, _, rfl⟩

set_option maxHeartbeats 400000 in
theorem shared_any (k : ByteArray) (m : Int) (w : World) :
    Calls Yba.prog 10 #[.agg #[.string k, .int .u8 m]] w fun e w' => e = .returned (.bool (m == 1)) ∧ w' = w.alloc (.cells #[.string k, .int .u8 m] 37) := by
  go_enter Yba.func10, Yba.ntmps10
  go_wp2
  go_ret
  exact ⟨rfl, rfl⟩
end Go.Proofs.Ybulkpts
