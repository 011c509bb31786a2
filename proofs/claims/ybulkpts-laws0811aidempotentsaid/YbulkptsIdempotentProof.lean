/- The proof of 'Rows.LawS0811AIdempotentSaid': the arguments opened, the walk, and the guide's own frame round it. -/
import Derived.Test.YbulkptsLawB1
import Derived.WalkKit
import Derived.ProofKit
import Derived.OpenShut
import Derived.ChangeOld
import Derived.Below
import Derived.Deep.Grids
namespace Go.Proofs.Ybulkpts.lawS0811AIdempotent
open Go.ChangeShapes Go.WideShapes Go.ChangeAt Go.RowKit
set_option linter.unusedVariables false

theorem own : ownKnob Yba.prog.godebug = none := by kernel_rfl
theorem laidOut : laidOutB Yba.prog = true := by kernel_rfl

/-- What is known of a slice of bytes that came in. -/
def IsU8 (w : World) (a : Option Addr) (len : Nat) : Prop :=
  ∃ (b o : Nat) (z : Nat → Int), (len = 0 ∨ a = some ⟨b, o, none⟩) ∧ (0 < len → b < w.heap.size) ∧ (∀ i, i < len → w.cell? ⟨b, o + i, none⟩ = some (.int .u8 (z i))) ∧ ∀ i, 0 ≤ z i ∧ z i ≤ 255
/-- .. of a slice of bools. -/
def IsBools (w : World) (a : Option Addr) (len : Nat) : Prop :=
  len ≤ maxLen ∧ ∃ (b o : Nat) (nh : Nat → Bool), (len = 0 ∨ a = some ⟨b, o, none⟩) ∧ (0 < len → b < w.heap.size) ∧ ∀ i, i < len → w.cell? ⟨b, o + i, none⟩ = some (.bool (nh i))

theorem spot_none {w : World} {x : Addr} {u : Value} (h : w.cell? (x.add 0) = some u) : x = ⟨x.block, x.off, none⟩ := by
  obtain ⟨b, off, spot⟩ := x
  have hs : spot = none := by simpa [Addr.add] using World.cell?_spot h
  subst hs
  rfl

theorem add_plain (b o i : Nat) : (⟨b, o, none⟩ : Addr).add i = ⟨b, o + i, none⟩ := by unfold Addr.add; split <;> simp_all

theorem isU8_of {w : World} {a : Addr} {len cap : Nat} {zs : List Int} (hl : len ≤ cap) (hz : zs.length = cap) (hc : ∀ i, i < zs.length → w.cell? (a.add i) = some (.int .u8 (zs.getD i 0))) (hw : ∀ n ∈ zs, (Lit.int .u8 n).wf = true) : IsU8 w (some a) len := by
  have bz : ∀ i, 0 ≤ zs.getD i 0 ∧ zs.getD i 0 ≤ 255 := by
    intro i
    rcases Nat.lt_or_ge i zs.length with h | h
    · have := bounds_u8 (hw (zs.getD i 0) (by simp [List.getD, h]))
      exact this
    · simp [List.getD, List.getElem?_eq_none h]
  rcases Nat.eq_zero_or_pos len with h0 | h0
  · exact ⟨0, 0, fun i => zs.getD i 0, .inl h0, fun h => by omega, fun i hi => by omega, bz⟩
  · have hx := spot_none (hc 0 (by omega))
    have hc' : ∀ i, i < len → w.cell? ⟨a.block, a.off + i, none⟩ = some (.int .u8 (zs.getD i 0)) := fun i hi => by
      have := hc i (by omega)
      rw [hx, add_plain] at this
      exact this
    have hb : a.block < w.heap.size := by
      have := hc' 0 h0
      rcases Nat.lt_or_ge a.block w.heap.size with h' | h'
      · exact h'
      · simp [World.cell?, Array.getElem?_eq_none h'] at this
    exact ⟨a.block, a.off, fun i => zs.getD i 0, .inr (by rw [← hx]), fun _ => hb, hc', bz⟩

theorem isBools_of {w : World} {a : Addr} {len cap : Nat} {B : Nat → Bool} (hl : len ≤ cap) (hm : cap ≤ maxLen) (hc : ∀ i, i < cap → w.cell? (a.add i) = some (.bool (B i))) : IsBools w (some a) len := by
  refine ⟨by omega, ?_⟩
  rcases Nat.eq_zero_or_pos len with h0 | h0
  · exact ⟨0, 0, B, .inl h0, fun h => by omega, fun i hi => by omega⟩
  · have hx := spot_none (hc 0 (by omega))
    have hc' : ∀ i, i < len → w.cell? ⟨a.block, a.off + i, none⟩ = some (.bool (B i)) := fun i hi => by
      have := hc i (by omega)
      rw [hx, add_plain] at this
      exact this
    have hb : a.block < w.heap.size := by
      have := hc' 0 h0
      rcases Nat.lt_or_ge a.block w.heap.size with h' | h'
      · exact h'
      · simp [World.cell?, Array.getElem?_eq_none h'] at this
    exact ⟨a.block, a.off, B, .inr (by rw [← hx]), fun _ => hb, hc'⟩

set_option maxHeartbeats 400000 in
set_option maxRecDepth 100000 in
theorem walk (a0 a1 : Option Addr) (len0 cap0 len1 cap1 : Nat) (w : World) (w0 : IsU8 w a0 len0) (m0 : len0 ≤ maxLen) (w1 : IsBools w a1 len1) :
    Calls Yba.prog 4 #[.slice a0 len0 cap0, .slice a1 len1 cap1] w fun e w' => e = .returned (.bool true) ∧ Below w.heap.size w w' := by
  by_cases hl : len0 ≤ 300
  · obtain ⟨b0, o0, z, h1, h2, h3, h4⟩ := w0
    obtain ⟨hm, b1, o1, nh, k1, k2, k3⟩ := w1
    exact lawB_any a0 a1 len0 cap0 len1 cap1 b0 o0 b1 o1 z nh w hl hm h1 k1 h2 k2 h3 h4 k3
  · have hl' : 300 < len0 := by omega
    unfold maxLen at m0
    clear hl w0 w1
    go_enter Yba.func4, Yba.ntmps4
    go_wp2
    go_ret
    exact ⟨rfl, Below.refl _ _⟩

/-! ### THE ROW's STEP -/
set_option maxRecDepth 100000 in
theorem lifted (os : Os) (started : os.Started) (H : Type) (enc : TypeId × Value → H) :
    ReturnsInHanded {} Yba.checked os 4 .any (Rows.lawS0811AIdempotentSpec.pre6 enc Yba.prog Yba.f4 Rows.lawS0811AIdempotentRow.domain false) (Rows.lawS0811AIdempotentSpec.post enc Yba.prog Yba.f4 false true false false) := by
  refine returnsInHanded_of_change (C := Yba.checked) own started (by kernel_rfl) Yba.func4
    (ChangeSpec.witness6 (enc := enc) (C := Yba.checked) false ⟨#[], #[.slice none 0 0, .slice none 0 0], []⟩ 8 (by kernel_rfl) (by kernel_rfl) (by kernel_rfl) (by kernel_rfl)) ?_
  intro W base args ds gs before hval0 hW hcnd _
  have hval : ∀ (j : Nat) t v, Yba.f4.params[j]? = some t → args[j]? = some v → Value.okWide Yba.prog W .any base t v := hval0
  have hW' := hW
  obtain ⟨p, q, hA0, hV, rfl, hfz, hnd⟩ := hW
  have hA : DataW.TrodAll enc Yba.prog W 0 (fun _ => true) true Yba.f4.params.toList args.toList ds p := hA0
  rw [Yba.params4] at hA hval
  obtain ⟨v0, vs0, d0, ds0, p0, q0, hargs, rfl, rfl, h0, r0⟩ := trodAll_cons hA
  obtain ⟨v1, vs1, d1, ds1, p1, q1, rfl, rfl, rfl, h1, r1⟩ := trodAll_cons r0
  obtain ⟨rfl, rfl, rfl⟩ := trodAll_nil r1
  obtain rfl : args = #[v0, v1] := by cases args; simp_all
  obtain ⟨rfl, rfl⟩ := trodVars_none hV
  obtain ⟨a0, len0, cap0, rfl⟩ := okWide_slice Yba.underlying22 (hval 0 22 v0 rfl rfl)
  obtain ⟨a1, len1, cap1, rfl⟩ := okWide_slice Yba.underlying23 (hval 1 23 v1 rfl rfl)
  have k0 := h0
  have k1 := h1
  have lt0 : ∀ x ∈ p0, x.block < W.heap.size := by obtain ⟨m, hm⟩ := k0; exact DataW.trod_lt m _ _ _ hm
  have lt1 : ∀ x ∈ p1, x.block < W.heap.size := by obtain ⟨m, hm⟩ := k1; exact DataW.trod_lt m _ _ _ hm
  have w0 : IsU8 W a0 len0 ∧ len0 ≤ maxLen := by
    obtain ⟨fuel, hf⟩ := h0
    rcases open_ints Yba.underlying22 Yba.underlying5 (by kernel_rfl) hf with ⟨hcs, _⟩ | ⟨x, l, c, zs, hcs, _, hl, hm, hz, _, hcell, hwz⟩
    · simp [Value.cells] at hcs
      obtain ⟨rfl, rfl, rfl⟩ := hcs
      exact ⟨⟨0, 0, fun _ => 0, .inl rfl, fun h => by omega, fun i hi => by omega, fun i => ⟨Int.le_refl 0, (by decide : (0 : Int) ≤ 255)⟩⟩, Nat.zero_le _⟩
    · simp [Value.cells] at hcs
      obtain ⟨rfl, rfl, rfl⟩ := hcs
      exact ⟨isU8_of hl (by simpa using hz) hcell hwz, by omega⟩
  have w1 : IsBools W a1 len1 := by
    obtain ⟨fuel, hf⟩ := h1
    rcases Deep.open_bools Yba.underlying23 Yba.underlying4 (by kernel_rfl) hf with ⟨hcs, _⟩ | ⟨x, l, c, B, hcs, _, hl, hm, _, hcell⟩
    · simp [Value.cells] at hcs
      obtain ⟨rfl, rfl, rfl⟩ := hcs
      exact ⟨Nat.zero_le _, 0, 0, fun _ => false, .inl rfl, fun h => by omega, fun i hi => by omega⟩
    · simp [Value.cells] at hcs
      obtain ⟨rfl, rfl, rfl⟩ := hcs
      exact isBools_of hl hm hcell
  clear hA0 hval0
  refine (walk a0 a1 len0 cap0 len1 cap1 W w0.1 w0.2 w1).mono fun e W' ⟨he, bel⟩ => ?_
  subst he
  exact ⟨_, rfl, _, _, _, [], _, [], hW', trodAll_mk1 (shut_bool Yba.underlying4 _), (trodAll_cons_mk (Below.trod laidOut (by kernel_rfl) (of_decide_eq_true (by kernel_rfl)) k0 bel lt0) (trodAll_cons_mk (Below.trod laidOut (by kernel_rfl) (of_decide_eq_true (by kernel_rfl)) k1 bel lt1) trodAll_mk0)), rfl, bel.frame _, fun h => by cases h⟩

theorem over : Rows.lawS0811AIdempotentRow.holds Yba.pinned (OpenSpec.ofChange Rows.lawS0811AIdempotentSpec) :=
  OpenClaim.holds_of_wide 4 Yba.f4 rfl rfl rfl rfl rfl rfl rfl ⟨rfl, rfl, rfl, rfl, rfl⟩ rfl rfl rfl rfl rfl (by kernel_rfl) Yba.func4 (by kernel_rfl)
    (of_decide_eq_true (by kernel_rfl)) (by unfold Func.isWrapper; first | (rw [if_pos (by decide +kernel)]; kernel_rfl) | (rw [if_neg (by decide +kernel)]; exact ⟨rfl, rfl⟩))
    (fun os started H enc _ => lifted os started H enc)

/-- THE STATEMENT -/
theorem proved : Rows.LawS0811AIdempotentSaid := over
end Go.Proofs.Ybulkpts.lawS0811AIdempotent
