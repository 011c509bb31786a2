/- The proof of 'Rows.LawS0820BAddOwnSaid': the argument opened, the walk, and the guide's own frame round it. -/
import Derived.Test.YbulkpyoLawB
import Derived.WalkKit
import Derived.ProofKit
import Derived.OpenShut
import Derived.ChangeOld
import Derived.Below
namespace Go.Proofs.Ybulkpyo.lawS0820BAddOwn
open Go.ChangeShapes Go.WideShapes Go.ChangeAt Go.RowKit
open Go.Proofs.Ybulkpyo.AddOwn (inc lawB_any)
set_option linter.unusedVariables false

theorem own : ownKnob Yba.prog.godebug = none := by kernel_rfl
theorem laidOut : laidOutB Yba.prog = true := by kernel_rfl

set_option maxRecDepth 100000 in
/-- The argument's thirteen cells. -/
theorem open_inc {H : Type} {enc : TypeId × Value → H} {w : World} {base : Nat} {spare : Nat → Bool} {held : Bool} {n : Nat} {cs : List Value} {x : DataW H × List MemPlace}
    (h : DataW.trod enc Yba.prog w base spare held n 23 cs = some x) :
    ∃ (gr : Bool) (nm ks : Int) (kn : ByteArray) (km : Int) (vs : ByteArray) (vm ok om oq : Int) (pre : Bool) (pn : ByteArray) (pm : Int), cs = (inc gr nm ks kn km vs vm ok om oq pre pn pm).toList ∧ kn.size ≤ maxLen ∧ pn.size ≤ maxLen ∧ (0 ≤ ok ∧ ok ≤ 255) := by
  have c23 : Yba.prog.cellsOf 23 = 13 := by kernel_rfl
  have c4 : Yba.prog.cellsOf 4 = 1 := by kernel_rfl
  have c5 : Yba.prog.cellsOf 5 = 1 := by kernel_rfl
  have c9 : Yba.prog.cellsOf 9 = 1 := by kernel_rfl
  obtain ⟨xs, m, _, rfl, hlen, hxl, hf⟩ := DataW.trod_struct Yba.underlying23 h
  rw [c23] at hlen
  match cs, hlen with
  | [u0, u1, u2, u3, u4, u5, u6, u7, u8, u9, u10, u11, u12], _ =>
    match xs, hxl with
    | [y0, y1, y2, y3, y4, y5, y6, y7, y8, y9, y10, y11, y12], _ =>
      have g0 : DataW.trod enc Yba.prog w base spare held m 4 (([u0, u1, u2, u3, u4, u5, u6, u7, u8, u9, u10, u11, u12].drop 0).take (Yba.prog.cellsOf 4)) = some y0 := hf 0 _ rfl
      have g1 : DataW.trod enc Yba.prog w base spare held m 5 (([u0, u1, u2, u3, u4, u5, u6, u7, u8, u9, u10, u11, u12].drop 1).take (Yba.prog.cellsOf 5)) = some y1 := hf 1 _ rfl
      have g2 : DataW.trod enc Yba.prog w base spare held m 5 (([u0, u1, u2, u3, u4, u5, u6, u7, u8, u9, u10, u11, u12].drop 2).take (Yba.prog.cellsOf 5)) = some y2 := hf 2 _ rfl
      have g3 : DataW.trod enc Yba.prog w base spare held m 9 (([u0, u1, u2, u3, u4, u5, u6, u7, u8, u9, u10, u11, u12].drop 3).take (Yba.prog.cellsOf 9)) = some y3 := hf 3 _ rfl
      have g4 : DataW.trod enc Yba.prog w base spare held m 5 (([u0, u1, u2, u3, u4, u5, u6, u7, u8, u9, u10, u11, u12].drop 4).take (Yba.prog.cellsOf 5)) = some y4 := hf 4 _ rfl
      have g5 : DataW.trod enc Yba.prog w base spare held m 9 (([u0, u1, u2, u3, u4, u5, u6, u7, u8, u9, u10, u11, u12].drop 5).take (Yba.prog.cellsOf 9)) = some y5 := hf 5 _ rfl
      have g6 : DataW.trod enc Yba.prog w base spare held m 5 (([u0, u1, u2, u3, u4, u5, u6, u7, u8, u9, u10, u11, u12].drop 6).take (Yba.prog.cellsOf 5)) = some y6 := hf 6 _ rfl
      have g7 : DataW.trod enc Yba.prog w base spare held m 5 (([u0, u1, u2, u3, u4, u5, u6, u7, u8, u9, u10, u11, u12].drop 7).take (Yba.prog.cellsOf 5)) = some y7 := hf 7 _ rfl
      have g8 : DataW.trod enc Yba.prog w base spare held m 5 (([u0, u1, u2, u3, u4, u5, u6, u7, u8, u9, u10, u11, u12].drop 8).take (Yba.prog.cellsOf 5)) = some y8 := hf 8 _ rfl
      have g9 : DataW.trod enc Yba.prog w base spare held m 5 (([u0, u1, u2, u3, u4, u5, u6, u7, u8, u9, u10, u11, u12].drop 9).take (Yba.prog.cellsOf 5)) = some y9 := hf 9 _ rfl
      have g10 : DataW.trod enc Yba.prog w base spare held m 4 (([u0, u1, u2, u3, u4, u5, u6, u7, u8, u9, u10, u11, u12].drop 10).take (Yba.prog.cellsOf 4)) = some y10 := hf 10 _ rfl
      have g11 : DataW.trod enc Yba.prog w base spare held m 9 (([u0, u1, u2, u3, u4, u5, u6, u7, u8, u9, u10, u11, u12].drop 11).take (Yba.prog.cellsOf 9)) = some y11 := hf 11 _ rfl
      have g12 : DataW.trod enc Yba.prog w base spare held m 5 (([u0, u1, u2, u3, u4, u5, u6, u7, u8, u9, u10, u11, u12].drop 12).take (Yba.prog.cellsOf 5)) = some y12 := hf 12 _ rfl
      rw [c4] at g0 g10
      rw [c5] at g1 g2 g4 g6 g7 g8 g9 g12
      rw [c9] at g3 g5 g11
      obtain ⟨gr, e0, _⟩ := DataW.trod_bool Yba.underlying4 g0
      obtain ⟨nm, e1, _⟩ := DataW.trod_int Yba.underlying5 g1
      obtain ⟨ks, e2, _⟩ := DataW.trod_int Yba.underlying5 g2
      obtain ⟨kn, e3, _, b3⟩ := DataW.trod_string Yba.underlying9 g3
      obtain ⟨km, e4, _⟩ := DataW.trod_int Yba.underlying5 g4
      obtain ⟨vs, e5, _⟩ := DataW.trod_string Yba.underlying9 g5
      obtain ⟨vm, e6, _⟩ := DataW.trod_int Yba.underlying5 g6
      obtain ⟨ok, e7, _, b7⟩ := DataW.trod_int Yba.underlying5 g7
      obtain ⟨om, e8, _⟩ := DataW.trod_int Yba.underlying5 g8
      obtain ⟨oq, e9, _⟩ := DataW.trod_int Yba.underlying5 g9
      obtain ⟨pre, e10, _⟩ := DataW.trod_bool Yba.underlying4 g10
      obtain ⟨pn, e11, _, b11⟩ := DataW.trod_string Yba.underlying9 g11
      obtain ⟨pm, e12, _⟩ := DataW.trod_int Yba.underlying5 g12
      simp at e0 e1 e2 e3 e4 e5 e6 e7 e8 e9 e10 e11 e12
      subst e0 e1 e2 e3 e4 e5 e6 e7 e8 e9 e10 e11 e12
      exact ⟨gr, nm, ks, kn, km, vs, vm, ok, om, oq, pre, pn, pm, rfl, b3, b11, bounds_u8 b7⟩

/-! ### THE ROW's STEP -/
set_option maxRecDepth 100000 in
theorem lifted (os : Os) (started : os.Started) (H : Type) (enc : TypeId × Value → H) :
    ReturnsInHanded {} Yba.checked os 3 .any (Rows.lawS0820BAddOwnSpec.pre6 enc Yba.prog Yba.f3 Rows.lawS0820BAddOwnRow.domain false) (Rows.lawS0820BAddOwnSpec.post enc Yba.prog Yba.f3 false true false false) := by
  refine returnsInHanded_of_change (C := Yba.checked) own started (by kernel_rfl) Yba.func3
    (ChangeSpec.witness6 (enc := enc) (C := Yba.checked) false ⟨#[], #[.agg #[.bool false, .int .u8 0, .int .u8 0, .string ⟨#[]⟩, .int .u8 0, .string ⟨#[]⟩, .int .u8 0, .int .u8 0, .int .u8 0, .int .u8 0, .bool false, .string ⟨#[]⟩, .int .u8 0]], []⟩ 8 (by kernel_rfl) (by kernel_rfl) (by kernel_rfl) (by kernel_rfl)) ?_
  intro W base args ds gs before hval0 hW hcnd _
  have hval : ∀ (j : Nat) t v, Yba.f3.params[j]? = some t → args[j]? = some v → Value.okWide Yba.prog W .any base t v := hval0
  have hW' := hW
  obtain ⟨p, q, hA0, hV, rfl, hfz, hnd⟩ := hW
  have hA : DataW.TrodAll enc Yba.prog W 0 (fun _ => true) true Yba.f3.params.toList args.toList ds p := hA0
  rw [Yba.params3] at hA hval
  obtain ⟨v0, vs0, d0, ds0, p0, q0, hargs, rfl, rfl, h0, r0⟩ := trodAll_cons hA
  obtain ⟨rfl, rfl, rfl⟩ := trodAll_nil r0
  obtain rfl : args = #[v0] := by cases args; simp_all
  obtain ⟨rfl, rfl⟩ := trodVars_none hV
  obtain ⟨cs, rfl, hsz⟩ := okWide_struct Yba.underlying23 (hval 0 23 v0 rfl rfl)
  have k0 := h0
  have lt0 : ∀ x ∈ p0, x.block < W.heap.size := by obtain ⟨m, hm⟩ := k0; exact DataW.trod_lt m _ _ _ hm
  obtain ⟨gr, nm, ks, kn, km, vs, vm, ok, om, oq, pre, pn, pm, hcs, hkn, hpn, hok⟩ : ∃ (gr : Bool) (nm ks : Int) (kn : ByteArray) (km : Int) (vs : ByteArray) (vm ok om oq : Int) (pre : Bool) (pn : ByteArray) (pm : Int), cs = inc gr nm ks kn km vs vm ok om oq pre pn pm ∧ kn.size ≤ maxLen ∧ pn.size ≤ maxLen ∧ (0 ≤ ok ∧ ok ≤ 255) := by
    obtain ⟨fuel, hf⟩ := h0
    obtain ⟨gr, nm, ks, kn, km, vs, vm, ok, om, oq, pre, pn, pm, hcs, r⟩ := open_inc hf
    exact ⟨gr, nm, ks, kn, km, vs, vm, ok, om, oq, pre, pn, pm, Array.ext' hcs, r⟩
  subst hcs
  clear hA0 hval0
  refine (lawB_any gr nm ks kn km vs vm ok om oq pre pn pm _ W hok hkn hpn rfl).mono fun e W' ⟨he, bel⟩ => ?_
  subst he
  exact ⟨_, rfl, _, _, _, [], _, [], hW', trodAll_mk1 (shut_bool Yba.underlying4 _), (trodAll_cons_mk (Below.trod laidOut (by kernel_rfl) (of_decide_eq_true (by kernel_rfl)) k0 bel lt0) trodAll_mk0), rfl, bel.frame _, fun h => by cases h⟩

theorem over : Rows.lawS0820BAddOwnRow.holds Yba.pinned (OpenSpec.ofChange Rows.lawS0820BAddOwnSpec) :=
  OpenClaim.holds_of_wide 3 Yba.f3 rfl rfl rfl rfl rfl rfl rfl ⟨rfl, rfl, rfl, rfl, rfl⟩ rfl rfl rfl rfl rfl (by kernel_rfl) Yba.func3 (by kernel_rfl)
    (of_decide_eq_true (by kernel_rfl)) (by unfold Func.isWrapper; first | (rw [if_pos (by decide +kernel)]; kernel_rfl) | (rw [if_neg (by decide +kernel)]; exact ⟨rfl, rfl⟩))
    (fun os started H enc _ => lifted os started H enc)

/-- THE STATEMENT -/
theorem proved : Rows.LawS0820BAddOwnSaid := over
end Go.Proofs.Ybulkpyo.lawS0820BAddOwn
