/- LawS0820BAddOwn: what stands behind the call of AddOwn. -/
import Derived.Test.YbulkpyoPre
namespace Go.Proofs.Ybulkpyo.AddOwn
open Go.RowKit Go.Maps
set_option linter.unusedVariables false

structure After (B x : Nat) (w W : World) (ar : Array Value) (gr : Bool) (nm ks : Int) (kn vs pn : ByteArray) (km vm pm ps : Int) (pre same : Bool) (l : Nat) (mv mg ms : Option Nat) (n : Nat) (Fv Fg Fs : Fn) : Prop where
  arg : W.heap[B]? = some (.cells ar 23 (0, 0))
  od : W.heap[B + 1 + 1]? = some (.cells (kc old 0) 36 (0, 0))
  vb : W.heap[x + 1]? = some (.cells (kc vs vm) 36 (0, 0))
  st : KS B W (B + 1) gr nm ks mv mg ms n Fv Fg Fs
  bel : Below B w W
  vP : pre = true → same = false → Fv pn.data.toList = some (kv old 0)
  gP : pre = true → same = false → ∃ a cap, Fg pn.data.toList = some (.slice a 1 cap)
  vK0 : gr = false → Fv kn.data.toList = some (kv vs vm)
  gK0 : gr = false → ∃ a cap, (Fg kn.data.toList).getD (.slice none 0 0) = .slice a l cap
  vK1 : gr = true → Fv kn.data.toList = if same then some (kv old 0) else none
  gK1 : gr = true → ∃ g cap, Fg kn.data.toList = some (.slice (some ⟨g, 0, none⟩) (l + 1) cap) ∧ ∀ i, i < 7 → W.cell? ⟨g, l * 7 + i, none⟩ = (kc vs vm)[i]?
  sK0 : km = 0 → Fs kn.data.toList = if same then some (.int .u8 pm) else none
  sK1 : km ≠ 0 → Fs kn.data.toList = some (.int .u8 (mx2 ps km))

theorem After.grown {B x : Nat} {w W w1 : World} {ar : Array Value} {gr : Bool} {nm ks : Int} {kn vs pn : ByteArray} {km vm pm ps : Int} {pre same : Bool} {l : Nat} {mv mg ms : Option Nat} {n : Nat} {Fv Fg Fs : Fn} (h : After B x w W ar gr nm ks kn vs pn km vm pm ps pre same l mv mg ms n Fv Fg Fs) (hg : W.grownBy w1 none) : After B x w w1 ar gr nm ks kn vs pn km vm pm ps pre same l mv mg ms n Fv Fg Fs :=
  { arg := (hg.block _ (lt_of_block h.arg) (by simp)).trans h.arg, od := (hg.block _ (lt_of_block h.od) (by simp)).trans h.od, vb := (hg.block _ (lt_of_block h.vb) (by simp)).trans h.vb, st := h.st.grown hg, bel := h.bel.grown hg h.st.hB (fun k hk => by cases hk), vP := h.vP, gP := h.gP, vK0 := h.vK0, gK0 := h.gK0, vK1 := h.vK1, sK0 := h.sK0, sK1 := h.sK1
    gK1 := fun e => by
      obtain ⟨g, cap, h1, h2⟩ := h.gK1 e
      refine ⟨g, cap, h1, fun i hi => ?_⟩
      have hc := h2 i hi
      have hs : ∃ u, (kc vs vm)[i]? = some u := ⟨(kc vs vm)[i]'(by simpa using hi), by simp⟩
      obtain ⟨u, hu⟩ := hs
      rw [hu] at hc ⊢
      have hlt := World.block_lt_of_cell? W ⟨g, l * 7 + i, none⟩ hc
      exact (World.cell?_of_block (hg.block _ hlt (by simp))).trans hc }

theorem own_row {B : Nat} {w W : World} {ar : Array Value} {gr : Bool} {nm ks : Int} {kn pn : ByteArray} {pm : Int} {pre same : Bool} {mv mg ms : Option Nat} {n go : Nat} {Fv Fg Fs : Fn} (h : Pre B w W ar gr nm ks kn pn pm pre same mv mg ms n go Fv Fg Fs) {l : Nat} (hl : l = if same then 1 else 0) :
    ∃ xs, (Fg kn.data.toList).getD (.slice none 0 0) = (if same then Value.slice (some ⟨go, 0, none⟩) 1 1 else .slice none 0 0) ∧ W.ownsRow B 36 7 (if same then Value.slice (some ⟨go, 0, none⟩) 1 1 else .slice none 0 0) l xs := by
  cases same with
  | false =>
    subst hl
    exact ⟨[], by rw [h.aG]; rfl, rfl, .inl ⟨rfl, rfl⟩⟩
  | true =>
    subst hl
    have hr := h.row rfl
    exact ⟨(kc old 0).toList, by rw [h.aG]; rfl, rfl, .inr ⟨go, 1, kc old 0, rfl, by omega, hr.1, Nat.le_refl _, by decide, rfl, rfl⟩⟩

theorem after_of {B x : Nat} {w W W' : World} {ar : Array Value} {gr : Bool} {nm ks nm' ks' : Int} {kn vs pn : ByteArray} {km vm pm ps kd oq om : Int} {pre same : Bool} {l : Nat} {mv mg ms : Option Nat} {n go : Nat} {Fv Fg Fs : Fn}
    (h : Pre B w W ar gr nm ks kn pn pm pre same mv mg ms n go Fv Fg Fs) (hb : Box3 x W kn km vs vm kd oq om) (hx : B + 1 + 1 < x) (hgo : same = true → go < x) (hl : l = if same then 1 else 0) (hps : ps = if same then pm else 0) (hsm : same = (pre && decide (pn.data.toList = kn.data.toList)))
    (hd : Done B (B + 1) gr nm' ks' n Fv Fg Fs kn vs km vm ps (if same then Value.slice (some ⟨go, 0, none⟩) 1 1 else .slice none 0 0).ownBlock l W W') :
    ∃ mv' mg' ms' n' Fv' Fg' Fs', After B x w W' ar gr nm' ks' kn vs pn km vm pm ps pre same l mv' mg' ms' n' Fv' Fg' Fs' := by
  obtain ⟨mv', mg', ms', n', Fv', Fg', _, hst, hk, h0, h1⟩ := hd
  have hrow : ∀ j, (j ≤ B + 1 + 1 ∨ x ≤ j) → some j ≠ (if same then Value.slice (some ⟨go, 0, none⟩) 1 1 else .slice none 0 0).ownBlock := by
    intro j hj e
    cases same with
    | false => simp [Value.ownBlock] at e
    | true =>
      have := (h.row rfl).2
      have := hgo rfl
      simp [Value.ownBlock] at e
      omega
  have hne : pre = true → same = false → pn.data.toList ≠ kn.data.toList := fun hp hs e => by rw [hsm, hp, e] at hs; simp at hs
  refine ⟨mv', mg', ms', n', Fv', Fg', _, { arg := hk.cells _ _ _ _ (by omega) (hrow _ (by omega)) h.arg, od := hk.cells _ _ _ _ (by omega) (hrow _ (by omega)) h.od, vb := hk.cells _ _ _ _ (by omega) (hrow _ (by omega)) hb.v, st := hst, bel := h.bel.trans hk.bel, vP := fun hp hs => ?_, gP := fun hp hs => ?_, vK0 := fun e => ?_, gK0 := fun e => ?_, vK1 := fun e => ?_, gK1 := fun e => ?_, sK0 := fun e => ?_, sK1 := fun e => ?_ }⟩
  · have := hne hp hs
    cases gr with
    | false => rw [(h0 rfl).1]; simp [upd, this, h.bV hp]
    | true => rw [(h1 rfl).1]; exact h.bV hp
  · have := hne hp hs
    cases gr with
    | false => rw [(h0 rfl).2]; exact ⟨_, _, h.bG hp⟩
    | true =>
      obtain ⟨_, g, cap, he, _⟩ := h1 rfl
      rw [he]
      exact ⟨some ⟨go, 0, none⟩, 1, by simp [upd, this, h.bG hp]⟩
  · rw [(h0 e).1]; simp [upd]
  · rw [(h0 e).2, h.aG, hl]
    cases same
    · exact ⟨none, 0, rfl⟩
    · exact ⟨some ⟨go, 0, none⟩, 1, rfl⟩
  · rw [(h1 e).1, h.aV]
  · obtain ⟨_, g, cap, he, hc⟩ := h1 e
    exact ⟨g, cap, by rw [he]; simp [upd], hc⟩
  · simp only [SF, if_pos e]; exact h.aS
  · simp only [SF, if_neg e]; simp [upd, mx2]
end Go.Proofs.Ybulkpyo.AddOwn
