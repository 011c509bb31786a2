/- AddOwn. -/
import Derived.Test.YbulkpyoAdd
import Derived.Deep.RegionWith
namespace Go.Proofs.Ybulkpyo.AddOwn
open Go.RowKit Go.Maps
set_option linter.unusedVariables false

abbrev oc (k q m : Int) : Array Value := #[.int .u8 k, .bool false, .int .u8 q, .bool false, .pointer none, .nilIface, .int .u8 m]

/-- The three boxed values lie at blocks x, x + 1 and x + 2. -/
structure Box3 (x : Nat) (w1 : World) (kn : ByteArray) (km : Int) (vs : ByteArray) (vm ok oq om : Int) : Prop where
  k : w1.heap[x]? = some (.cells (kc kn km) 36 (0, 0))
  v : w1.heap[x + 1]? = some (.cells (kc vs vm) 36 (0, 0))
  o : w1.heap[x + 1 + 1]? = some (.cells (oc ok oq om) 36 (0, 0))

theorem box3_of (w : World) (kn vs : ByteArray) (km vm ok oq om : Int) : Box3 w.heap.size (((w.alloc (.cells (kc kn km) 36)).alloc (.cells (kc vs vm) 36)).alloc (.cells (oc ok oq om) 36)) kn km vs vm ok oq om := by
  refine ⟨?_, ?_, ?_⟩
  · rw [Below.heap_alloc _ _ _ (by simp; omega), Below.heap_alloc _ _ _ (by simp)]; exact heap_alloc_new w _
  · rw [Below.heap_alloc _ _ _ (by simp)]
    have := heap_alloc_new (w.alloc (.cells (kc kn km) 36)) (.cells (kc vs vm) 36)
    simpa using this
  · have := heap_alloc_new ((w.alloc (.cells (kc kn km) 36)).alloc (.cells (kc vs vm) 36)) (.cells (oc ok oq om) 36)
    simpa using this

theorem Box3.kept {x base gS : Nat} {w1 w2 : World} {kn vs : ByteArray} {km vm ok oq om : Int} (h : Box3 x w1 kn km vs vm ok oq om) (hk : Kept base gS none w1 w2) (hx : gS < x) : Box3 x w2 kn km vs vm ok oq om :=
  ⟨hk.cells _ _ _ _ (by omega) (by simp) h.k, hk.cells _ _ _ _ (by omega) (by simp) h.v, hk.cells _ _ _ _ (by omega) (by simp) h.o⟩

theorem cellsO {w : World} {x : Nat} {k q m : Int} (h : w.heap[x]? = some (.cells (oc k q m) 36 (0, 0))) :
    w.cell? ⟨x, 0, none⟩ = some (.int .u8 k) ∧ w.cell? ⟨x, 1, none⟩ = some (.bool false) ∧ w.cell? ⟨x, 2, none⟩ = some (.int .u8 q) ∧ w.cell? ⟨x, 3, none⟩ = some (.bool false) ∧ w.cell? ⟨x, 4, none⟩ = some (.pointer none) ∧ w.cell? ⟨x, 5, none⟩ = some .nilIface ∧ w.cell? ⟨x, 6, none⟩ = some (.int .u8 m) := by
  refine ⟨?_, ?_, ?_, ?_, ?_, ?_, ?_⟩ <;> simp [World.cell?, h]

theorem Done.pre {base gS : Nat} {gr : Bool} {nm ks : Int} {n : Nat} {Fv Fg Fs : Fn} {kn vs : ByteArray} {km vm c : Int} {row : Option Nat} {l : Nat} {w w0 w' : World} (h : Done base gS gr nm ks n Fv Fg Fs kn vs km vm c row l w0 w') (hk : Kept base gS none w w0) : Done base gS gr nm ks n Fv Fg Fs kn vs km vm c row l w w' := by
  obtain ⟨mv', mg', ms', n', Fv', Fg', h1, h2, h3, h4⟩ := h
  exact ⟨mv', mg', ms', n', Fv', Fg', h1, h2, (hk.any _).trans h3, h4⟩

def mx2 (a b : Int) : Int := if a < b then b else a

set_option maxHeartbeats 4000000 in
set_option maxRecDepth 100000 in
theorem own_any (base gS : Nat) (gr : Bool) (nm ks : Int) (mv mg ms : Option Nat) (n : Nat) (Fv Fg Fs : Fn) (kn vs : ByteArray) (km vm c ok oq om : Int) (w : World) (hkn : kn.size ≤ maxLen) (hn : n < 100) (hc : (Fs kn.data.toList).getD (.int .u8 0) = .int .u8 c) (h : KS base w gS gr nm ks mv mg ms n Fv Fg Fs)
    (l : Nat) (xs : List Value) (sv : Value) (hl : l ≤ 1) (hsv : (Fg kn.data.toList).getD (.slice none 0 0) = sv) (hown : w.ownsRow base 36 7 sv l xs) :
    Calls Yba.prog 6 #[.pointer (some ⟨gS, 0, none⟩), kv kn km, kv vs vm, ow ok oq om] w fun e w' => e = .returned (.tuple #[]) ∧ Done base gS gr (mx2 nm (if ok = 6 then om else oq)) (mx2 ks oq) n Fv Fg Fs kn vs km vm c sv.ownBlock l w w' := by
  have hnk := namesMark_any ok oq om
  generalize (if ok = 6 then om else oq) = qq at *
  go_enter Yba.func6, Yba.ntmps6
  go_upto_region 1 with fail
  have hg3 : w.grownBy (((w.alloc (.cells (kc kn km) 36)).alloc (.cells (kc vs vm) 36)).alloc (.cells (oc ok oq om) 36)) none := ((World.grownBy_alloc w _ none).trans (World.grownBy_alloc _ _ none)).trans (World.grownBy_alloc _ _ none)
  have HX : Hid (Box3 w.heap.size (((w.alloc (.cells (kc kn km) 36)).alloc (.cells (kc vs vm) 36)).alloc (.cells (oc ok oq om) 36)) kn km vs vm ok oq om ∧ KS base (((w.alloc (.cells (kc kn km) 36)).alloc (.cells (kc vs vm) 36)).alloc (.cells (oc ok oq om) 36)) gS gr nm ks mv mg ms n Fv Fg Fs ∧ Kept base gS none w (((w.alloc (.cells (kc kn km) 36)).alloc (.cells (kc vs vm) 36)).alloc (.cells (oc ok oq om) 36))) :=
    ⟨box3_of w kn vs km vm ok oq om, h.grown hg3, kept_grown h.hB hg3⟩
  have hlt := h.lt
  clear hg3
  generalize ((w.alloc (.cells (kc kn km) 36)).alloc (.cells (kc vs vm) 36)).alloc (.cells (oc ok oq om) 36) = W at *
  generalize w.heap.size = x at *
  go_cut [] from 8 to 17 (fun wc => KS base wc gS gr (mx2 nm qq) ks mv mg ms n Fv Fg Fs ∧ Kept base gS none W wc)
  case first =>
    have hksd : KS base W.drew gS gr nm ks mv mg ms n Fv Fg Fs := HX.out.2.1.drewN 1
    have t4 := HX.out.2.1.c4
    have f4 := HX.out.2.1.free 4
    obtain ⟨o0, o1, o2, o3, o4, o5, o6⟩ := cellsO HX.out.1.o
    have HKD : Hid (KS base W.drew gS gr nm ks mv mg ms n Fv Fg Fs) := hksd
    clear hksd
    go_region_with (go_at_call 9; refine (hnk _).mono ?_; rintro e w1 ⟨rfl, hg1⟩; have hk1 := HKD.out.grown hg1; have q4 := hk1.c4; have g4 := hk1.free 4; clear hk1)
    all_goals go_wp2_with fail
    all_goals
      go_meet
      first
        | (rw [show mx2 nm qq = qq by unfold mx2; split <;> omega]; exact ⟨(HKD.out.grown hg1).names _, (((Kept.refl _ _ _ _).drewN 1).trans (kept_grown HKD.out.hB hg1)).trans (kept_cell HKD.out.hS 4 _)⟩)
        | (rw [show mx2 nm qq = nm by unfold mx2; split <;> omega]; exact ⟨(HKD.out.grown hg1).names _, (((Kept.refl _ _ _ _).drewN 1).trans (kept_grown HKD.out.hB hg1)).trans (kept_cell HKD.out.hS 4 _)⟩)
  case rest =>
    obtain ⟨hk1, hp1⟩ := hcut
    rename World => W1
    have HX1 : Hid (Box3 x W1 kn km vs vm ok oq om ∧ KS base W1 gS gr (mx2 nm qq) ks mv mg ms n Fv Fg Fs ∧ Kept base gS none w W1) := ⟨HX.out.1.kept hp1 hlt, hk1, HX.out.2.2.trans hp1⟩
    clear hk1 hp1 hnk
    go_upto_region 2 with fail
    go_cut [] from 18 to 28 (fun wc => KS base wc gS gr (mx2 nm qq) (mx2 ks oq) mv mg ms n Fv Fg Fs ∧ Kept base gS none W1 wc)
    case first =>
      have t5 := HX1.out.2.1.c5
      have f5 := HX1.out.2.1.free 5
      have o2 := (cellsO HX1.out.1.o).2.2.1
      have HKD : Hid (KS base W1.drew gS gr (mx2 nm qq) ks mv mg ms n Fv Fg Fs) := HX1.out.2.1.drewN 1
      go_region
      all_goals go_wp2_with fail
      all_goals
        go_meet
        first
          | (rw [show mx2 ks oq = oq by unfold mx2; split <;> omega]; exact ⟨(HX1.out.2.1.keys _).drewN 1, (kept_cell HKD.out.hS 5 _).drewN 1⟩)
          | (rw [show mx2 ks oq = ks by unfold mx2; split <;> omega]; exact ⟨(HX1.out.2.1.keys _).drewN 1, (kept_cell HKD.out.hS 5 _).drewN 1⟩)
    case rest =>
      obtain ⟨hk2, hp2⟩ := hcut
      rename World => W2
      have hbx := HX1.out.1.kept hp2 hlt
      obtain ⟨k0, k1, k2, k3, k4, k5, k6⟩ := cells7 hbx.k
      obtain ⟨v0, v1, v2, v3, v4, v5, v6⟩ := cells7 hbx.v
      have hkk : Kept base gS none w W2 := HX1.out.2.2.trans hp2
      have hcall := add_any base gS gr (mx2 nm qq) (mx2 ks oq) mv mg ms n Fv Fg Fs kn vs km vm c W2 (by have := hk2.lt; omega) (by have := hk2.lt; omega) hkn hn hc hk2 l xs sv hl hsv (row_kept h hkk hown)
      have HKK : Hid (Kept base gS none w W2) := hkk
      clear hbx hk2 hp2 hkk
      go_wp2_with (go_at_call 10; refine hcall.mono ?_; rintro e w9 ⟨rfl, hd⟩)
      go_end0
      exact ⟨rfl, hd.pre HKK.out⟩
end Go.Proofs.Ybulkpyo.AddOwn
