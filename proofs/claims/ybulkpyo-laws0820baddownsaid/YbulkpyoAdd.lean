/- The small functions of LawS0820BAddOwn's road; add and AddOwn. -/
import Derived.Test.YbulkpyoKeyed
import Derived.WalkLawsBesides
import Derived.Deep.CutRange
import Derived.Deep.AppendLies
import Derived.Deep.RegionLaw
namespace Go.Proofs.Ybulkpyo.AddOwn
open Go.RowKit Go.Maps
set_option linter.unusedVariables false

/-- A string's value. -/
abbrev kv (s : ByteArray) (m : Int) : Value := .agg #[.int .u8 1, .bool false, .int .u8 0, .bool false, .pointer none, .iface 9 (.string s), .int .u8 m]
/-- The owner. -/
abbrev ow (k q m : Int) : Value := .agg #[.int .u8 k, .bool false, .int .u8 q, .bool false, .pointer none, .nilIface, .int .u8 m]

def mx (a b : Int) : Int := if b < a then a else b
theorem mx_eq (a b : Int) : mx a b = if a < b then b else a := by unfold mx; split <;> split <;> omega

theorem max_any (a b : Int) (w : World) : Calls Yba.prog 5 #[.int .u8 a, .int .u8 b] w fun e w' => e = .returned (.int .u8 (mx a b)) ∧ w' = w := by
  by_cases h : b < a
  · have e : mx a b = a := by simp [mx, h]
    rw [e]
    go_enter Yba.func5, Yba.ntmps5
    go_wp2
    go_ret
    exact ⟨rfl, rfl⟩
  · have e : mx a b = b := by simp [mx, h]
    rw [e]
    go_enter Yba.func5, Yba.ntmps5
    go_wp2
    go_ret
    exact ⟨rfl, rfl⟩

set_option maxRecDepth 100000 in
theorem asString_any (s : ByteArray) (m : Int) (w : World) : Calls Yba.prog 13 #[kv s m] w fun e w' => e = .returned (.string s) ∧ w.grownBy w' none := by
  have hta : ∀ w : World, (Instr.typeAssert (.iface 9 (.string s)) 20 9 false).run Yba.prog w = .ok (.string s) w := fun w => by simp [Instr.typeAssert, run_underlying Yba.underlying9]
  go_enter Yba.func13, Yba.ntmps13
  go_wp2
  go_ret
  exact ⟨rfl, World.grownBy_alloc _ _ _⟩

set_option maxRecDepth 100000 in
theorem isSensitive_any (s : ByteArray) (m : Int) (w : World) : Calls Yba.prog 14 #[kv s m] w fun e w' => e = .returned (.bool (m != 0)) ∧ w.grownBy w' none := by
  go_enter Yba.func14, Yba.ntmps14
  go_wp2
  go_ret
  exact ⟨rfl, World.grownBy_alloc _ _ _⟩

set_option maxRecDepth 100000 in
theorem namesMark_any (k q m : Int) (w : World) : Calls Yba.prog 9 #[ow k q m] w fun e w' => e = .returned (.int .u8 (if k = 6 then m else q)) ∧ w.grownBy w' none := by
  by_cases h : k = 6
  · subst h
    go_enter Yba.func9, Yba.ntmps9
    go_wp2
    go_ret
    exact ⟨rfl, World.grownBy_alloc _ _ _⟩
  · rw [if_neg h]
    go_enter Yba.func9, Yba.ntmps9
    go_wp2
    go_ret
    exact ⟨rfl, World.grownBy_alloc _ _ _⟩

theorem zero25 (w : World) : (zeroValue 25).run Yba.prog w = .ok (.int .u8 0) w := by
  obtain ⟨i, hi, h0, _, _⟩ := info_parts (show (Yba.prog.info? 25).map (fun i => (i.zero, i.size, i.bytes)) = some (some (.int .u8 0), 1, 1) by kernel_rfl)
  simp [zeroValue, typeInfo, hi, h0]
theorem zero37 (w : World) : (zeroValue 37).run Yba.prog w = .ok (.slice none 0 0) w := by
  obtain ⟨i, hi, h0, _, _⟩ := info_parts (show (Yba.prog.info? 37).map (fun i => (i.zero, i.size, i.bytes)) = some (some (.slice none 0 0), 1, 24) by kernel_rfl)
  simp [zeroValue, typeInfo, hi, h0]
theorem zero36 (w : World) : (zeroValue 36).run Yba.prog w = .ok (ow 0 0 0) w := by
  obtain ⟨i, hi, h0, _, _⟩ := info_parts (show (Yba.prog.info? 36).map (fun i => (i.zero, i.size, i.bytes)) = some (some (ow 0 0 0), 7, 40) by kernel_rfl)
  simp [zeroValue, typeInfo, hi, h0]

abbrev kc (s : ByteArray) (m : Int) : Array Value := #[.int .u8 1, .bool false, .int .u8 0, .bool false, .pointer none, .iface 9 (.string s), .int .u8 m]

/-- The two boxed values lie at blocks x and x + 1. -/
structure Box (x : Nat) (w w1 : World) (kn : ByteArray) (km : Int) (vs : ByteArray) (vm : Int) : Prop where
  k : w1.heap[x]? = some (.cells (kc kn km) 36 (0, 0))
  v : w1.heap[x + 1]? = some (.cells (kc vs vm) 36 (0, 0))
  gr : w.grownBy w1 none

theorem box_of {w w1 : World} {kn vs : ByteArray} {km vm : Int} (h : ((w.alloc (.cells (kc kn km) 36)).alloc (.cells (kc vs vm) 36)).grownBy w1 none) : Box w.heap.size w w1 kn km vs vm := by
  refine ⟨(h.block _ (by simp; omega) (by simp)).trans ?_, (h.block _ (by simp) (by simp)).trans ?_, ((World.grownBy_alloc w _ none).trans (World.grownBy_alloc _ _ none)).trans h⟩
  · rw [Below.heap_alloc _ _ _ (by simp)]
    exact heap_alloc_new w _
  · have := heap_alloc_new (w.alloc (.cells (kc kn km) 36)) (.cells (kc vs vm) 36)
    simpa using this

theorem Box.grown {x : Nat} {w w1 w2 : World} {kn vs : ByteArray} {km vm : Int} (h : Box x w w1 kn km vs vm) (hg : w1.grownBy w2 none) : Box x w w2 kn km vs vm :=
  ⟨(hg.block _ (lt_of_block h.k) (by simp)).trans h.k, (hg.block _ (lt_of_block h.v) (by simp)).trans h.v, h.gr.trans hg⟩

theorem cells7 {w : World} {x : Nat} {s : ByteArray} {m : Int} (h : w.heap[x]? = some (.cells (kc s m) 36 (0, 0))) :
    w.cell? ⟨x, 0, none⟩ = some (.int .u8 1) ∧ w.cell? ⟨x, 1, none⟩ = some (.bool false) ∧ w.cell? ⟨x, 2, none⟩ = some (.int .u8 0) ∧ w.cell? ⟨x, 3, none⟩ = some (.bool false) ∧ w.cell? ⟨x, 4, none⟩ = some (.pointer none) ∧ w.cell? ⟨x, 5, none⟩ = some (.iface 9 (.string s)) ∧ w.cell? ⟨x, 6, none⟩ = some (.int .u8 m) := by
  refine ⟨?_, ?_, ?_, ?_, ?_, ?_, ?_⟩ <;> simp [World.cell?, h]

theorem eql_nil {t k e : TypeId} (ht : Yba.prog.underlying t = some (.map k e)) (m : Option Nat) (w : World) : (binOp .eql t (.map m) (.map none)).run Yba.prog w = .ok (.bool m.isNone) w := by
  have h : ∀ d : Nat, (Op.equalIn (d + 1) t (.map m) (.map none)).run Yba.prog w = .ok m.isNone w := fun d => by cases m <;> simp [Op.equalIn, run_underlying ht]
  simp only [binOp]
  simp [Op.equal, Op.maxDepth, h 9999]

/-- What the marks shown are behind the call. -/
def SF (km c : Int) (Fs : Fn) (k : List UInt8) : Fn := if km = 0 then Fs else upd Fs k (.int .u8 (if c < km then km else c))

/-- What add leaves. -/
def Done (base gS : Nat) (gr : Bool) (nm ks : Int) (n : Nat) (Fv Fg Fs : Fn) (kn vs : ByteArray) (km vm c : Int) (row : Option Nat) (l : Nat) (w w' : World) : Prop :=
  ∃ mv' mg' ms' n' Fv' Fg', n' ≤ n + 2 ∧ KS base w' gS gr nm ks mv' mg' ms' n' Fv' Fg' (SF km c Fs kn.data.toList) ∧ Kept base gS row w w' ∧
    (gr = false → Fv' = upd Fv kn.data.toList (kv vs vm) ∧ Fg' = Fg) ∧
    (gr = true → Fv' = Fv ∧ ∃ g cap, Fg' = upd Fg kn.data.toList (.slice (some ⟨g, 0, none⟩) (l + 1) cap) ∧ ∀ i, i < 7 → w'.cell? ⟨g, l * 7 + i, none⟩ = (kc vs vm)[i]?)

theorem Kept.any {base gS : Nat} {w w' : World} (h : Kept base gS none w w') (row : Option Nat) : Kept base gS row w w' := ⟨h.bel, fun j c t f hj _ hc => h.cells j c t f hj (by simp) hc, h.size⟩

theorem row_kept {base gS : Nat} {w w' : World} {v : Value} {l : Nat} {xs : List Value} {gr : Bool} {nm ks : Int} {mv mg ms : Option Nat} {n : Nat} {Fv Fg Fs : Fn} (h : KS base w gS gr nm ks mv mg ms n Fv Fg Fs) (hk : Kept base gS none w w') (hown : w.ownsRow base 36 7 v l xs) : w'.ownsRow base 36 7 v l xs := by
  refine ⟨hown.1, ?_⟩
  rcases hown.2 with h1 | ⟨g, cap, cur, hv, hb, hc, r⟩
  · exact .inl h1
  · refine .inr ⟨g, cap, cur, hv, hb, hk.cells _ _ _ _ (fun e => ?_) (by simp) hc, r⟩
    rw [e, h.blk] at hc
    simp at hc

theorem grown_drew (W : World) (o : Obj) : W.grownBy (W.alloc o).drew none := by
  have := World.grownBy_alloc W o none
  exact ⟨this.os, this.tape, this.output, this.size, this.block⟩

theorem done_group {base gS : Nat} {nm ks : Int} {mv ms' : Option Nat} {n n' b gg cap : Nat} {Fv Fg Fs : Fn} {kn vs : ByteArray} {km vm c : Int} {l : Nat} {xs : List Value} {w W w1 w5 : World} {sv : Value} (hn : n' ≤ n + 1) (hsv : (Fg kn.data.toList).getD (.slice none 0 0) = sv)
    (hW : KS base W gS true nm ks mv (some b) ms' n' Fv Fg (SF km c Fs kn.data.toList)) (hk : Kept base gS none w W) (hown : W.ownsRow base 36 7 sv l xs)
    (hg : ((W.alloc (.cells (kc vs vm) 36)).drew).grownBy w1 sv.ownBlock) (hown1 : w1.ownsRow base 36 7 (.slice (some ⟨gg, 0, none⟩) (l + 1) cap) (l + 1) (xs ++ (kc vs vm).toList))
    (hm5 : MapIs w5 b (n' + 1) (upd Fg kn.data.toList (.slice (some ⟨gg, 0, none⟩) (l + 1) cap))) (hg5 : w1.grownBy w5 (some b)) :
    Done base gS true nm ks n Fv Fg Fs kn vs km vm c sv.ownBlock l w w5 := by
  have ga : W.grownBy ((W.alloc (.cells (kc vs vm) 36)).drew) none := grown_drew W _
  have K1 := hW.grown ga
  have o1 : ((W.alloc (.cells (kc vs vm) 36)).drew).ownsRow base 36 7 sv l xs := hown.alloc _
  have K2 := K1.rowed o1 hg
  have hrow : ∀ j, sv.ownBlock = some j → base ≤ j := fun j hj => (o1.lt _ hj).1
  refine ⟨mv, some b, ms', n' + 1, Fv, _, by omega, K2.putG hm5 hg5, ?_, fun e => (by cases e), fun _ => ⟨rfl, gg, cap, rfl, fun i hi => ?_⟩⟩
  · exact (hk.any _).trans ((kept_grown hW.hB ga).trans ((kept_row hrow K1.hB hg).trans (kept_map K2.g.2 K2.g.1 K2.hB hg5)))
  · have e1 : w1.cell? ⟨gg, l * 7 + i, none⟩ = (xs ++ (kc vs vm).toList)[l * 7 + i]? := hown1.cellAt _ (by omega)
    have hx : xs.length = l * 7 := hown.1
    rw [List.getElem?_append_right (by omega), hx, show l * 7 + i - l * 7 = i by omega] at e1
    have hne : some gg ≠ some b := fun e => by
      cases e
      rcases hown1.2 with ⟨h', _⟩ | ⟨g', cap', cur, h', _, hc, _⟩
      · cases h'
      · cases h'; exact K2.g.2.no_cells hc
    have hlt : gg < w1.heap.size := (hown1.lt _ rfl).2
    have e2 : w5.cell? ⟨gg, l * 7 + i, none⟩ = w1.cell? ⟨gg, l * 7 + i, none⟩ := World.cell?_of_block (hg5.block _ hlt hne)
    rw [e2, e1]
    simp

set_option maxHeartbeats 4000000 in
set_option maxRecDepth 100000 in
theorem add_any (base gS : Nat) (gr : Bool) (nm ks : Int) (mv mg ms : Option Nat) (n : Nat) (Fv Fg Fs : Fn) (kn vs : ByteArray) (km vm c : Int) (w : World) (hx1 : w.heap.size ≠ gS) (hx2 : w.heap.size + 1 ≠ gS) (hkn : kn.size ≤ maxLen) (hn : n < 100) (hc : (Fs kn.data.toList).getD (.int .u8 0) = .int .u8 c) (h : KS base w gS gr nm ks mv mg ms n Fv Fg Fs)
    (l : Nat) (xs : List Value) (sv : Value) (hl : l ≤ 1) (hsv : (Fg kn.data.toList).getD (.slice none 0 0) = sv) (hown : w.ownsRow base 36 7 sv l xs) :
    Calls Yba.prog 10 #[.pointer (some ⟨gS, 0, none⟩), kv kn km, kv vs vm] w fun e w' => e = .returned (.tuple #[]) ∧ Done base gS gr nm ks n Fv Fg Fs kn vs km vm c sv.ownBlock l w w' := by
  have hnil28 := fun m w => eql_nil (t := 28) Yba.underlying28 m w
  have hmm := @run_makeMap Yba.prog
  go_enter Yba.func10, Yba.ntmps10
  go_upto_if 10 with (first
      | (go_at_call 13; refine (asString_any kn km _).mono ?_; rintro e w1 ⟨rfl, hg1⟩; have hb1 := box_of hg1; obtain ⟨k0, k1, k2, k3, k4, k5, k6⟩ := cells7 hb1.k; clear hg1)
      | (go_at_call 14; refine (isSensitive_any kn km _).mono ?_; rintro e w2 ⟨rfl, hg2⟩; have hb2 := hb1.grown hg2; clear hg2 k0 k1 k2 k3 k4 k5 k6 hb1; have hks := h.grown hb2.gr)
      | fail)
  have hkp : Kept base gS none w w2 := kept_grown h.hB hb2.gr
  have HB : Hid (Box w.heap.size w w2 kn km vs vm ∧ KS base w2 gS gr nm ks mv mg ms n Fv Fg Fs ∧ Kept base gS none w w2) := ⟨hb2, hks, hkp⟩
  clear hkp
  go_cut [] from 10 to 33 (fun wc => ∃ ms' n', n' ≤ n + 1 ∧ KS base wc gS gr nm ks mv mg ms' n' Fv Fg (SF km c Fs kn.data.toList) ∧ Kept base gS none w2 wc)
  case first =>
    by_cases hk0 : km = 0
    · have hne : (km != 0) = false := by simpa using hk0
      rw [hne]
      have HE : Hid (SF km c Fs kn.data.toList = Fs) := by show SF km c Fs kn.data.toList = Fs; simp [SF, hk0]
      clear hks hb2 hc
      go_wp2_with fail
      go_meet
      exact ⟨ms, n, by omega, by rw [HE.out]; exact HB.out.2.1, Kept.refl _ _ _ _⟩
    · have hne : (km != 0) = true := by simpa using hk0
      rw [hne]
      have HE : Hid (SF km c Fs kn.data.toList = upd Fs kn.data.toList (.int .u8 (if c < km then km else c))) := by show SF km c Fs kn.data.toList = _; simp [SF, hk0]
      have t3 := hks.c3
      have f3 := hks.free 3
      have hlt := hks.lt
      clear hks hb2
      cases ms with
      | none =>
        go_upto_region 5 with fail
        have hcm : (w2.alloc (.map #[] 0)).setCell ⟨gS, 3, none⟩ (.map (some w2.heap.size)) = (w2.setCell ⟨gS, 3, none⟩ (.map (some w2.heap.size))).alloc (.map #[] 0) := World.setCell_alloc_past _ _ _ _ hlt
        have HK3 : Hid (KS base ((w2.setCell ⟨gS, 3, none⟩ (.map (some w2.heap.size))).alloc (.map #[] 0)) gS gr nm ks mv mg (some w2.heap.size) n Fv Fg Fs ∧ Kept base gS none w2 ((w2.setCell ⟨gS, 3, none⟩ (.map (some w2.heap.size))).alloc (.map #[] 0))) := by
          rw [← hcm]; exact ⟨HB.out.2.1.newS, kept_new HB.out.2.1.hB h.hS 3 _ _⟩
        clear hcm t3 f3 hlt
        generalize (w2.setCell ⟨gS, 3, none⟩ (.map (some w2.heap.size))).alloc (.map #[] 0) = W at *
        generalize w2.heap.size = b at *
        have hks := HK3.out.1
        have t3 := hks.c3
        have hbx : W.heap[w.heap.size]? = some (.cells (kc kn km) 36 (0, 0)) := HK3.out.2.cells _ _ _ _ hx1 (by simp) HB.out.1.k
        have k6 := (cells7 hbx).2.2.2.2.2.2
        have hksd : KS base W.drew gS gr nm ks mv mg (some b) n Fv Fg Fs := hks.drewN 1
        have hlk := hksd.s.2.look Yba.underlying28 (zero25 _) hkn
        rw [hc] at hlk
        obtain ⟨w5, hupd, hm5, hg5⟩ := hksd.s.2.put Yba.underlying28 (by unfold maxLen; omega) hkn (.int .u8 (if c < km then km else c))
        clear hks hbx hksd
        go_region
        all_goals go_wp2_with fail
        all_goals
          go_meet
          refine ⟨some b, n + 1, Nat.le_refl _, ?_, ?_⟩
          · rw [HE.out]; exact (HK3.out.1.drewN 1).putS hm5 hg5
          · exact (HK3.out.2.drewN 1).trans (kept_map (HK3.out.1.drewN 1).s.2 (HK3.out.1.drewN 1).s.1 (HK3.out.1.drewN 1).hB hg5)
      | some b =>
        go_upto_region 5 with fail
        have HK3 : Hid (KS base w2 gS gr nm ks mv mg (some b) n Fv Fg Fs ∧ Kept base gS none w2 w2) := ⟨HB.out.2.1, Kept.refl _ _ _ _⟩
        clear t3 f3 hlt
        obtain ⟨W, hW⟩ : ∃ W : World, W = w2 := ⟨_, rfl⟩
        rw [← hW]
        have HW : Hid (W = w2) := hW
        have HK3 : Hid (KS base W gS gr nm ks mv mg (some b) n Fv Fg Fs ∧ Kept base gS none w2 W) := by rw [hW]; exact HK3
        clear hW
        have hks := HK3.out.1
        have t3 := hks.c3
        have hbx : W.heap[w.heap.size]? = some (.cells (kc kn km) 36 (0, 0)) := HK3.out.2.cells _ _ _ _ hx1 (by simp) HB.out.1.k
        have k6 := (cells7 hbx).2.2.2.2.2.2
        have hksd : KS base W.drew gS gr nm ks mv mg (some b) n Fv Fg Fs := hks.drewN 1
        have hlk := hksd.s.2.look Yba.underlying28 (zero25 _) hkn
        rw [hc] at hlk
        obtain ⟨w5, hupd, hm5, hg5⟩ := hksd.s.2.put Yba.underlying28 (by unfold maxLen; omega) hkn (.int .u8 (if c < km then km else c))
        clear hks hbx hksd
        go_region
        all_goals go_wp2_with fail
        all_goals
          go_meet
          refine ⟨some b, n + 1, Nat.le_refl _, ?_, ?_⟩
          · rw [HE.out]; exact (HK3.out.1.drewN 1).putS hm5 hg5
          · exact (HK3.out.2.drewN 1).trans (kept_map (HK3.out.1.drewN 1).s.2 (HK3.out.1.drewN 1).s.1 (HK3.out.1.drewN 1).hB hg5)
  case rest =>
    obtain ⟨ms', n', hn', hks', hkp'⟩ := hcut
    rename World => W0
    have HR : Hid (KS base W0 gS gr nm ks mv mg ms' n' Fv Fg (SF km c Fs kn.data.toList) ∧ Kept base gS none w W0) := ⟨hks', HB.out.2.2.trans hkp'⟩
    have hbv : W0.heap[w.heap.size + 1]? = some (.cells (kc vs vm) 36 (0, 0)) := hkp'.cells _ _ _ _ hx2 (by simp) HB.out.1.v
    have HV : Hid (W0.heap[w.heap.size + 1]? = some (.cells (kc vs vm) 36 (0, 0))) := hbv
    have t0 := hks'.c0
    clear hnil28 hks hb2 hc
    cases gr with
    | false =>
      have t1 := hks'.c1
      have f1 := hks'.free 1
      have hlt := hks'.lt
      have hnil26 := fun m w => eql_nil (t := 26) Yba.underlying26 m w
      clear hks' hkp' hbv
      go_upto_if 43 with fail
      go_cut [] from 43 to 47 (fun wx => ∃ b, KS base wx gS false nm ks (some b) mg ms' n' Fv Fg (SF km c Fs kn.data.toList) ∧ Kept base gS none W0 wx)
      case first =>
        cases mv with
        | none =>
          have hcm : (W0.alloc (.map #[] 0)).setCell ⟨gS, 1, none⟩ (.map (some W0.heap.size)) = (W0.setCell ⟨gS, 1, none⟩ (.map (some W0.heap.size))).alloc (.map #[] 0) := World.setCell_alloc_past _ _ _ _ hlt
          have HK3 : Hid (KS base ((W0.setCell ⟨gS, 1, none⟩ (.map (some W0.heap.size))).alloc (.map #[] 0)) gS false nm ks (some W0.heap.size) mg ms' n' Fv Fg (SF km c Fs kn.data.toList) ∧ Kept base gS none W0 ((W0.setCell ⟨gS, 1, none⟩ (.map (some W0.heap.size))).alloc (.map #[] 0))) := by
            rw [← hcm]; exact ⟨HR.out.1.newV, kept_new HR.out.1.hB h.hS 1 _ _⟩
          clear hcm
          go_wp2_with fail
          go_meet
          exact ⟨W0.heap.size, HK3.out⟩
        | some b =>
          go_wp2_with fail
          go_meet
          exact ⟨b, HR.out.1, Kept.refl _ _ _ _⟩
      case rest =>
        obtain ⟨b, hkb, hkw⟩ := hcut
        rename World => W
        have HK3 : Hid (KS base W gS false nm ks (some b) mg ms' n' Fv Fg (SF km c Fs kn.data.toList) ∧ Kept base gS none W0 W) := ⟨hkb, hkw⟩
        clear t1 f1 hlt hkb hkw
        have hks := HK3.out.1
        have t1 := hks.c1
        obtain ⟨v0, v1, v2, v3, v4, v5, v6⟩ := cells7 (HK3.out.2.cells _ _ _ _ hx2 (by simp) HV.out)
        have hksd : KS base W.drew gS false nm ks (some b) mg ms' n' Fv Fg (SF km c Fs kn.data.toList) := hks.drewN 1
        obtain ⟨w5, hupd, hm5, hg5⟩ := hksd.v.2.put Yba.underlying26 (by unfold maxLen; omega) hkn (kv vs vm)
        clear hks hksd t0
        go_upto_region 9 with fail
        go_region
        all_goals go_wp2_with fail
        all_goals
          (try simp only [Exit.inBlock, Exit.then])
          refine bodyPost_ret (results_none rfl _ _ _) rfl ?_
          refine ⟨rfl, ⟨some b, mg, ms', n' + 1, upd Fv kn.data.toList (kv vs vm), Fg, by omega, (HK3.out.1.drewN 1).putV hm5 hg5, ?_, fun _ => ⟨rfl, rfl⟩, fun e => by cases e⟩⟩
          exact (HR.out.2.any _).trans (((HK3.out.2.any _).drewN 1).trans (kept_map (HK3.out.1.drewN 1).v.2 (HK3.out.1.drewN 1).v.1 (HK3.out.1.drewN 1).hB hg5))
    | true =>
      have t2 := hks'.c2
      have f2 := hks'.free 2
      have hlt := hks'.lt
      have hnil27 := fun m w => eql_nil (t := 27) Yba.underlying27 m w
      clear hks' hkp' hbv
      go_upto_if 58 with fail
      go_cut [] from 58 to 62 (fun wx => ∃ b, KS base wx gS true nm ks mv (some b) ms' n' Fv Fg (SF km c Fs kn.data.toList) ∧ Kept base gS none W0 wx)
      case first =>
        cases mg with
        | none =>
          have hcm : (W0.alloc (.map #[] 0)).setCell ⟨gS, 2, none⟩ (.map (some W0.heap.size)) = (W0.setCell ⟨gS, 2, none⟩ (.map (some W0.heap.size))).alloc (.map #[] 0) := World.setCell_alloc_past _ _ _ _ hlt
          have HK3 : Hid (KS base ((W0.setCell ⟨gS, 2, none⟩ (.map (some W0.heap.size))).alloc (.map #[] 0)) gS true nm ks mv (some W0.heap.size) ms' n' Fv Fg (SF km c Fs kn.data.toList) ∧ Kept base gS none W0 ((W0.setCell ⟨gS, 2, none⟩ (.map (some W0.heap.size))).alloc (.map #[] 0))) := by
            rw [← hcm]; exact ⟨HR.out.1.newG, kept_new HR.out.1.hB h.hS 2 _ _⟩
          clear hcm
          go_wp2_with fail
          go_meet
          exact ⟨W0.heap.size, HK3.out⟩
        | some b =>
          go_wp2_with fail
          go_meet
          exact ⟨b, HR.out.1, Kept.refl _ _ _ _⟩
      case rest =>
        obtain ⟨b, hkb, hkw⟩ := hcut
        rename World => W
        have HK3 : Hid (KS base W gS true nm ks mv (some b) ms' n' Fv Fg (SF km c Fs kn.data.toList) ∧ Kept base gS none W0 W) := ⟨hkb, hkw⟩
        clear t2 f2 hlt hkb hkw
        have hks := HK3.out.1
        have t2 := hks.c2
        have lS := hks.lt
        have hvW := HK3.out.2.cells _ _ _ _ hx2 (by simp) HV.out
        have lV := lt_of_block hvW
        obtain ⟨v0, v1, v2, v3, v4, v5, v6⟩ := cells7 hvW
        have hrw : W.ownsRow base 36 7 sv l xs := row_kept HR.out.1 HK3.out.2 (row_kept h HR.out.2 hown)
        have hksd : KS base W.drew gS true nm ks mv (some b) ms' n' Fv Fg (SF km c Fs kn.data.toList) := hks.drewN 1
        have hksa : KS base (W.alloc (.cells (kc vs vm) 36)).drew gS true nm ks mv (some b) ms' n' Fv Fg (SF km c Fs kn.data.toList) := hks.grown (grown_drew W _)
        have hlk := hksd.g.2.look Yba.underlying27 (zero37 _) hkn
        rw [hsv] at hlk
        have hlk2 := hksa.g.2.look Yba.underlying27 (zero37 _) hkn
        rw [hsv] at hlk2
        have HG : Hid (KS base (W.alloc (.cells (kc vs vm) 36)).drew gS true nm ks mv (some b) ms' n' Fv Fg (SF km c Fs kn.data.toList)) := hksa
        have hBW := hks.hB
        obtain ⟨i0, hi, hz0, hz1, hz2⟩ := info_parts (show (Yba.prog.info? 36).map (fun i => (i.zero, i.size, i.bytes)) = some (some (ow 0 0 0), 7, 40) by kernel_rfl)
        have hm1 : l + 1 ≤ maxLen := by unfold maxLen; omega
        clear hks hksd hksa hvW t0
        go_upto_region 12 with fail
        go_region_law ((refine step_append_lies _ rfl (.tmp 73) (.tmp 75) 37 rfl base 36 i0 _ 7 40 Yba.underlying37 hi hz0 hz1 hz2 rfl (by omega) sv l _ (by simp [Act.eval]) ((hrw.alloc _).drew) ⟨W.heap.size, 0, none⟩ 1 1 (kc vs vm).toList (by simp [Act.eval]) (by rfl) (World.news_of_block (cs := kc vs vm) (t := 36) (fr := (0, 0)) (heap_alloc_new W _)) (by simp [Value.oneCell']) (by omega) hm1 (by omega) (by simp; omega) (W.heap.size + 1) (by simp) ?_; intro gg cap w1 hown1 hgrow hat hltg; have kk := HG.out.rowed (hrw.alloc _) hgrow; have q2 := kk.c2; obtain ⟨w5, hupd, hm5, hg5⟩ := kk.g.2.put Yba.underlying27 (by unfold maxLen; omega) hkn (.slice (some ⟨gg, 0, none⟩) (l + 1) cap); clear kk))
        all_goals go_wp2_with fail
        all_goals
          go_end0
          exact ⟨rfl, done_group (by omega) hsv HK3.out.1 (HR.out.2.trans HK3.out.2) hrw hgrow hown1 hm5 hg5⟩
end Go.Proofs.Ybulkpyo.AddOwn
