/- LawS0820BAddOwn: the walk. -/
import Derived.Test.YbulkpyoAfter
namespace Go.Proofs.Ybulkpyo.AddOwn
open Go.RowKit Go.Maps
set_option linter.unusedVariables false
set_option linter.unusedSimpArgs false

/-- Between the law's three map literals. -/
structure Mid (B : Nat) (w W : World) (ar : Array Value) (gr : Bool) (nm ks : Int) (mv mg ms : Option Nat) (n : Nat) (Fv Fg Fs : Fn) : Prop where
  arg : W.heap[B]? = some (.cells ar 23 (0, 0))
  od : W.heap[B + 1 + 1]? = some (.cells (kc old 0) 36 (0, 0))
  st : KS B W (B + 1) gr nm ks mv mg ms n Fv Fg Fs
  bel : Below B w W

section
variable {B : Nat} {w W w1 : World} {ar : Array Value} {gr : Bool} {nm ks : Int} {mv mg ms : Option Nat} {n : Nat} {Fv Fg Fs F : Fn}

theorem Mid.grown (h : Mid B w W ar gr nm ks mv mg ms n Fv Fg Fs) (hg : W.grownBy w1 none) : Mid B w w1 ar gr nm ks mv mg ms n Fv Fg Fs :=
  ⟨(hg.block _ (lt_of_block h.arg) (by simp)).trans h.arg, (hg.block _ (lt_of_block h.od) (by simp)).trans h.od, h.st.grown hg, h.bel.grown hg h.st.hB (fun k hk => by cases hk)⟩
theorem Mid.far {mv' mg' ms' : Option Nat} {n' : Nat} {Fv' Fg' Fs' : Fn} (h : Mid B w W ar gr nm ks mv mg ms n Fv Fg Fs) (o : Nat) (u : Value) (hs : KS B (W.setCell ⟨B + 1, o, none⟩ u) (B + 1) gr nm ks mv' mg' ms' n' Fv' Fg' Fs') : Mid B w (W.setCell ⟨B + 1, o, none⟩ u) ar gr nm ks mv' mg' ms' n' Fv' Fg' Fs' :=
  ⟨(Below.heap_setCell _ _ _ _ (by show B ≠ B + 1; omega)).trans h.arg, (Below.heap_setCell _ _ _ _ (by show B + 1 + 1 ≠ B + 1; omega)).trans h.od, hs, h.bel.setCell (p := ⟨B + 1, o, none⟩) (by show B ≤ B + 1; omega) u⟩
theorem MP.fresh {m : Option Nat} {base : Nat} (h : MP base W m n F) : m ≠ some W.heap.size := by
  rintro rfl
  exact absurd h.lt (Nat.lt_irrefl _)

theorem Mid.setV (h : Mid B w W ar gr nm ks none mg ms n Fv Fg Fs) (hg : (W.alloc (.map #[] 0)).grownBy w1 (some W.heap.size)) (hm : MapIs w1 W.heap.size 1 F) : Mid B w (w1.setCell ⟨B + 1, 1, none⟩ (.map (some W.heap.size))) ar gr nm ks (some W.heap.size) mg ms (n + 1) F Fg Fs :=
  have h1 := h.grown (grown_fresh hg)
  h1.far 1 _ (h1.st.setV h.st.hB hm h.st.g.fresh h.st.s.fresh)
theorem Mid.setS (h : Mid B w W ar gr nm ks mv mg none n Fv Fg Fs) (hg : (W.alloc (.map #[] 0)).grownBy w1 (some W.heap.size)) (hm : MapIs w1 W.heap.size 1 F) : Mid B w (w1.setCell ⟨B + 1, 3, none⟩ (.map (some W.heap.size))) ar gr nm ks mv mg (some W.heap.size) (n + 1) Fv Fg F :=
  have h1 := h.grown (grown_fresh hg)
  h1.far 3 _ (h1.st.setS h.st.hB hm h.st.v.fresh h.st.g.fresh)
theorem Mid.setG (h : Mid B w W ar gr nm ks mv none ms n Fv Fg Fs) (hg : ((W.alloc (.map #[] 0)).alloc (.cells (kc old 0) 36)).grownBy w1 (some W.heap.size)) (hm : MapIs w1 W.heap.size 1 F) : Mid B w (w1.setCell ⟨B + 1, 2, none⟩ (.map (some W.heap.size))) ar gr nm ks mv (some W.heap.size) ms (n + 1) Fv F Fs ∧ (w1.setCell ⟨B + 1, 2, none⟩ (.map (some W.heap.size))).heap[W.heap.size + 1]? = some (.cells (kc old 0) 36 (0, 0)) := by
  have h1 := h.grown (grown_fresh2 hg)
  refine ⟨h1.far 2 _ (h1.st.setG h.st.hB hm h.st.v.fresh h.st.s.fresh), ?_⟩
  have hl := h.st.lt
  rw [Below.heap_setCell _ _ _ _ (show W.heap.size + 1 ≠ B + 1 by omega), hg.block _ (by simp) (by simp)]
  have := heap_alloc_new (W.alloc (.map #[] 0)) (.cells (kc old 0) 36)
  simpa using this
end

theorem pre_start (w : World) (ar : Array Value) (gr : Bool) (nm ks : Int) :
    (((w.alloc (.cells ar 23)).alloc (.cells #[.bool gr, .map none, .map none, .map none, .int .u8 nm, .int .u8 ks] 30)).alloc (.cells (kc old 0) 36)).heap[w.heap.size]? = some (.cells ar 23 (0, 0)) ∧
    (((w.alloc (.cells ar 23)).alloc (.cells #[.bool gr, .map none, .map none, .map none, .int .u8 nm, .int .u8 ks] 30)).alloc (.cells (kc old 0) 36)).heap[w.heap.size + 1 + 1]? = some (.cells (kc old 0) 36 (0, 0)) ∧
    KS w.heap.size (((w.alloc (.cells ar 23)).alloc (.cells #[.bool gr, .map none, .map none, .map none, .int .u8 nm, .int .u8 ks] 30)).alloc (.cells (kc old 0) 36)) (w.heap.size + 1) gr nm ks none none none 0 nilF nilF nilF ∧
    Below w.heap.size w (((w.alloc (.cells ar 23)).alloc (.cells #[.bool gr, .map none, .map none, .map none, .int .u8 nm, .int .u8 ks] 30)).alloc (.cells (kc old 0) 36)) ∧
    w.heap.size + 1 + 1 < (((w.alloc (.cells ar 23)).alloc (.cells #[.bool gr, .map none, .map none, .map none, .int .u8 nm, .int .u8 ks] 30)).alloc (.cells (kc old 0) 36)).heap.size := by
  refine ⟨?_, ?_, ?_, ?_, by simp⟩
  · rw [Below.heap_alloc _ _ _ (by simp; omega), Below.heap_alloc _ _ _ (by simp)]; exact heap_alloc_new w _
  · have := heap_alloc_new ((w.alloc (.cells ar 23)).alloc (.cells #[.bool gr, .map none, .map none, .map none, .int .u8 nm, .int .u8 ks] 30)) (.cells (kc old 0) 36)
    simpa using this
  · refine { blk := ?_, hS := by omega, hB := by simp; omega, v := rfl, g := rfl, s := rfl, a1 := fun b e => (by cases e), a2 := fun b e => (by cases e), a3 := fun b e => (by cases e) }
    rw [Below.heap_alloc _ _ _ (by simp)]
    have := heap_alloc_new (w.alloc (.cells ar 23)) (.cells #[.bool gr, .map none, .map none, .map none, .int .u8 nm, .int .u8 ks] 30)
    simpa using this
  · exact (((Below.refl _ _).alloc (Nat.le_refl _) _).alloc (by simp) _).alloc (by simp; omega) _

theorem MP.look {base : Nat} {w : World} {m : Option Nat} {n : Nat} {F : Fn} (h : MP base w m n F) {t e : TypeId} (ht : Yba.prog.underlying t = some (.map 9 e)) {z : Value} (hz : (zeroValue e).run Yba.prog w = .ok z w) {s : ByteArray} (hs : s.size ≤ maxLen) :
    (Instr.lookup t (.map m) (.string s) false).run Yba.prog w = .ok ((F s.data.toList).getD z) w := by
  cases m with
  | none =>
    have h : F = fun _ => none := h
    subst h
    exact look_none false ht hz hs
  | some b => exact h.2.look ht hz hs
theorem MP.look_ok {base : Nat} {w : World} {m : Option Nat} {n : Nat} {F : Fn} (h : MP base w m n F) {t e : TypeId} (ht : Yba.prog.underlying t = some (.map 9 e)) {z : Value} (hz : (zeroValue e).run Yba.prog w = .ok z w) {s : ByteArray} (hs : s.size ≤ maxLen) :
    (Instr.lookup t (.map m) (.string s) true).run Yba.prog w = .ok (.tuple #[(F s.data.toList).getD z, .bool (F s.data.toList).isSome]) w := by
  cases m with
  | none =>
    have h : F = fun _ => none := h
    subst h
    exact look_none true ht hz hs
  | some b => exact h.2.look_ok ht hz hs

theorem and_not {a b : Bool} (h : true = (a && !b)) : a = true ∧ b = false := by cases a <;> cases b <;> simp at h ⊢

theorem grown_drewN {w w' : World} {row : Option Nat} (h : w.grownBy w' row) (q : Nat) : w.grownBy (w'.drewN q) row := ⟨h.os, h.tape, h.output, h.size, h.block⟩

theorem below_drewN {b : Nat} {w w' : World} (h : Below b w w') (q : Nat) : Below b w (w'.drewN q) := ⟨h.os, h.tape, h.output, h.size, h.block⟩

theorem beq_dec (a b : List UInt8) : (a == b) = decide (a = b) := by by_cases e : a = b <;> simp [e]

theorem Pre.grown {B : Nat} {w W w1 : World} {ar : Array Value} {gr : Bool} {nm ks : Int} {kn pn : ByteArray} {pm : Int} {pre same : Bool} {mv mg ms : Option Nat} {n go : Nat} {Fv Fg Fs : Fn} (h : Pre B w W ar gr nm ks kn pn pm pre same mv mg ms n go Fv Fg Fs) (hg : W.grownBy w1 none) : Pre B w w1 ar gr nm ks kn pn pm pre same mv mg ms n go Fv Fg Fs :=
  { hn := h.hn, arg := (hg.block _ (lt_of_block h.arg) (by simp)).trans h.arg, od := (hg.block _ (lt_of_block h.od) (by simp)).trans h.od, st := h.st.grown hg, bel := h.bel.grown hg h.st.hB (fun k hk => by cases hk), aV := h.aV, aG := h.aG, aS := h.aS, bV := h.bV, bG := h.bG, row := fun e => ⟨(hg.block _ (lt_of_block (h.row e).1) (by simp)).trans (h.row e).1, (h.row e).2⟩ }

set_option maxHeartbeats 4000000 in
set_option maxRecDepth 100000 in
theorem lawB_any (gr : Bool) (nm ks : Int) (kn : ByteArray) (km : Int) (vs : ByteArray) (vm ok om oq : Int) (pre : Bool) (pn : ByteArray) (pm : Int) (same : Bool) (w : World) (hok : 0 ≤ ok ∧ ok ≤ 255) (hkn : kn.size ≤ maxLen) (hpn : pn.size ≤ maxLen) (hsame : same = (pre && decide (pn.data.toList = kn.data.toList))) :
    Calls Yba.prog 3 #[.agg (inc gr nm ks kn km vs vm ok om oq pre pn pm)] w fun e w' => e = .returned (.bool true) ∧ Below w.heap.size w w' := by
  have hmm := @run_makeMap Yba.prog
  go_enter Yba.func3, Yba.ntmps3
  go_upto_if 36 with fail
  obtain ⟨p1, p2, p3, p4, p5⟩ := pre_start w (inc gr nm ks kn km vs vm ok om oq pre pn pm) gr nm ks
  have HP : Hid (KS w.heap.size (((w.alloc (.cells (inc gr nm ks kn km vs vm ok om oq pre pn pm) 23)).alloc (.cells #[.bool gr, .map none, .map none, .map none, .int .u8 nm, .int .u8 ks] 30)).alloc (.cells (kc old 0) 36)) (w.heap.size + 1) gr nm ks none none none 0 nilF nilF nilF) := p3
  have HA : Hid ((((w.alloc (.cells (inc gr nm ks kn km vs vm ok om oq pre pn pm) 23)).alloc (.cells #[.bool gr, .map none, .map none, .map none, .int .u8 nm, .int .u8 ks] 30)).alloc (.cells (kc old 0) 36)).heap[w.heap.size]? = some (.cells (inc gr nm ks kn km vs vm ok om oq pre pn pm) 23 (0, 0)) ∧ (((w.alloc (.cells (inc gr nm ks kn km vs vm ok om oq pre pn pm) 23)).alloc (.cells #[.bool gr, .map none, .map none, .map none, .int .u8 nm, .int .u8 ks] 30)).alloc (.cells (kc old 0) 36)).heap[w.heap.size + 1 + 1]? = some (.cells (kc old 0) 36 (0, 0)) ∧ Below w.heap.size w (((w.alloc (.cells (inc gr nm ks kn km vs vm ok om oq pre pn pm) 23)).alloc (.cells #[.bool gr, .map none, .map none, .map none, .int .u8 nm, .int .u8 ks] 30)).alloc (.cells (kc old 0) 36)) ∧ w.heap.size + 1 + 1 < (((w.alloc (.cells (inc gr nm ks kn km vs vm ok om oq pre pn pm) 23)).alloc (.cells #[.bool gr, .map none, .map none, .map none, .int .u8 nm, .int .u8 ks] 30)).alloc (.cells (kc old 0) 36)).heap.size) := ⟨p1, p2, p4, p5⟩
  clear p1 p2 p3 p4 p5
  generalize ((w.alloc (.cells (inc gr nm ks kn km vs vm ok om oq pre pn pm) 23)).alloc (.cells #[.bool gr, .map none, .map none, .map none, .int .u8 nm, .int .u8 ks] 30)).alloc (.cells (kc old 0) 36) = W at *
  obtain ⟨B, hB⟩ : ∃ B, B = w.heap.size := ⟨_, rfl⟩
  have HBB : Hid (B = w.heap.size) := hB
  rw [← hB] at HP HA ⊢
  clear hB
  go_cut [] from 36 to 62 (fun wc => ∃ mv mg ms n go Fv Fg Fs, Pre B w wc (inc gr nm ks kn km vs vm ok om oq pre pn pm) gr nm ks kn pn pm pre same mv mg ms n go Fv Fg Fs)
  case first =>
    cases pre with
    | false =>
      have HSM : Hid (same = false) := by show same = false; rw [hsame]; rfl
      clear hsame
      go_wp2_with fail
      go_meet
      exact ⟨none, none, none, 0, 0, nilF, nilF, nilF, { hn := by omega, arg := HA.out.1, od := HA.out.2.1, st := HP.out, bel := HA.out.2.2.1, aV := by rw [HSM.out]; rfl, aG := by rw [HSM.out]; rfl, aS := by rw [HSM.out]; rfl, bV := fun e => (by cases e), bG := fun e => (by cases e), row := fun e => by rw [HSM.out] at e; cases e }⟩
    | true =>
      have a11 := (cellsI HA.out.1).2.2.2.2.2.2.2.2.2.2.2.1
      have a12 := (cellsI HA.out.1).2.2.2.2.2.2.2.2.2.2.2.2
      obtain ⟨d0, d1, d2, d3, d4, d5, d6⟩ := cells7 HA.out.2.1
      have lB : B < W.heap.size := lt_of_block HA.out.1
      have lO : B + 1 + 1 < W.heap.size := HA.out.2.2.2
      go_upto_region 5 with (refine wpList_put _ rfl _ _ _ 26 (.inr rfl) 36 Yba.underlying26 _ 0 _ rfl (MapIs.made _) (by unfold maxLen; omega) pn (kv old 0) rfl hpn rfl ?_; intro w1 hm1 hg1; have hk1 := HP.out.grown (grown_fresh hg1); have q1 := hk1.c1; have g1 := hk1.free 1; clear hk1)
      have HM : Hid (Mid B w (w1.setCell ⟨B + 1, 1, none⟩ (.map (some W.heap.size))) (inc gr nm ks kn km vs vm ok om oq true pn pm) gr nm ks (some W.heap.size) none none 1 (upd nilF pn.data.toList (kv old 0)) nilF nilF) := Mid.setV ⟨HA.out.1, HA.out.2.1, HP.out, HA.out.2.2.1⟩ hg1 hm1
      have lX : B + 1 + 1 < (w1.setCell ⟨B + 1, 1, none⟩ (.map (some W.heap.size))).heap.size := lt_of_block HM.out.od
      clear hm1 hg1 q1 g1 a11 a12 d0 d1 d2 d3 d4 d5 d6 lB lO HP HA
      generalize w1.setCell ⟨B + 1, 1, none⟩ (.map (some W.heap.size)) = W1 at *
      generalize W.heap.size = bv at *
      have a11 := (cellsI HM.out.arg).2.2.2.2.2.2.2.2.2.2.2.1
      have a12 := (cellsI HM.out.arg).2.2.2.2.2.2.2.2.2.2.2.2
      obtain ⟨d0, d1, d2, d3, d4, d5, d6⟩ := cells7 HM.out.od
      have lB : B < W1.heap.size := lt_of_block HM.out.arg
      go_upto_region 6 with (refine wpList_put _ rfl _ _ _ 27 (.inr rfl) 37 Yba.underlying27 _ 0 _ rfl ((MapIs.made _).kept (Below.heap_alloc _ _ _ (by simp))) (by unfold maxLen; omega) pn (.slice (some ⟨W1.heap.size + 1, 0, none⟩) 1 1) rfl hpn rfl ?_; intro w2 hm2 hg2; have hk2 := HM.out.st.grown (grown_fresh2 hg2); have q2 := hk2.c2; have g2 := hk2.free 2; clear hk2)
      obtain ⟨hmid, hrow⟩ := HM.out.setG hg2 hm2
      have HN : Hid (Mid B w (w2.setCell ⟨B + 1, 2, none⟩ (.map (some W1.heap.size))) (inc gr nm ks kn km vs vm ok om oq true pn pm) gr nm ks (some bv) (some W1.heap.size) none 2 (upd nilF pn.data.toList (kv old 0)) (upd nilF pn.data.toList (.slice (some ⟨W1.heap.size + 1, 0, none⟩) 1 1)) nilF ∧ (w2.setCell ⟨B + 1, 2, none⟩ (.map (some W1.heap.size))).heap[W1.heap.size + 1]? = some (.cells (kc old 0) 36 (0, 0)) ∧ B + 1 + 1 < W1.heap.size + 1) := ⟨hmid, hrow, by omega⟩
      clear hm2 hg2 q2 g2 a11 a12 d0 d1 d2 d3 d4 d5 d6 lB lX hmid hrow HM
      generalize w2.setCell ⟨B + 1, 2, none⟩ (.map (some W1.heap.size)) = W2 at *
      generalize W1.heap.size = bg at *
      have a11 := (cellsI HN.out.1.arg).2.2.2.2.2.2.2.2.2.2.2.1
      have a12 := (cellsI HN.out.1.arg).2.2.2.2.2.2.2.2.2.2.2.2
      have lB : B < W2.heap.size := lt_of_block HN.out.1.arg
      go_wp2_with (refine wpList_put _ rfl _ _ _ 28 (.inr rfl) 25 Yba.underlying28 _ 0 _ rfl (MapIs.made _) (by unfold maxLen; omega) pn (.int .u8 pm) rfl hpn rfl ?_; intro w3 hm3 hg3; have hk3 := HN.out.1.st.grown (grown_fresh hg3); have q3 := hk3.c3; have g3 := hk3.free 3; clear hk3)
      go_meet
      have hmid := HN.out.1.setS hg3 hm3
      have hr : (w3.setCell ⟨B + 1, 3, none⟩ (.map (some W2.heap.size))).heap[bg + 1]? = some (.cells (kc old 0) 36 (0, 0)) := (Below.heap_setCell _ _ _ _ (by have := HN.out.2.2; show bg + 1 ≠ B + 1; omega)).trans (((grown_fresh hg3).block _ (lt_of_block HN.out.2.1) (by simp)).trans HN.out.2.1)
      refine ⟨_, _, _, _, bg + 1, _, _, _, { hn := Nat.le_refl _, arg := hmid.arg, od := hmid.od, st := hmid.st, bel := hmid.bel, aV := ?_, aG := ?_, aS := ?_, bV := fun _ => by simp [upd], bG := fun _ => by simp [upd], row := fun _ => ⟨hr, HN.out.2.2⟩ }⟩
      all_goals
        rw [hsame]
        by_cases e : pn.data.toList = kn.data.toList
        · simp [upd, e]
        · simp [upd, e, Ne.symm e, nilF]
  case rest =>
    obtain ⟨mv, mg, ms, n, go, Fv, Fg, Fs, hp⟩ := hcut
    rename World => W1
    have HQ : Hid (Pre B w W1 (inc gr nm ks kn km vs vm ok om oq pre pn pm) gr nm ks kn pn pm pre same mv mg ms n go Fv Fg Fs) := hp
    obtain ⟨a0, a1, a2, a3, a4, a5, a6, a7, a8, a9, a10, a11, a12⟩ := cellsI hp.arg
    have lB : B < W1.heap.size := lt_of_block hp.arg
    have lB1 : B < W1.heap.size + 1 := by omega
    have lB2 : B < W1.heap.size + 1 + 1 := by omega
    clear hp HA HP hmm
    go_upto_if 90 with fail
    have hg3 : W1.grownBy (((W1.alloc (.cells (kc kn km) 36)).alloc (.cells (kc vs vm) 36)).alloc (.cells (oc (ok % 9) oq om) 36)) none := ((World.grownBy_alloc W1 _ none).trans (World.grownBy_alloc _ _ none)).trans (World.grownBy_alloc _ _ none)
    have HX : Hid (Box3 W1.heap.size (((W1.alloc (.cells (kc kn km) 36)).alloc (.cells (kc vs vm) 36)).alloc (.cells (oc (ok % 9) oq om) 36)) kn km vs vm (ok % 9) oq om ∧ Pre B w (((W1.alloc (.cells (kc kn km) 36)).alloc (.cells (kc vs vm) 36)).alloc (.cells (oc (ok % 9) oq om) 36)) (inc gr nm ks kn km vs vm ok om oq pre pn pm) gr nm ks kn pn pm pre same mv mg ms n go Fv Fg Fs) := ⟨box3_of W1 kn vs km vm (ok % 9) oq om, HQ.out.grown hg3⟩
    have lX : B + 1 + 1 < W1.heap.size := lt_of_block HQ.out.od
    have HGO : Hid (same = true → go < W1.heap.size) := fun e => lt_of_block (HQ.out.row e).1
    clear hg3 HQ a0 a1 a2 a3 a4 a5 a6 a7 a8 a9 a10 a11 a12 lB lB1 lB2
    generalize ((W1.alloc (.cells (kc kn km) 36)).alloc (.cells (kc vs vm) 36)).alloc (.cells (oc (ok % 9) oq om) 36) = W2 at *
    generalize W1.heap.size = x at *
    generalize hkd : ok % 9 = kd at *
    obtain ⟨a0, a1, a2, a3, a4, a5, a6, a7, a8, a9, a10, a11, a12⟩ := cellsI HX.out.2.arg
    go_cut [9] from 90 to 92 (fun s9 wc => s9 = .int .u8 (if kd = 6 then om else oq) ∧ wc = W2)
    case first =>
      by_cases h6 : kd = 6
      · have HI : Hid ((if kd = 6 then om else oq) = om) := if_pos h6
        have hb6 : (kd == 6) = true := by simp [h6]
        clear hkd
        go_wp2_with fail
        go_meet
        exact ⟨by rw [HI.out], rfl⟩
      · have HI : Hid ((if kd = 6 then om else oq) = oq) := if_neg h6
        have hb6 : (kd == 6) = false := by simp [h6]
        clear hkd
        go_wp2_with fail
        go_meet
        exact ⟨by rw [HI.out], rfl⟩
    case rest =>
      obtain ⟨h9, hwc⟩ := hcut
      subst hwc
      rename World => W2
      obtain ⟨qq, hqq⟩ : ∃ qq, (if kd = 6 then om else oq) = qq := ⟨_, rfl⟩
      rw [hqq] at h9
      have HQQ : Hid ((if kd = 6 then om else oq) = qq) := hqq
      clear hqq
      subst h9
      go_upto_region 16 with (go_at_call 5; refine (max_any _ _ _).mono ?_; rintro e w9 ⟨rfl, hw9⟩; have hw8 := hw9.symm; clear hw9; subst hw8)
      go_cut [12] from 102 to 110 (fun s12 wc => s12 = .bool same ∧ wc = W2)
      case first =>
        cases pre with
        | false =>
          have HS : Hid (same = false) := by show same = false; rw [hsame]; rfl
          clear hsame
          go_wp2_with fail
          go_meet
          exact ⟨by rw [HS.out], rfl⟩
        | true =>
          have HS : Hid (same = decide (pn.data.toList = kn.data.toList)) := by show same = _; rw [hsame]; rfl
          clear hsame
          go_wp2_with fail
          go_meet
          exact ⟨by rw [HS.out, ByteArray.toList_eq, ByteArray.toList_eq, beq_dec], rfl⟩
      case rest =>
        obtain ⟨rfl, hwc⟩ := hcut
        subst hwc
        rename World => W2
        have HSM : Hid (same = (pre && decide (pn.data.toList = kn.data.toList))) := hsame
        clear hsame
        go_upto_if 111 with fail
        go_cut [13, 14] from 111 to 113 (fun s13 s14 wc => s13 = .int .i64 (if same then 1 else 0) ∧ s14 = .int .u8 (if same then pm else 0) ∧ wc = W2)
        case first =>
          cases same with
          | false =>
            go_wp2_with fail
            go_meet
            exact ⟨rfl, rfl, rfl⟩
          | true =>
            go_wp2_with fail
            go_meet
            exact ⟨rfl, rfl, rfl⟩
        case rest =>
          obtain ⟨h13, h14, hwc⟩ := hcut
          subst hwc
          rename World => W2
          obtain ⟨l, hl⟩ : ∃ l : Nat, l = if same then 1 else 0 := ⟨_, rfl⟩
          obtain ⟨ps, hps⟩ : ∃ ps : Int, ps = if same then pm else 0 := ⟨_, rfl⟩
          have h13' : u13 = .int .i64 (l : Int) := by rw [h13, hl]; cases same <;> rfl
          rw [← hps] at h14
          subst h13'
          subst h14
          have HSC : Hid (ps = if same then pm else 0) := hps
          obtain ⟨xs, hsv, hown⟩ := own_row HX.out.2 hl
          have hc : (Fs kn.data.toList).getD (.int .u8 0) = .int .u8 ps := by rw [HX.out.2.aS, hps]; cases same <;> rfl
          have hl1 : l ≤ 1 := by rw [hl]; cases same <;> decide
          have hcall := own_any B (B + 1) gr nm ks mv mg ms n Fv Fg Fs kn vs km vm ps kd oq om W2 hkn (by have := HX.out.2.hn; omega) hc HX.out.2.st l xs _ hl1 hsv hown
          have HAF : Hid (∀ W3, Done B (B + 1) gr (mx2 nm (if kd = 6 then om else oq)) (mx2 ks oq) n Fv Fg Fs kn vs km vm ps (if same then Value.slice (some ⟨go, 0, none⟩) 1 1 else .slice none 0 0).ownBlock l W2 W3 → ∃ mv' mg' ms' n' Fv' Fg' Fs', After B x w W3 (inc gr nm ks kn km vs vm ok om oq pre pn pm) gr (mx2 nm (if kd = 6 then om else oq)) (mx2 ks oq) kn vs pn km vm pm ps pre same l mv' mg' ms' n' Fv' Fg' Fs') :=
            fun W3 hd => after_of HX.out.2 HX.out.1 lX HGO.out hl hps HSM.out hd
          have HL : Hid (l = if same then 1 else 0) := hl
          obtain ⟨k0, k1, k2, k3, k4, k5, k6⟩ := cells7 HX.out.1.k
          obtain ⟨v0, v1, v2, v3, v4, v5, v6⟩ := cells7 HX.out.1.v
          obtain ⟨o0, o1, o2, o3, o4, o5, o6⟩ := cellsO HX.out.1.o
          clear hl hps hsv hown hc h13 HGO a0 a1 a2 a3 a4 a5 a6 a7 a8 a9 a10 a11 a12
          go_upto_region 23 with (go_at_call 6; refine hcall.mono ?_; rintro e W3 ⟨rfl, hd⟩; have haf := HAF.out W3 hd; clear hd)
          clear k0 k1 k2 k3 k4 k5 k6 v0 v1 v2 v3 v4 v5 v6 o0 o1 o2 o3 o4 o5 o6 HAF hcall
          obtain ⟨mv', mg', ms', n', Fv', Fg', Fs', haf⟩ := haf
          rw [HQQ.out] at haf
          rw [show mx2 nm qq = mx nm qq by rw [mx_eq]; rfl, show mx2 ks oq = mx ks oq by rw [mx_eq]; rfl] at haf
          have HA : Hid (After B x w W3 (inc gr nm ks kn km vs vm ok om oq pre pn pm) gr (mx nm qq) (mx ks oq) kn vs pn km vm pm ps pre same l mv' mg' ms' n' Fv' Fg' Fs') := haf
          have t4 := haf.st.c4
          have t5 := haf.st.c5
          clear haf HX HQQ hkd lX
          generalize mx nm qq = zq at *
          generalize mx ks oq = yq at *
          go_upto_region 25 with fail
          clear t4 t5
          go_cut [138] from 133 to 138 (fun s138 wc => s138 = .bool (pre && !same) ∧ wc = W3)
          case first =>
            have a10 := (cellsI HA.out.arg).2.2.2.2.2.2.2.2.2.2.1
            cases pre with
            | false =>
              go_wp2_with fail
              go_meet
              exact ⟨rfl, rfl⟩
            | true =>
              go_wp2_with fail
              go_meet
              exact ⟨rfl, rfl⟩
          case rest =>
            obtain ⟨h138, hwc⟩ := hcut
            subst hwc
            rename World => W3
            obtain ⟨ps0, hps0⟩ : ∃ b : Bool, b = (pre && !same) := ⟨_, rfl⟩
            rw [← hps0] at h138
            have HPS : Hid (ps0 = (pre && !same)) := hps0
            clear hps0
            subst h138
            go_upto_if 138 with fail
            go_cut [15, 16] from 139 to 165 (fun s15 s16 wc => W3.grownBy wc none)
            case first =>
              cases ps0 with
              | false =>
                go_wp2_with fail
                go_meet
                exact World.grownBy.refl _ _
              | true =>
                obtain ⟨e1, e2⟩ := and_not HPS.out
                have hv := HA.out.vP e1 e2
                obtain ⟨ga, gc, hg⟩ := HA.out.gP e1 e2
                have t1 := HA.out.st.c1
                have a11 := (cellsI HA.out.arg).2.2.2.2.2.2.2.2.2.2.2.1
                have hkd1 : KS B W3.drew (B + 1) gr zq yq mv' mg' ms' n' Fv' Fg' Fs' := HA.out.st.drewN 1
                have lk1 := hkd1.v.look_ok Yba.underlying26 (zero36 _) hpn
                rw [hv] at lk1
                simp only [Option.getD_some, Option.isSome_some] at lk1
                clear hkd1
                have lk2 := (HA.out.st.grown (grown_drew W3 (.cells #[.int .u8 0, .bool false, .int .u8 0, .bool false, .pointer none, .nilIface, .int .u8 0] 36))).v.look_ok Yba.underlying26 (zero36 _) hpn
                rw [hv] at lk2
                simp only [Option.getD_some, Option.isSome_some] at lk2
                have HV : Hid (Fv' pn.data.toList = some (kv old 0)) := hv
                have HG : Hid (Fg' pn.data.toList = some (Value.slice ga 1 gc)) := hg
                have lW1 : B + 1 < W3.heap.size := lt_of_block HA.out.st.blk
                have lW0 : B < W3.heap.size := lt_of_block HA.out.arg
                clear hv hg e1 e2
                go_upto_region 26 with fail
                go_region
                all_goals
                  clear t1 a11 lk1 lk2 lW1 lW0
                  have hg4 := grown_drew W3 (.cells (kc old 0) 36)
                  have hnew : ((W3.alloc (.cells (kc old 0) 36)).drew).heap[W3.heap.size]? = some (.cells (kc old 0) 36 (0, 0)) := heap_alloc_new W3 _
                  have HA4 : Hid (After B x w (W3.alloc (.cells (kc old 0) 36)).drew (inc gr nm ks kn km vs vm ok om oq pre pn pm) gr zq yq kn vs pn km vm pm ps pre same l mv' mg' ms' n' Fv' Fg' Fs') := HA.out.grown hg4
                  have HG4 : Hid (W3.grownBy (W3.alloc (.cells (kc old 0) 36)).drew none) := hg4
                  clear hg4
                  generalize (W3.alloc (.cells (kc old 0) 36)).drew = W4 at *
                  generalize W3.heap.size = y at *
                  obtain ⟨n0, n1, n2, n3, n4, n5, n6⟩ := cells7 hnew
                  obtain ⟨o0, o1, o2, o3, o4, o5, o6⟩ := cells7 HA4.out.od
                  have heq := fun w => neq_same old 0 w
                  have t2 := HA4.out.st.c2
                  have a11 := (cellsI HA4.out.arg).2.2.2.2.2.2.2.2.2.2.2.1
                  have lkg : ∀ q, (Instr.lookup 27 (.map mg') (.string pn) false).run Yba.prog (W4.drewN q) = .ok (Value.slice ga 1 gc) (W4.drewN q) := fun q => by rw [(HA4.out.st.drewN q).g.look Yba.underlying27 (zero37 _) hpn, HG.out]; rfl
                  clear hnew
                  go_upto_region 29 with fail
                  go_quiet (fail)
                  all_goals go_wp2_with fail
                  all_goals (go_meet; exact grown_drewN HG4.out _)
            case rest =>
              rename World => W4
              have HA4 : Hid (After B x w W4 (inc gr nm ks kn km vs vm ok om oq pre pn pm) gr zq yq kn vs pn km vm pm ps pre same l mv' mg' ms' n' Fv' Fg' Fs') := HA.out.grown hcut
              clear hcut HA HPS
              have b0 := (cellsI HA4.out.arg).1
              go_upto_if 167 with fail
              clear b0
              go_cut [17, 18, 19, 20, 21] from 168 to 234 (fun s17 s18 s19 s20 s21 wc => W4.grownBy wc none)
              case first =>
                have a3 := (cellsI HA4.out.arg).2.2.2.1
                have t1 := HA4.out.st.c1
                have hkd1 : KS B W4.drew (B + 1) gr zq yq mv' mg' ms' n' Fv' Fg' Fs' := HA4.out.st.drewN 1
                have lk1 := hkd1.v.look_ok Yba.underlying26 (zero36 _) hkn
                have lk2 := (HA4.out.st.grown (grown_drew W4 (.cells #[.int .u8 0, .bool false, .int .u8 0, .bool false, .pointer none, .nilIface, .int .u8 0] 36))).v.look_ok Yba.underlying26 (zero36 _) hkn
                have lW1 : B + 1 < W4.heap.size := lt_of_block HA4.out.st.blk
                have lW0 : B < W4.heap.size := lt_of_block HA4.out.arg
                clear hkd1
                cases gr with
                | false =>
                  have hv := HA4.out.vK0 rfl
                  obtain ⟨ga, gc, hg⟩ := HA4.out.gK0 rfl
                  rw [hv] at lk1 lk2
                  simp only [Option.getD_some, Option.isSome_some] at lk1 lk2
                  have HG : Hid ((Fg' kn.data.toList).getD (.slice none 0 0) = .slice ga l gc) := hg
                  clear hv hg
                  go_upto_region 32 with fail
                  go_region
                  all_goals
                    clear t1 a3 lk1 lk2 lW1 lW0
                    have hg4 := grown_drew W4 (.cells (kc vs vm) 36)
                    have hnew : ((W4.alloc (.cells (kc vs vm) 36)).drew).heap[W4.heap.size]? = some (.cells (kc vs vm) 36 (0, 0)) := heap_alloc_new W4 _
                    have HA5 : Hid (After B x w (W4.alloc (.cells (kc vs vm) 36)).drew (inc false nm ks kn km vs vm ok om oq pre pn pm) false zq yq kn vs pn km vm pm ps pre same l mv' mg' ms' n' Fv' Fg' Fs') := HA4.out.grown hg4
                    have HG4 : Hid (W4.grownBy (W4.alloc (.cells (kc vs vm) 36)).drew none) := hg4
                    clear hg4
                    generalize (W4.alloc (.cells (kc vs vm) 36)).drew = W5 at *
                    generalize W4.heap.size = y at *
                    obtain ⟨n0, n1, n2, n3, n4, n5, n6⟩ := cells7 hnew
                    obtain ⟨o0, o1, o2, o3, o4, o5, o6⟩ := cells7 HA5.out.vb
                    have heq := fun w => neq_same vs vm w
                    have t2 := HA5.out.st.c2
                    have a3 := (cellsI HA5.out.arg).2.2.2.1
                    have lkg : ∀ q, (Instr.lookup 27 (.map mg') (.string kn) false).run Yba.prog (W5.drewN q) = .ok (Value.slice ga l gc) (W5.drewN q) := fun q => by rw [(HA5.out.st.drewN q).g.look Yba.underlying27 (zero37 _) hkn, HG.out]
                    clear hnew
                    go_upto_region 35 with fail
                    go_quiet (fail)
                    all_goals go_wp2_with fail
                    all_goals (go_meet; exact grown_drewN HG4.out _)
                | true =>
                  have hv := HA4.out.vK1 rfl
                  obtain ⟨g, gc, hg, hgc⟩ := HA4.out.gK1 rfl
                  have t2 := HA4.out.st.c2
                  have lkg : ∀ q, (Instr.lookup 27 (.map mg') (.string kn) false).run Yba.prog (W4.drewN q) = .ok (Value.slice (some ⟨g, 0, none⟩) (l + 1) gc) (W4.drewN q) := fun q => by rw [(HA4.out.st.drewN q).g.look Yba.underlying27 (zero37 _) hkn, hg]; rfl
                  have HV : Hid (Fv' kn.data.toList = if same then some (kv old 0) else none) := hv
                  clear hv hg lk1 lk2 t1
                  go_upto_region 37 with fail
                  go_quiet (fail)
                  clear lkg t2 lW1 lW0 a3
                  cases same with
                  | false =>
                    obtain rfl : l = 0 := HL.out
                    have HA5 : Hid (After B x w (W4.drewN nq) (inc true nm ks kn km vs vm ok om oq pre pn pm) true zq yq kn vs pn km vm pm ps pre false 0 mv' mg' ms' n' Fv' Fg' Fs') := HA4.out.grown (grown_drewN (World.grownBy.refl W4 none) _)
                    have HG5 : Hid (W4.grownBy (W4.drewN nq) none) := grown_drewN (World.grownBy.refl W4 none) _
                    have hgc5 : ∀ i, i < 7 → (W4.drewN nq).cell? ⟨g, 0 * 7 + i, none⟩ = (kc vs vm)[i]? := hgc
                    generalize W4.drewN nq = W5 at *
                    clear hgc
                    have g0 : W5.cell? ⟨g, 0, none⟩ = some (.int .u8 1) := hgc5 0 (by omega)
                    have g1 : W5.cell? ⟨g, 1, none⟩ = some (.bool false) := hgc5 1 (by omega)
                    have g2 : W5.cell? ⟨g, 2, none⟩ = some (.int .u8 0) := hgc5 2 (by omega)
                    have g3 : W5.cell? ⟨g, 3, none⟩ = some (.bool false) := hgc5 3 (by omega)
                    have g4 : W5.cell? ⟨g, 4, none⟩ = some (.pointer none) := hgc5 4 (by omega)
                    have g5 : W5.cell? ⟨g, 5, none⟩ = some (.iface 9 (.string vs)) := hgc5 5 (by omega)
                    have g6 : W5.cell? ⟨g, 6, none⟩ = some (.int .u8 vm) := hgc5 6 (by omega)
                    clear hgc5
                    obtain ⟨o0, o1, o2, o3, o4, o5, o6⟩ := cells7 HA5.out.vb
                    have heq := fun w => neq_same vs vm w
                    simp only [Int.cast_ofNat_Int]
                    go_upto_region 38 with fail
                    go_quiet (fail)
                    clear g0 g1 g2 g3 g4 g5 g6 o0 o1 o2 o3 o4 o5 o6 heq
                    have HA6 : Hid (After B x w (W5.drewN nq) (inc true nm ks kn km vs vm ok om oq pre pn pm) true zq yq kn vs pn km vm pm ps pre false 0 mv' mg' ms' n' Fv' Fg' Fs') := HA5.out.grown (grown_drewN (World.grownBy.refl W5 none) _)
                    have HG6 : Hid (W4.grownBy (W5.drewN nq) none) := grown_drewN HG5.out _
                    generalize W5.drewN nq = W6 at *
                    clear HA5 HG5
                    have a3 := (cellsI HA6.out.arg).2.2.2.1
                    have t1 := HA6.out.st.c1
                    have hkd1 : KS B W6.drew (B + 1) true zq yq mv' mg' ms' n' Fv' Fg' Fs' := HA6.out.st.drewN 1
                    have lk1 := hkd1.v.look_ok Yba.underlying26 (zero36 _) hkn
                    have lk2 := (HA6.out.st.grown (grown_drew W6 (.cells #[.int .u8 0, .bool false, .int .u8 0, .bool false, .pointer none, .nilIface, .int .u8 0] 36))).v.look_ok Yba.underlying26 (zero36 _) hkn
                    have lW1 : B + 1 < W6.heap.size := lt_of_block HA6.out.st.blk
                    have lW0 : B < W6.heap.size := lt_of_block HA6.out.arg
                    rw [HV.out] at lk1 lk2
                    simp only [Bool.false_eq_true, if_true, if_false, Option.getD_some, Option.isSome_some, Option.getD_none, Option.isSome_none] at lk1 lk2
                    clear hkd1
                    go_upto_region 40 with fail
                    go_region
                    all_goals
                      clear t1 a3 lk1 lk2 lW1 lW0
                      have hg7 := grown_drew W6 (.cells #[.int .u8 0, .bool false, .int .u8 0, .bool false, .pointer none, .nilIface, .int .u8 0] 36)
                      have hnew : ((W6.alloc (.cells #[.int .u8 0, .bool false, .int .u8 0, .bool false, .pointer none, .nilIface, .int .u8 0] 36)).drew).heap[W6.heap.size]? = some (.cells (oc 0 0 0) 36 (0, 0)) := heap_alloc_new W6 _
                      have HA7 : Hid (After B x w (W6.alloc (.cells #[.int .u8 0, .bool false, .int .u8 0, .bool false, .pointer none, .nilIface, .int .u8 0] 36)).drew (inc true nm ks kn km vs vm ok om oq pre pn pm) true zq yq kn vs pn km vm pm ps pre false 0 mv' mg' ms' n' Fv' Fg' Fs') := HA6.out.grown hg7
                      have HG7 : Hid (W4.grownBy (W6.alloc (.cells #[.int .u8 0, .bool false, .int .u8 0, .bool false, .pointer none, .nilIface, .int .u8 0] 36)).drew none) := HG6.out.trans hg7
                      clear hg7
                      generalize (W6.alloc (.cells #[.int .u8 0, .bool false, .int .u8 0, .bool false, .pointer none, .nilIface, .int .u8 0] 36)).drew = W7 at *
                      generalize W6.heap.size = y at *
                      clear hnew
                      go_wp2_with fail
                      go_meet
                      exact HG7.out
                  | true =>
                    obtain rfl : l = 1 := HL.out
                    have HA5 : Hid (After B x w (W4.drewN nq) (inc true nm ks kn km vs vm ok om oq pre pn pm) true zq yq kn vs pn km vm pm ps pre true 1 mv' mg' ms' n' Fv' Fg' Fs') := HA4.out.grown (grown_drewN (World.grownBy.refl W4 none) _)
                    have HG5 : Hid (W4.grownBy (W4.drewN nq) none) := grown_drewN (World.grownBy.refl W4 none) _
                    have hgc5 : ∀ i, i < 7 → (W4.drewN nq).cell? ⟨g, 1 * 7 + i, none⟩ = (kc vs vm)[i]? := hgc
                    generalize W4.drewN nq = W5 at *
                    clear hgc
                    have g0 : W5.cell? ⟨g, 7, none⟩ = some (.int .u8 1) := hgc5 0 (by omega)
                    have g1 : W5.cell? ⟨g, 8, none⟩ = some (.bool false) := hgc5 1 (by omega)
                    have g2 : W5.cell? ⟨g, 9, none⟩ = some (.int .u8 0) := hgc5 2 (by omega)
                    have g3 : W5.cell? ⟨g, 10, none⟩ = some (.bool false) := hgc5 3 (by omega)
                    have g4 : W5.cell? ⟨g, 11, none⟩ = some (.pointer none) := hgc5 4 (by omega)
                    have g5 : W5.cell? ⟨g, 12, none⟩ = some (.iface 9 (.string vs)) := hgc5 5 (by omega)
                    have g6 : W5.cell? ⟨g, 13, none⟩ = some (.int .u8 vm) := hgc5 6 (by omega)
                    clear hgc5
                    obtain ⟨o0, o1, o2, o3, o4, o5, o6⟩ := cells7 HA5.out.vb
                    have heq := fun w => neq_same vs vm w
                    simp only [Int.cast_ofNat_Int]
                    go_upto_region 38 with fail
                    go_quiet (fail)
                    clear g0 g1 g2 g3 g4 g5 g6 o0 o1 o2 o3 o4 o5 o6 heq
                    have HA6 : Hid (After B x w (W5.drewN nq) (inc true nm ks kn km vs vm ok om oq pre pn pm) true zq yq kn vs pn km vm pm ps pre true 1 mv' mg' ms' n' Fv' Fg' Fs') := HA5.out.grown (grown_drewN (World.grownBy.refl W5 none) _)
                    have HG6 : Hid (W4.grownBy (W5.drewN nq) none) := grown_drewN HG5.out _
                    generalize W5.drewN nq = W6 at *
                    clear HA5 HG5
                    have a3 := (cellsI HA6.out.arg).2.2.2.1
                    have t1 := HA6.out.st.c1
                    have hkd1 : KS B W6.drew (B + 1) true zq yq mv' mg' ms' n' Fv' Fg' Fs' := HA6.out.st.drewN 1
                    have lk1 := hkd1.v.look_ok Yba.underlying26 (zero36 _) hkn
                    have lk2 := (HA6.out.st.grown (grown_drew W6 (.cells #[.int .u8 0, .bool false, .int .u8 0, .bool false, .pointer none, .nilIface, .int .u8 0] 36))).v.look_ok Yba.underlying26 (zero36 _) hkn
                    have lW1 : B + 1 < W6.heap.size := lt_of_block HA6.out.st.blk
                    have lW0 : B < W6.heap.size := lt_of_block HA6.out.arg
                    rw [HV.out] at lk1 lk2
                    simp only [Bool.false_eq_true, if_true, if_false, Option.getD_some, Option.isSome_some, Option.getD_none, Option.isSome_none] at lk1 lk2
                    clear hkd1
                    go_upto_region 40 with fail
                    go_region
                    all_goals
                      clear t1 a3 lk1 lk2 lW1 lW0
                      have hg7 := grown_drew W6 (.cells (kc old 0) 36)
                      have hnew : ((W6.alloc (.cells (kc old 0) 36)).drew).heap[W6.heap.size]? = some (.cells (kc old 0) 36 (0, 0)) := heap_alloc_new W6 _
                      have HA7 : Hid (After B x w (W6.alloc (.cells (kc old 0) 36)).drew (inc true nm ks kn km vs vm ok om oq pre pn pm) true zq yq kn vs pn km vm pm ps pre true 1 mv' mg' ms' n' Fv' Fg' Fs') := HA6.out.grown hg7
                      have HG7 : Hid (W4.grownBy (W6.alloc (.cells (kc old 0) 36)).drew none) := HG6.out.trans hg7
                      clear hg7
                      generalize (W6.alloc (.cells (kc old 0) 36)).drew = W7 at *
                      generalize W6.heap.size = y at *
                      obtain ⟨n0, n1, n2, n3, n4, n5, n6⟩ := cells7 hnew
                      obtain ⟨o0, o1, o2, o3, o4, o5, o6⟩ := cells7 HA7.out.od
                      have heq := fun w => neq_same old 0 w
                      clear hnew
                      go_wp2_with fail
                      go_meet
                      exact HG7.out
              case rest =>
                rename World => W8
                have HA8 : Hid (After B x w W8 (inc gr nm ks kn km vs vm ok om oq pre pn pm) gr zq yq kn vs pn km vm pm ps pre same l mv' mg' ms' n' Fv' Fg' Fs') := HA4.out.grown hcut
                clear hcut HA4
                have t3 := HA8.out.st.c3
                have a3 := (cellsI HA8.out.arg).2.2.2.1
                have a4 := (cellsI HA8.out.arg).2.2.2.2.1
                by_cases hk : km = 0
                · have lks : ∀ q, (Instr.lookup 28 (.map ms') (.string kn) true).run Yba.prog (W8.drewN q) = .ok (.tuple #[.int .u8 ps, .bool same]) (W8.drewN q) := fun q => by
                    rw [(HA8.out.st.drewN q).s.look_ok Yba.underlying28 (zero25 _) hkn, HA8.out.sK0 hk, HSC.out]
                    cases same <;> rfl
                  subst hk
                  go_upto_region 45 with fail
                  go_quiet (fail)
                  go_wp2_with fail
                  all_goals (go_ret; exact ⟨rfl, by rw [← HBB.out]; exact below_drewN HA8.out.bel _⟩)
                · have lks : ∀ q, (Instr.lookup 28 (.map ms') (.string kn) true).run Yba.prog (W8.drewN q) = .ok (.tuple #[.int .u8 (mx ps km), .bool true]) (W8.drewN q) := fun q => by
                    rw [(HA8.out.st.drewN q).s.look_ok Yba.underlying28 (zero25 _) hkn, HA8.out.sK1 hk, mx_eq]
                    rfl
                  have hkb : (km == 0) = false := by simp [hk]
                  go_upto_region 45 with fail
                  go_quiet (fail)
                  go_wp2_with (go_at_call 5; refine (max_any _ _ _).mono ?_; rintro e w9 ⟨rfl, hw9⟩; have hw8 := hw9.symm; clear hw9; subst hw8)
                  all_goals (go_ret; exact ⟨rfl, by rw [← HBB.out]; exact below_drewN HA8.out.bel _⟩)
end Go.Proofs.Ybulkpyo.AddOwn
