/- slices.Clone at []uint32; newState. -/
import Derived.Test.YbulkpyoRead
import Derived.Deep.AppendLies
import Derived.Lib.SliceRun
import Derived.Deep.RegionHeld3
import Derived.Deep.CutRange
namespace Go.Proofs.Ybulkpyo
open Go.RowKit
set_option linter.unusedVariables false

theorem info58 : (Yba.prog.info? 58).map (fun i => (i.zero, i.size, i.bytes)) = some (some (.int .u32 0), 1, 4) := by kernel_rfl

/-- The cells of the waits. -/
def wcells (W : Nat → Nat) (m : Nat) : List Value := (List.range m).map fun t => .int .u32 (W t)
theorem wcells_get {W : Nat → Nat} {m t : Nat} (h : t < m) : (wcells W m)[t]? = some (.int .u32 (W t)) := by simp [wcells, h]
theorem wcells_length (W : Nat → Nat) (m : Nat) : (wcells W m).length = m := by simp [wcells]

set_option maxHeartbeats 1000000 in
set_option maxRecDepth 100000 in
theorem clone_any (gW mm : Nat) (W : Nat → Nat) (w : World) (hm : mm ≤ 1024) (hgW : gW < w.heap.size) (hw : ∀ t, t < mm → w.cell? ⟨gW, t, none⟩ = some (.int .u32 (W t))) :
    Calls Yba.prog 11 #[.slice (some ⟨gW, 0, none⟩) mm mm] w fun e w' => ∃ g cap, e = .returned (.slice (some ⟨g, 0, none⟩) mm cap) ∧ w'.ownsRow w.heap.size 58 1 (.slice (some ⟨g, 0, none⟩) mm cap) mm (wcells W mm) ∧ Below w.heap.size w w' := by
  obtain ⟨i0, hi, hz0, hz1, hz2⟩ := info_parts info58
  have hnil : ∀ w, (binOp .eql 62 (.slice (some ⟨gW, 0, none⟩) mm mm) (.slice none 0 0)).run Yba.prog w = .ok (.bool false) w := fun w => Lib.run_eql_slice_nil (P := Yba.prog) w 62 58 (some ⟨gW, 0, none⟩) mm mm 0 0 Yba.underlying62
  have hown : (w.alloc (.cells #[] 58)).ownsRow w.heap.size 58 1 (.slice (some ⟨w.heap.size, 0, none⟩) 0 0) 0 [] := ⟨rfl, .inr ⟨w.heap.size, 0, #[], rfl, Nat.le_refl _, heap_alloc_new w _, Nat.le_refl _, Nat.zero_le _, rfl, rfl⟩⟩
  have hnews : ∀ (j : Nat) (u : Value), (wcells W mm)[j]? = some u → (w.alloc (.cells #[] 58)).cell? ((⟨gW, 0, none⟩ : Addr).add j) = some u := by
    intro j u hj
    have hjm : j < mm := by have := (List.getElem?_eq_some_iff.1 hj).1; rw [wcells_length] at this; exact this
    rw [wcells_get hjm] at hj
    cases hj
    have : (⟨gW, 0, none⟩ : Addr).add j = ⟨gW, j, none⟩ := by unfold Addr.add; split <;> simp_all
    rw [this, World.cell?_alloc_past _ _ _ hgW]
    exact hw j hjm
  have h1 : ∀ u ∈ wcells W mm, u.oneCell' = true := by
    intro u hu
    simp [wcells] at hu
    obtain ⟨t, _, rfl⟩ := hu
    rfl
  have hll := wcells_length W mm
  have HB : Hid (Below w.heap.size w (w.alloc (.cells #[] 58))) := (Below.refl _ _).alloc (Nat.le_refl _) _
  have HX : Hid ((wcells W mm).length = mm * 1) := by show (wcells W mm).length = mm * 1; omega
  clear hll hw
  go_enter Yba.func11, Yba.ntmps11
  go_wp2_with (at_builtin; refine wpList_append_own _ rfl _ _ 62 rfl w.heap.size 58 i0 (.int .u32 0) 1 4 Yba.underlying62 hi hz0 hz1 hz2 rfl (by decide) _ _ _ rfl hown ⟨gW, 0, none⟩ mm mm (wcells W mm) rfl HX.out hnews h1 (by unfold maxLen; omega) (by omega) (by simp) ?_; intro v' w1 hown' hgrow hnil')
  obtain ⟨g, cap, hv⟩ : ∃ g cap, v' = .slice (some ⟨g, 0, none⟩) mm cap := by
    rcases hown'.2 with ⟨hh, _⟩ | ⟨g, cap, _, hh, _⟩
    · exact absurd (hnil'.1 hh).1 (fun e => by cases e)
    · exact ⟨g, cap, by simpa using hh⟩
  rw [hv] at hown' ⊢
  go_ret
  exact ⟨g, cap, rfl, by simpa using hown', HB.out.grown hgrow (by simp) (fun k hk => by cases hk; exact Nat.le_refl _)⟩
theorem below_cells {w w' : World} (hb : Below w.heap.size w w') (a : Addr) (v : Value) (h : w.cell? a = some v) : w'.cell? a = some v := by
  have hlt : a.block < w.heap.size := by
    rcases Nat.lt_or_ge a.block w.heap.size with h' | h'
    · exact h'
    · simp [World.cell?, Array.getElem?_eq_none h'] at h
  exact (hb.cell hlt).trans h

/-- THE STATE THAT IS MADE, behind k rounds of the loop. -/
def St (w wc : World) (I : Ins) (W : Nat → Nat) (mm g gi cap k l : Nat) : Prop :=
  w.heap.size ≤ g ∧ wc.heap[g]? = some (.cells #[.slice (some ⟨gi, 0, none⟩) mm cap, .pointer none, .int .i64 (need I W k), .bool (mtTo I W mm), .bool (ldTo I W l)] 93 (0, 0)) ∧
  wc.ownsRow w.heap.size 58 1 (.slice (some ⟨gi, 0, none⟩) mm cap) mm (wcells W mm) ∧ Below w.heap.size w wc

theorem St.start {w w1 : World} {I : Ins} {W : Nat → Nat} {mm gi cap : Nat} (hown : w1.ownsRow w.heap.size 58 1 (.slice (some ⟨gi, 0, none⟩) mm cap) mm (wcells W mm)) (hb : Below w.heap.size w w1) :
    St w (w1.alloc (.cells #[.slice (some ⟨gi, 0, none⟩) mm cap, .pointer none, .int .i64 9223372036854775807, .bool (mtTo I W mm), .bool false] 93)) I W mm w1.heap.size gi cap 0 0 :=
  ⟨hb.size, heap_alloc_new _ _, hown.alloc _, hb.alloc hb.size _⟩

theorem need_lt {I : Ins} {W : Nat → Nat} {k : Nat} (h : I.L (W k) < need I W k) : need I W (k + 1) = I.L (W k) := by unfold need; rw [if_pos h]
theorem need_ge {I : Ins} {W : Nat → Nat} {k : Nat} (h : ¬ I.L (W k) < need I W k) : need I W (k + 1) = need I W k := by conv => lhs; unfold need; rw [if_neg h]

theorem St.grow {w wc : World} {I : Ins} {W : Nat → Nat} {mm g gi cap k l : Nat} (h : St w wc I W mm g gi cap k l) (q : Nat) : St w ((wc.setCell ⟨g, 2, none⟩ (.int .i64 (need I W (k + 1)))).drewN q) I W mm g gi cap (k + 1) l := by
  obtain ⟨h1, h2, h3, h4⟩ := h
  have := heap_setCell_same wc g 2 _ 93 (.int .i64 (need I W (k + 1))) h2
  refine ⟨h1, by simpa using this, ?_, ?_⟩
  · have hne : (Value.slice (some ⟨gi, 0, none⟩) mm cap).ownBlock ≠ some g := by
      intro e
      rcases h3.2 with ⟨hh, _⟩ | ⟨g', c', cur, hh, _, hb, _⟩
      · cases hh
      · cases hh
        have e' : gi = g := by simpa [Value.ownBlock] using e
        subst e'
        rw [hb] at h2
        simp at h2
    exact ownsRow_setCell_other h3 hne _
  · have := h4.setCell (p := ⟨g, 2, none⟩) h1 (.int .i64 (need I W (k + 1)))
    exact ⟨this.os, this.tape, this.output, this.size, this.block⟩

theorem St.lead {w wc : World} {I : Ins} {W : Nat → Nat} {mm g gi cap k l : Nat} (h : St w wc I W mm g gi cap k l) (hl : ldTo I W (l + 1) = true) : St w (wc.setCell ⟨g, 4, none⟩ (.bool true)) I W mm g gi cap k (l + 1) := by
  obtain ⟨h1, h2, h3, h4⟩ := h
  have := heap_setCell_same wc g 4 _ 93 (.bool true) h2
  refine ⟨h1, by rw [hl]; simpa using this, ?_, h4.setCell (p := ⟨g, 4, none⟩) h1 _⟩
  have hne : (Value.slice (some ⟨gi, 0, none⟩) mm cap).ownBlock ≠ some g := by
    intro e
    rcases h3.2 with ⟨hh, _⟩ | ⟨g', c', cur, hh, _, hb, _⟩
    · cases hh
    · cases hh
      have e' : gi = g := by simpa [Value.ownBlock] using e
      subst e'
      rw [hb] at h2
      simp at h2
  exact ownsRow_setCell_other h3 hne _

theorem St.same {w wc : World} {I : Ins} {W : Nat → Nat} {mm g gi cap k l : Nat} (h : St w wc I W mm g gi cap k l) (hl : ldTo I W (l + 1) = ldTo I W l) : St w wc I W mm g gi cap k (l + 1) := by
  obtain ⟨h1, h2, h3, h4⟩ := h
  exact ⟨h1, by rw [hl]; exact h2, h3, h4⟩

set_option maxHeartbeats 4000000 in
set_option maxRecDepth 100000 in
theorem newState_any (R Pt Pg gI gL gW mm : Nat) (I : Ins) (ok : I.Ok) (W : Nat → Nat) (hW : ∀ t, W t ≤ I.n) (w : World) (m : Mem w R Pt Pg gI gL I) (hm : mm ≤ 1024) (hw : ∀ t, t < mm → w.cell? ⟨gW, t, none⟩ = some (.int .u32 (W t)))
    (hgW : gW < w.heap.size) (r8 : w.cell? ⟨R, 11, none⟩ = some (.slice (some ⟨gW, 0, none⟩) mm mm)) (hL : ∀ i, i ≤ I.n → -9223372036854775808 ≤ I.L i ∧ I.L i ≤ 9223372036854775807) :
    Calls Yba.prog 8 #[.pointer (some ⟨R, 0, none⟩)] w fun e w' => ∃ g gi cap, e = .returned (.pointer (some ⟨g, 0, none⟩)) ∧ St w w' I W mm g gi cap mm mm := by
  have hcl : ∀ W' : World, Below w.heap.size w W' → Calls Yba.prog 11 #[.slice (some ⟨gW, 0, none⟩) mm mm] W' fun e w' => ∃ g cap, e = .returned (.slice (some ⟨g, 0, none⟩) mm cap) ∧ w'.ownsRow w.heap.size 58 1 (.slice (some ⟨g, 0, none⟩) mm cap) mm (wcells W mm) ∧ Below w.heap.size w w' := by
    intro W' hb
    refine (clone_any gW mm W W' hm (Nat.lt_of_lt_of_le hgW hb.size) (fun t ht => below_cells hb _ _ (hw t ht))).mono ?_
    rintro e w' ⟨g, cap, he, hown, hb'⟩
    refine ⟨g, cap, he, ?_, hb.trans (hb'.mono hb.size)⟩
    obtain ⟨h1, h2⟩ := hown
    refine ⟨h1, ?_⟩
    rcases h2 with h2 | ⟨g', cap', cur, hv, hbase, r⟩
    · exact .inl h2
    · exact .inr ⟨g', cap', cur, hv, Nat.le_trans hb.size hbase, r⟩
  have hmt : ∀ W' : World, Below w.heap.size w W' → Calls Yba.prog 12 #[.pointer (some ⟨R, 0, none⟩), .slice (some ⟨gW, 0, none⟩) mm mm] W' fun e w' => e = .returned (.bool (mtTo I W mm)) ∧ w' = W' := fun W' hb =>
    matches_any R Pt Pg gI gL gW mm I ok W hW W' (m.of (below_cells hb)) hm (fun t ht => below_cells hb _ _ (hw t ht))
  have HCL := hcl
  have HMT := hmt
  have hb0 := Below.refl w.heap.size w
  have HX : Hid (Mem w R Pt Pg gI gL I ∧ (∀ t, W t ≤ I.n) ∧ (∀ t, t < mm → w.cell? ⟨gW, t, none⟩ = some (.int .u32 (W t))) ∧ ∀ i, i ≤ I.n → -9223372036854775808 ≤ I.L i ∧ I.L i ≤ 9223372036854775807) := ⟨m, hW, hw, hL⟩
  clear hcl hmt hw hW m hL
  go_enter Yba.func8, Yba.ntmps8
  go_upto_region 1 with fail
  go_cut [3] from 7 to 19 (fun s3 wc => ∃ g gi cap, s3 = .pointer (some ⟨g, 0, none⟩) ∧ St w wc I W mm g gi cap 0 0)
  case first =>
    go_region_held3 (fun w' => w'.cell? ⟨R, 11, none⟩ = some (.slice (some ⟨gW, 0, none⟩) mm mm) ∧ Below w.heap.size w w') (first | exact ⟨r8, hb0.drew⟩ | exact ⟨below_cells hb1 _ _ r8, hb1⟩ | exact ⟨below_cells (hb1.alloc hb1.size _) _ _ r8, hb1.alloc hb1.size _⟩) (first
      | (go_at_call 11; refine (HCL _ (by first | exact hb0.drew | assumption)).mono ?_; rintro e w1 ⟨gi, cap, rfl, hown, hb1⟩; have s8 := below_cells hb1 _ _ r8)
      | (go_at_call 12; refine (HMT _ (by first | exact hb0.drew | assumption)).mono ?_; rintro e w2 ⟨rfl, rfl⟩))
    all_goals (go_wp2_with fail; go_meet)
    all_goals exact ⟨_, gi, cap, rfl, St.start hown hb1⟩
  case rest =>
    obtain ⟨g, gi, cap, rfl, hst⟩ := hcut
    have hst2 := hst
    obtain ⟨h1, h2, h3, h4⟩ := hst2
    have g0 : wc.cell? ⟨g, 0, none⟩ = some (.slice (some ⟨gi, 0, none⟩) mm cap) := by simp [World.cell?, h2]
    have HST : Hid (St w wc I W mm g gi cap 0 0) := hst
    clear hst h1 h2 h3 h4 HCL HMT
    go_wp2_with fail
    go_loopg [5, 6, 25] mm (fun gg _ _ s25 wr => ∃ k : Nat, k ≤ mm ∧ mm - k ≤ gg ∧ s25 = .int .i64 k ∧ St w wr I W mm g gi cap k k)
    case atStart => exact ⟨0, Nat.zero_le _, Nat.le_refl _, rfl, HST.out⟩
    case round =>
      obtain ⟨k, hk, hkg, rfl, hst⟩ := hrel
      have hst2 := hst
      obtain ⟨h1, h2, h3, h4⟩ := hst2
      have HS : Hid (St w wr I W mm g gi cap k k) := hst
      by_cases hlt : k < mm
      · have c0 : wr.cell? ⟨gi, k, none⟩ = some (.int .u32 (W k)) := (h3.cellAt k (by omega)).trans (wcells_get hlt)
        have hWk := HX.out.2.1 k
        have mw : Mem wr R Pt Pg gI gL I := HX.out.1.of (below_cells h4)
        have m1 := mw.rp
        have m2 := mw.pp
        have m3 := mw.pl
        have m4 := mw.pi
        have m5 := mw.op (W k) hWk
        have m6 := mw.lst (W k) hWk
        have g2 : wr.cell? ⟨g, 2, none⟩ = some (.int .i64 (need I W k)) := by simp [World.cell?, h2]
        have g4 : wr.cell? ⟨g, 4, none⟩ = some (.bool (ldTo I W k)) := by simp [World.cell?, h2]
        have f2 : wr.frozen? ⟨g, 2, none⟩ = false := by simp [World.frozen?, h2]
        have f4 : wr.frozen? ⟨g, 4, none⟩ = false := by simp [World.frozen?, h2]
        have hn := ok.hn
        clear hst h1 h2 h3 h4 mw r8
        go_wp2_with fail
        go_cut [25] from 26 to 70 (fun s25 wc => s25 = .int .i64 k ∧ ∃ q, wc = (wr.setCell ⟨g, 2, none⟩ (.int .i64 (need I W (k + 1)))).drewN q)
        case first =>
          go_region
          all_goals go_wp2_with fail
          all_goals go_meet
          · exact ⟨rfl, 1, by rw [need_lt (by assumption)]; rfl⟩
          · exact ⟨rfl, 1, by rw [need_ge (by omega)]; rfl⟩
        case rest =>
          obtain ⟨rfl, q, hwc⟩ := hcut
          have hst := HS.out.grow q
          rw [← hwc] at hst
          have HS2 : Hid (St w wc I W mm g gi cap (k + 1) k) := hst
          have hk7 := ok.hK (W k) hWk
          have HLd : Hid (ldTo I W (k + 1) = (ldTo I W k || ld I (W k))) := rfl
          obtain ⟨h1, h2, h3, h4⟩ := hst
          have mw : Mem wc R Pt Pg gI gL I := HX.out.1.of (below_cells h4)
          clear m1 m2 m3 m4 m5 m6 g2 g4 f2 f4 hwc c0 g0
          have m1 := mw.rp
          have m2 := mw.pp
          have m4 := mw.pi
          have m5 := mw.op (W k) hWk
          have g4 : wc.cell? ⟨g, 4, none⟩ = some (.bool (ldTo I W k)) := by simp [World.cell?, h2]
          have f4 : wc.frozen? ⟨g, 4, none⟩ = false := by simp [World.frozen?, h2]
          clear h1 h2 h3 h4 mw
          rcases (show (I.K (W k) = 0 ∨ I.K (W k) = 1) ∨ (I.K (W k) = 2 ∨ I.K (W k) = 3 ∨ I.K (W k) = 4 ∨ I.K (W k) = 5 ∨ I.K (W k) = 6) by omega) with hk | hk
          · have HN : Hid (ldTo I W (k + 1) = ldTo I W k) := by
              show ldTo I W (k + 1) = ldTo I W k
              rw [HLd.out]; unfold ld
              rcases hk with hk | hk <;> rw [hk] <;> simp
            rcases hk with hk | hk
            all_goals
              rw [hk] at m5
              clear hk hk7
              simp only [opc] at m5
              go_wp2
              go_roundg (mm - (k + 1))
              case measure => omega
              case rel => exact ⟨k + 1, by omega, Nat.le_refl _, by go_num, HS2.out.same HN.out⟩
          · have HN : Hid (ldTo I W (k + 1) = true) := by
              show ldTo I W (k + 1) = true
              rw [HLd.out]; unfold ld
              rcases hk with hk | hk | hk | hk | hk <;> rw [hk] <;> simp
            rcases hk with hk | hk | hk | hk | hk
            all_goals
              rw [hk] at m5
              clear hk hk7
              simp only [opc] at m5
              go_wp2
              go_roundg (mm - (k + 1))
              case measure => omega
              case rel => exact ⟨k + 1, by omega, Nat.le_refl _, by go_num, HS2.out.lead HN.out⟩
      · have hkm : k = mm := by omega
        rw [hkm] at hst
        have HS3 : Hid (St w wr I W mm g gi cap mm mm) := hst
        clear hst h1 h2 h3 h4 hkm r8
        go_wp2
        go_ret
        exact ⟨g, gi, cap, rfl, HS3.out⟩
end Go.Proofs.Ybulkpyo
