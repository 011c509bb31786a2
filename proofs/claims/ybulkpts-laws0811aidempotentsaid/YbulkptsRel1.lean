/- releaseShared: the walk. -/
import Derived.Test.YbulkptsRel
namespace Go.Proofs.Ybulkpts
open Go.RowKit Go.Maps Go.Sort
set_option linter.unusedVariables false

set_option maxHeartbeats 2000000 in
set_option maxRecDepth 100000 in
theorem release_any (P M base nb : Nat) (v : Value) (D0 : DataW Unit) (ls : List Lk) (h : Nat → Bool) (w : World) (b : Begin w P M base nb v D0 ls h) :
    Calls Yba.prog 6 #[.pointer (some ⟨P, 0, none⟩)] w fun e w' => ∃ rv v' D', e = .returned rv ∧ Inv w' P M base (nb + 300) v' D' (ls.filter notSh) h ∧
      w'.ownsRow w.heap.size 9 1 rv (want ls h).length ((want ls h).map encStr) ∧ Fr w w' P M v := by
  obtain ⟨i0, hi, hz0, hz1, hz2⟩ := info_parts info9
  obtain ⟨p2, p3, pf⟩ := has_cell b.inv.1
  have hmap := b.inv.2.2.1
  go_enter Yba.func6, Yba.ntmps6
  go_wp2_with (at_range; refine wpList_range_own _ rfl _ 33 rfl 9 3 law9 Yba.underlying33 _ M nb _ rfl hmap ?_; intro w0 hrg0 hg0 hs0)
  go_frame
  clear hmap p2 p3 pf
  have HS : Hid (Rng w w0 P M base nb v D0 ls (.slice none 0 0) (has D0) (size D0) D0 []) := rng_start b hrg0 hg0
  clear hrg0 hg0 hs0
  go_loopg [3, 4, 5] (size D0) (fun gg v3 _ _ wr => ∃ (left : Lit → Bool) (cnt : Nat) (D : DataW Unit) (ss : List (List UInt8)), cnt ≤ gg ∧ Rng w wr P M base nb v D0 ls v3 left cnt D ss)
  case atStart => exact ⟨_, _, _, _, Nat.le_refl _, HS.out⟩
  case round =>
    obtain ⟨left, cnt, D, ss, hcg, hr⟩ := hrel
    have hr2 := hr
    obtain ⟨hP1, hrow1, hrg, hst, hown3, hfr⟩ := hr2
    have HR : Hid (Rng w wr P M base nb v D0 ls u3 left cnt D ss) := hr
    have HB : Hid (Begin w P M base nb v D0 ls h) := b
    have hsz := b.sz
    have hssz : ss.length ≤ 300 := by
      have a1 := hst.2.2.1
      have a2 := b.inv.2.2.2.1.2.2
      have a3 := b.good.2.2
      have a4 := List.length_filter_le (fun e : Lk => h e.1) ls
      omega
    clear hr hst HS
    go_wp2_with (at_next; refine wpList_next_ranges _ rfl _ rfl 9 law9 (plainElem Yba.prog 3) encStr (Value.int .i64) (fun key kl hk => by obtain ⟨x, hx, _⟩ := Maps.keyOf_str Yba.underlying9 hk; exact ⟨x, hx⟩) (fun v y hv => by obtain ⟨c, rfl, _⟩ := plainElem_int_inv Yba.underlying3 hv; exact ⟨c, rfl⟩) M w.heap.size nb _ _ _ rfl hrg ?_ ?_)
    · intro _ hl0
      have HL : Hid (∀ kl, left kl = false) := hl0
      have hsz1 := hfr.size
      have hll : (lk ls).length = ls.length := lk_length ls
      have h300 : (lk ls).length ≤ 300 := by rw [hll]; exact b.good.2.2
      have hrowL := hrow1
      rw [← hll] at hrowL
      have hP0 := b.hP
      have hpc := has_cell hP1
      have hsort := sort_any w.heap.size u3 ss wr (by omega) hown3
      have n3 : some P ≠ u3.ownBlock := row_ne_low hown3 (by omega)
      have nv : v.ownBlock = none ∨ v.ownBlock ≠ u3.ownBlock := by
        cases hq : v.ownBlock with
        | none => exact .inl rfl
        | some g => exact .inr fun e => by have := (b.rowlt g hq).2; have := (hown3.lt g e.symm).1; omega
      have hvs : ∃ ao n c, v = .slice ao n c := by
        rcases hrow1.2 with ⟨hh, _⟩ | ⟨g, cap, _, hh, _⟩
        · exact ⟨_, _, _, hh⟩
        · exact ⟨_, _, _, hh⟩
      have HQ : Hid (wr.heap[P]? = some (.cells #[.pointer none, .bool false, v, .map (some M)] 35 (0, 0)) ∧ wr.ownsRow base 37 2 v (lk ls).length (flat (lk ls)) ∧ (∃ ao n c, v = .slice ao n c) ∧ P < wr.heap.size) := ⟨hP1, hrowL, hvs, by omega⟩
      clear hl0 hP1 hrow1 hrowL hown3 hfr hrg hpc hvs hll b
      go_wp2_with (go_at_call 8; refine hsort.mono ?_; rintro e w1 ⟨rfl, hs1, hg1⟩; have hP2 := (hg1.block P HQ.out.2.2.2 n3).trans HQ.out.1; have hrow2 := HQ.out.2.1.kept hg1 nv; have pp2 := (has_cell hP2).1; have HT : Hid (w1.ownsRow w.heap.size 9 1 u3 ss.length ((ss.mergeSort fun x y => decide (x ≤ y)).map encStr) ∧ wr.grownBy w1 u3.ownBlock ∧ w1.heap[P]? = some (.cells #[.pointer none, .bool false, v, .map (some M)] 35 (0, 0))) := ⟨hs1, hg1, hP2⟩; have hdel := delete_any base v (lk ls) w1 h300 hrow2; clear hs1 hg1 hP2 hrow2 hsort)
      refine hdel.mono ?_
      rintro e w2 ⟨v', rfl, hd2, hg2, hv', -⟩
      clear hdel
      rw [lk_filter, lk_length] at hd2
      have hst := mov_start (n3 := 0) HB.out HR.out HL.out HT.out.1 HT.out.2.1 hd2 hg2 hv'
      have hP3 := (hg2.block P (by have := HT.out.2.1.size; have := HQ.out.2.2.2; omega) (row_ne_low HQ.out.2.1 hP0)).trans HT.out.2.2
      obtain ⟨q2, q3, qf⟩ := has_cell hP3
      have g' : Good (ls.filter notSh) := HB.out.good.filter _
      have hn' : (ls.filter notSh).length ≤ 300 := g'.2.2
      obtain ⟨ao, n, c, gg, hvf, hn, hao⟩ : ∃ ao n c gg, v' = .slice ao n c ∧ n = (ls.filter notSh).length ∧ (n = 0 ∨ ao = some ⟨gg, 0, none⟩) := by
        rcases hd2.2 with ⟨hh, h0⟩ | ⟨gg, cap, _, hh, _⟩
        · exact ⟨none, 0, 0, 0, hh, h0.symm, .inl rfl⟩
        · exact ⟨_, _, cap, gg, hh, rfl, .inr rfl⟩
      rw [hvf] at hst ⊢
      have HST : Hid (Mov w (w2.setCell ⟨P, 2, none⟩ (.slice ao n c)) P M base nb v (.slice ao n c) u3 D (ls.filter notSh) h 0 (want ls h)) := hst
      have HG : Hid (Good (ls.filter notSh) ∧ n = (ls.filter notSh).length) := ⟨g', hn⟩
      rw [← hn] at hn'
      clear hst hd2 hg2 hv' hP3 g' hn hvf q3 pp2
      go_wp2_with fail
      clear q2 qf
      go_loopg [6, 7, 8, 9, 53] n (fun gg _ _ _ _ s53 wx => ∃ (k : Nat) (D' : DataW Unit), k ≤ n ∧ n - k ≤ gg ∧ s53 = .int .i64 k ∧ Mov w wx P M base nb v (.slice ao n c) u3 D' (ls.filter notSh) h k (want ls h))
      case atStart => exact ⟨0, D, Nat.zero_le _, by omega, rfl, HST.out⟩
      case round =>
        obtain ⟨k, D', hk, hkg, rfl, hmv⟩ := hrel
        have HM : Hid (Mov w wr P M base nb v (.slice ao n c) u3 D' (ls.filter notSh) h k (want ls h)) := hmv
        by_cases hkn : k < n
        · obtain ⟨e, he⟩ : ∃ e, (ls.filter notSh)[k]? = some e := ⟨_, List.getElem?_eq_getElem (by have := HG.out.2; omega)⟩
          obtain ⟨hP4, hrow4, hmap4, hkep, -, hfr4⟩ := hmv
          have hix := idx32 ao n c k gg hao hkn
          have hrow5 := hrow4
          rw [show ao = some ⟨gg, 0, none⟩ from hao.resolve_left (by omega)] at hrow5
          have HN2 : Hid (n = (ls.filter notSh).length) := HG.out.2
          have hR2 := (row2_of_owns (lk_length _) (by rw [← HN2.out]; rw [← HN2.out] at hrow5; exact hrow5)).2.2
          have c0 := hR2.cell0 (t := k) (by rw [lk_length, ← HN2.out]; exact hkn)
          have c1 := hR2.cell1 (t := k) (by rw [lk_length, ← HN2.out]; exact hkn)
          rw [fnOf_lk he] at c0 c1
          have hPw : P < wr.heap.size := by have := hfr4.size; have := HB.out.sz; have := HB.out.hP; omega
          have hMw : M < w.heap.size := by have := HB.out.sz; have := HB.out.hM; omega
          have hgw := hR2.lt
          have hmapW := hmap4.alloc (.cells #[.string ⟨(kb e.1).toArray⟩, .int .u8 e.2] 37)
          obtain ⟨cc, -, hlook⟩ := look_all hmapW e.1
          rw [hkep.hasK HG.out.1 he] at hlook
          have q3 : wr.cell? ⟨P, 3, none⟩ = some (.map (some M)) := (has_cell hP4).2.1
          have HW : Hid ((wr.alloc (.cells #[.string ⟨(kb e.1).toArray⟩, .int .u8 e.2] 37)).ownsMap Yba.prog 9 (plainElem Yba.prog 3) M (nb + k) D') := hmapW
          clear hP4 hrow4 hrow5 hmap4 hkep hfr4 hR2 hmapW hao
          cases hq : h e.1
          · rw [hq] at hlook
            go_wp2_with fail
            go_quiet (fail)
            go_wp2
            go_roundg (n - (k + 1))
            case measure => omega
            case rel => exact ⟨k + 1, D', by omega, Nat.le_refl _, by go_num, mov_pass HM.out he hq hPw _ _⟩
          · rw [hq] at hlook
            go_wp2_with fail
            go_quiet (fail)
            go_wp2_with fail
            have hwf : (Lit.int .i64 (k : Int)).wf = true := WalkArith.wf_i64 (by omega)
            obtain ⟨w5, hupd, hown5, hg5⟩ := World.ownsMap.update (w := (wr.alloc (.cells #[.string ⟨(kb e.1).toArray⟩, .int .u8 e.2] 37)).drewN (nq + 1)) HW.out law9 Yba.underlying33 (by have := HB.out.hnb; unfold maxLen; omega) (keyOf_kb e.1) (plainElem_int (H := Unit) Yba.underlying3 hwf)
            clear hlook
            go_region
            all_goals go_wp2
            all_goals
              go_roundg (n - (k + 1))
              case measure => omega
              case rel => exact ⟨k + 1, _, by omega, Nat.le_refl _, by go_num, mov_move HM.out HG.out.1 he hq hPw HB.out.hPM HB.out.hM hMw _ _ hown5 hg5⟩
        · have hkn' : k = n := by omega
          have HN2 : Hid (n = (ls.filter notSh).length) := HG.out.2
          have HK : Hid (k = n) := hkn'
          clear hkn' hmv
          go_wp2
          go_ret
          obtain ⟨m1, m2, m3, m4, m5, m6⟩ := HM.out
          have hk300 : nb + k ≤ nb + 300 := by omega
          exact ⟨u3, .slice ao n c, D', rfl, ⟨m1, m2, m3.mono hk300, m4.held (by rw [HK.out, HN2.out]; exact Nat.le_refl _), by have := m6.size; have := HB.out.sz; omega⟩, m5, m6⟩
    · intro x c kl yd yp w2 cnt2 hkey hlk hv hat hrg2 hlt hg2 hs2 hen
      obtain ⟨hhas, j, e, he, hhe, rfl, rfl⟩ := rng_entry HB.out HR.out hv hat
      obtain ⟨x', ex, ek, _⟩ := Maps.keyOf_str Yba.underlying9 hkey
      obtain rfl : x = kb e.1 := by rw [encStr_inj ex]; simpa [K] using ek.symm
      clear ex ek
      obtain ⟨r1, r2, r3, r4⟩ := rng_step (cnt2 := cnt2) HB.out HR.out hg2
      obtain ⟨p2, p3, pf⟩ := has_cell r1
      have hjl : j < ls.length := (List.getElem?_eq_some_iff.1 he).1
      obtain ⟨g, cap, hvv⟩ : ∃ g cap, v = .slice (some ⟨g, 0, none⟩) ls.length cap := by
        rcases r2.2 with ⟨_, h0⟩ | ⟨g, cap, _, hh, _⟩
        · omega
        · exact ⟨g, cap, hh⟩
      have r2' := r2
      rw [hvv] at p2 r2'
      have cm := (row2_of_owns (lk_length ls) r2').2.2.cell1 (t := j) (by rw [lk_length]; exact hjl)
      rw [fnOf_lk he] at cm
      have HV : Hid (v = .slice (some ⟨g, 0, none⟩) ls.length cap) := hvv
      have h300 : ls.length ≤ 300 := HB.out.good.2.2
      have hsh := shB_at HB.out.good he
      have HX : Hid (has D (K e.1) = true ∧ left (K e.1) = true ∧ keyOf Yba.prog 9 (encStr (kb e.1)) = some (K e.1)) := ⟨hhas, hlk, hkey⟩
      clear hs2 hvv r2' r2 r4 hv hat hhas hlk hkey b hP1 hrow1 hown3 hfr hrg
      cases hq : (e.2 == 1)
      · have HSH : Hid (shB ls (.string (kb e.1)) = false) := by show shB ls (K e.1) = false; rw [hsh, hq]
        have HRG : Hid (w2.ranges Yba.prog 9 (plainElem Yba.prog 3) M w.heap.size nb D (fun z => left z && !z.sameKey (K e.1)) cnt2) := hrg2
        have HG2 : Hid (wr.grownBy w2 (some w.heap.size)) := hg2
        clear hsh hrg2 hg2 r3 r1
        go_wp2
        go_roundg cnt2
        case measure => omega
        case rel => exact ⟨_, cnt2, D, ss, Nat.le_refl _, rng_stay HB.out HR.out HG2.out HRG.out HSH.out⟩
      · have HSH : Hid (shB ls (.string (kb e.1)) = true) := by show shB ls (K e.1) = true; rw [hsh, hq]
        have HG2 : Hid (wr.grownBy w2 (some w.heap.size)) := hg2
        have hw2 := HR.out.2.2.2.2.2.size
        have hw22 := hg2.size
        clear hsh hg2
        have hMs : M < w.heap.size := by have := HB.out.hM; have := HB.out.sz; omega
        go_wp2_with (first
          | (at_builtin; refine wpList_append_own _ rfl _ _ 26 rfl w.heap.size 9 i0 (.string ⟨#[]⟩) 1 16 Yba.underlying26 hi hz0 hz1 hz2 rfl (by decide) _ _ _ rfl (r3.alloc _) ⟨w2.heap.size, 0, none⟩ 1 1 [encStr (kb e.1)] rfl rfl (cell_one_new _ _ _) (by simp [Value.oneCell', encStr]) (by unfold maxLen; omega) (by omega) (by simp; omega) ?_; intro v3' w3 hown' hg3 hnil3
             have hrg3 := (hrg2.alloc (.cells #[encStr (kb e.1)] 9)).kept hg3 (row_ne_low r3 hMs) (row_ne_iter r3 hrg2)
             have hPw : w3.heap[P]? = some (.cells #[.pointer none, .bool false, v, .map (some M)] 35 (0, 0)) := (hg3.block P (by have := HB.out.hP; simp; omega) (row_ne_low r3 (by have := HB.out.hP; omega))).trans ((Below.heap_alloc _ _ _ (by have := HB.out.hP; omega)).trans r1)
             have q3 := (has_cell hPw).2.1
             clear hrg2 hPw p2 p3 pf cm)
          | (at_delete; refine wpList_delete_ranges _ rfl _ _ 33 9 rfl 3 law9 Yba.underlying33 _ M w.heap.size nb _ _ _ rfl hrg3 _ _ rfl HX.out.2.2 ?_; intro w4 cnt4 hrg4 hle hturn; go_frame))
        rw [strike_twice] at hrg4
        go_roundg cnt4
        case measure => omega
        case rel => exact ⟨_, cnt4, _, _, Nat.le_refl _, rng_strike (cnt2 := cnt2) HB.out HR.out HG2.out HX.out.1 HX.out.2.1 HSH.out hown' hg3 hrg4 hturn⟩
end Go.Proofs.Ybulkpts
