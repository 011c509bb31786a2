/- LawS0811AReleaseShared: the walk. -/
import Derived.Test.YbulkptsLawA
namespace Go.Proofs.Ybulkpts
open Go.RowKit Go.Maps Go.Sort
set_option linter.unusedVariables false

set_option maxHeartbeats 4000000 in
set_option maxRecDepth 100000 in
theorem lawA_any (a0 a1 : Option Addr) (len0 cap0 len1 cap1 b0 o0 b1 o1 : Nat) (z : Nat → Int) (nh : Nat → Bool) (w : World) (hl : len0 ≤ 300) (hl1 : len1 ≤ maxLen)
    (ha0 : len0 = 0 ∨ a0 = some ⟨b0, o0, none⟩) (ha1 : len1 = 0 ∨ a1 = some ⟨b1, o1, none⟩) (hb0 : 0 < len0 → b0 < w.heap.size) (hb1 : 0 < len1 → b1 < w.heap.size)
    (c0 : ∀ i, i < len0 → w.cell? ⟨b0, o0 + i, none⟩ = some (.int .u8 (z i))) (hz : ∀ i, 0 ≤ z i ∧ z i ≤ 255) (c1 : ∀ i, i < len1 → w.cell? ⟨b1, o1 + i, none⟩ = some (.bool (nh i))) :
    Calls Yba.prog 3 #[.slice a0 len0 cap0, .slice a1 len1 cap1] w fun e w' => e = .returned (.bool true) ∧ Below w.heap.size w w' := by
  obtain ⟨j9, hj9, hj90, hj91, hj92⟩ := info_parts info9
  obtain ⟨j29, hj29, hj290, hj291, hj292⟩ := info_parts info29
  obtain ⟨j4, hj4, hj40, hj41, hj42⟩ := info_parts info4
  have hbld := build_any a0 a1 len0 cap0 len1 cap1 b0 o0 b1 o1 z nh w hl hl1 ha0 ha1 hb0 hb1 c0 hz c1
  unfold maxLen at hl1
  have hd300 : decide ((300 : Int) < (len0 : Int)) = false := by simp; omega
  go_enter Yba.func3, Yba.ntmps3
  go_wp2_with fail
  refine hbld.mono ?_
  rintro e w1 ⟨rfl, v, D, hinv, hbel1⟩
  have hbeg := begin_build hinv hl (by omega) (by omega) (by omega)
  have hrel := release_any _ _ _ _ _ _ _ _ _ hbeg
  have HV : Hid (∀ k, v.ownBlock = some k → w.heap.size + 2 ≤ k) := fun k hk => (hbeg.rowlt k hk).1
  clear hbld hinv hbeg
  go_wp2_with fail
  refine hrel.mono ?_
  rintro e W ⟨rv, v', D', rfl, hinv, hrv, hfr⟩
  clear hrel
  have hbel : Below w.heap.size w W := hbel1.trans (hfr.below (B := w.heap.size) (base := 0) (by omega) (by omega) hbel1.size (fun k hk => by have := HV.out k hk; omega))
  clear hfr HV
  obtain ⟨rao, rn, rc, rg, hrvf, hrn, hrao⟩ : ∃ rao rn rc rg, rv = .slice rao rn rc ∧ rn = (want (made z len0) (heldOf len1 nh)).length ∧ (rn = 0 ∨ rao = some ⟨rg, 0, none⟩) := by
    rcases hrv.2 with ⟨hh, h0⟩ | ⟨gg, cap, _, hh, _⟩
    · exact ⟨none, 0, 0, 0, hh, h0.symm, .inl rfl⟩
    · exact ⟨_, _, cap, gg, hh, rfl, .inr rfl⟩
  rw [hrvf] at hrv ⊢
  have HI : Hid (Inv W (w.heap.size + 1) w.heap.size (w.heap.size + 2) 600 v' D' ((made z len0).filter notSh) (heldOf len1 nh)) := hinv
  have HRV : Hid (W.ownsRow w1.heap.size 9 1 (.slice rao rn rc) (want (made z len0) (heldOf len1 nh)).length ((want (made z len0) (heldOf len1 nh)).map encStr)) := hrv
  have HRN : Hid (rn = (want (made z len0) (heldOf len1 nh)).length) := hrn
  have HRA : Hid (rn = 0 ∨ rao = some ⟨rg, 0, none⟩) := hrao
  have HBE : Hid (Below w.heap.size w w1 ∧ Below w.heap.size w W) := ⟨hbel1, hbel⟩
  clear hinv hrv hrn hrao hrvf hbel1
  go_wp2_with fail
  go_loopg [7, 8, 9, 10, 11, 12, 13, 14] len0 (fun gg s7 s8 s9 s10 s11 _ _ _ wr => ∃ k : Nat, k ≤ len0 ∧ len0 - k ≤ gg ∧ s11 = .int .i64 k ∧ Coll W wr z (heldOf len1 nh) k s7 s8 s9 s10)
  case atStart => exact ⟨0, Nat.zero_le _, Nat.le_refl _, rfl, Coll.start _ _ _⟩
  case round =>
    obtain ⟨k, hk, hkg, rfl, hcol⟩ := hrel
    have HC : Hid (Coll W wr z (heldOf len1 nh) k u7 u8 u9 u10) := hcol
    by_cases hlt : k < len0
    · have hbw : Below w.heap.size w wr := HBE.out.2.trans (hcol.2.2.2.2.2.mono HBE.out.2.size)
      have hix := idx22 a0 len0 cap0 k b0 o0 ha0 hlt
      have e0 : wr.cell? ⟨b0, o0 + k, none⟩ = some (.int .u8 (z k)) := (hbw.cell (hb0 (by omega))).trans (c0 k hlt)
      have hz0 := (hz k).1
      have hz1 := (hz k).2
      have e1 : k < len1 → wr.cell? ⟨b1, o1 + k, none⟩ = some (.bool (nh k)) := fun h1 => (hbw.cell (hb1 (by omega))).trans (c1 k h1)
      have hix1 := fun h1 : k < len1 => idx23 a1 len1 cap1 k b1 o1 ha1 h1
      have HX : Hid ((∀ W, k < len1 → (Instr.indexAt 23 (.slice a1 len1 cap1) (.int .i64 k)).run Yba.prog W = .ok (.pointer (some ⟨b1, o1 + k, none⟩)) W) ∧ (k < len1 → wr.cell? ⟨b1, o1 + k, none⟩ = some (.bool (nh k)))) := ⟨fun W h => hix1 h W, e1⟩
      clear hcol hbw c0 c1 hz e1 hix1 hbel
      go_upto_region 13 with fail
      go_cut [13] from 28 to 70 (fun s13 wc => s13 = .bool (heldOf len1 nh k) ∧ wc = wr)
      case first =>
        by_cases h1 : k < len1
        · have hix1 := fun W => HX.out.1 W h1
          have e1 := HX.out.2 h1
          cases hq : nh k
          · have HN : Hid (heldOf len1 nh k = true) := by show heldOf len1 nh k = true; simp [heldOf, hq]
            rw [hq] at e1
            go_wp2_with fail
            go_meet
            exact ⟨by rw [HN.out], rfl⟩
          · have HN : Hid (heldOf len1 nh k = false) := by show heldOf len1 nh k = false; simp [heldOf, hq, h1]
            rw [hq] at e1
            go_wp2_with fail
            go_meet
            exact ⟨by rw [HN.out], rfl⟩
        · have HN : Hid (heldOf len1 nh k = true) := by show heldOf len1 nh k = true; simp [heldOf, h1]
          go_wp2_with fail
          go_meet
          exact ⟨by rw [HN.out], rfl⟩
      case rest =>
        obtain ⟨rfl, rfl⟩ := hcut
        have hw1 := want_le z (heldOf len1 nh) k
        have hw2 := kp_le z k
        obtain ⟨r7, r8, r9, r10, ap, hbw⟩ := HC.out
        have hsw := hbw.size
        generalize hH : heldOf len1 nh = H at *
        have HH : Hid (heldOf len1 nh = H) := hH
        clear hH hix e0 HX ap hbw
        cases hm : (z k % 4 == 1)
        · have HM : Hid ((z k % 4 == 1) = false) := hm
          go_wp2_with (first
            | (go_at_call 7; refine (key_any k _ (by omega)).mono ?_; rintro e w2 ⟨rfl, o, rfl⟩)
            | (at_builtin; refine wpList_append_lies _ rfl (.tmp 59) (.tmp 61) 26 rfl W.heap.size 9 j9 (.string ⟨#[]⟩) 1 16 Yba.underlying26 hj9 hj90 hj91 hj92 rfl (by decide) _ _ _ rfl ((r8.alloc _).alloc _) ⟨wc.heap.size + 1, 0, none⟩ 1 1 [.string ⟨(kb k).toArray⟩] rfl rfl (news_one _ _ _ _) (by simp [Value.oneCell']) (by omega) (by unfold maxLen; omega) (by omega) (by simp; omega) (wc.heap.size + 2) (by simp) ?_; intro g8 c8 w3 h1 hg1 hat1 hlt1
               have r9' := ((r9.alloc o).alloc (.cells #[.string ⟨(kb k).toArray⟩] 9)).kept hg1 (row_kinds r9 r8 (by decide))
               have r10' := ((r10.alloc o).alloc (.cells #[.string ⟨(kb k).toArray⟩] 9)).kept hg1 (row_kinds r10 r8 (by decide))
               have hsz3 : W.heap.size ≤ w3.heap.size := by have := hg1.size; simp at this; omega
               clear r9 r10 r8)
            | (at_builtin; refine wpList_append_own _ rfl (.tmp 63) (.tmp 65) 28 rfl W.heap.size 29 j29 (.int .u8 0) 1 1 Yba.underlying28 hj29 hj290 hj291 hj292 rfl (by decide) _ _ _ rfl (r9'.alloc _) ⟨w3.heap.size, 0, none⟩ 1 1 [.int .u8 (z k % 4)] rfl rfl (cell_one_new _ _ _) (by simp [Value.oneCell']) (by unfold maxLen; omega) (by omega) (by simp; omega) ?_; intro v9' w4 h2 hg2 _
               have r10'' := (r10'.alloc (.cells #[.int .u8 (z k % 4)] 29)).kept hg2 (row_kinds r10' r9' (by decide))
               have hsz4 : W.heap.size ≤ w4.heap.size := by have := hg2.size; simp at this; omega
               clear r9' r10')
            | (at_builtin; refine wpList_append_own _ rfl (.tmp 67) (.tmp 69) 23 rfl W.heap.size 4 j4 (.bool false) 1 1 Yba.underlying23 hj4 hj40 hj41 hj42 rfl (by decide) _ _ _ rfl (r10''.alloc _) ⟨w4.heap.size, 0, none⟩ 1 1 [.bool (H k)] rfl rfl (cell_one_new _ _ _) (by simp [Value.oneCell']) (by unfold maxLen; omega) (by omega) (by simp; omega) ?_; intro v10' w5 h3 hg3 _; clear r10''))
          go_roundg (len0 - (k + 1))
          case measure => omega
          case rel => exact ⟨k + 1, by omega, Nat.le_refl _, by go_num, Coll.kept HC.out HM.out h1 hg1 hat1 h2 hg2 h3 hg3⟩
        · have HM : Hid ((z k % 4 == 1) = true) := hm
          cases hh : H k
          · go_wp2_with (go_at_call 7; refine (key_any k _ (by omega)).mono ?_; rintro e w2 ⟨rfl, o, rfl⟩)
            go_roundg (len0 - (k + 1))
            case measure => omega
            case rel => exact ⟨k + 1, by omega, Nat.le_refl _, by go_num, Coll.pass HC.out HM.out hh _⟩
          · have HHK : Hid (H k = true) := hh
            go_wp2_with (first
              | (go_at_call 7; refine (key_any k _ (by omega)).mono ?_; rintro e w2 ⟨rfl, o, rfl⟩)
              | (at_builtin; refine wpList_append_lies _ rfl (.tmp 55) (.tmp 57) 26 rfl W.heap.size 9 j9 (.string ⟨#[]⟩) 1 16 Yba.underlying26 hj9 hj90 hj91 hj92 rfl (by decide) _ _ _ rfl ((r7.alloc _).alloc _) ⟨wc.heap.size + 1, 0, none⟩ 1 1 [.string ⟨(kb k).toArray⟩] rfl rfl (news_one _ _ _ _) (by simp [Value.oneCell']) (by omega) (by unfold maxLen; omega) (by omega) (by simp; omega) (wc.heap.size + 2) (by simp) ?_; intro g7 c7 w3 h1 hg1 hat1 hlt1))
            go_roundg (len0 - (k + 1))
            case measure => omega
            case rel => exact ⟨k + 1, by omega, Nat.le_refl _, by go_num, Coll.hit HC.out HM.out HHK.out h1 hg1 hat1⟩
    · have hkl : k = len0 := by omega
      obtain ⟨r7, r8, r9, r10, ap, hbw⟩ := hcol
      rw [hkl] at r7 r8 r9 r10
      have HBF : Hid (Below w.heap.size w wr) := HBE.out.2.trans (hbw.mono HBE.out.2.size)
      have hgot := row_kept HRV.out hbw
      have hinv := HI.out.kept hbw
      generalize hH : heldOf len1 nh = H at *
      have hwl : (want (made z len0) H).length ≤ 300 := Nat.le_trans (want_le z H len0) hl
      have hkl8 : (kp z len0).length ≤ 300 := Nat.le_trans (kp_le z len0) hl
      obtain ⟨ao7, c7, g7, e7, ha7, hc7⟩ := row_shape r7
      obtain ⟨ao8, c8, g8, e8, ha8, hc8⟩ := row_shape r8
      obtain ⟨ao9, c9, g9, e9, ha9, hc9⟩ := row_shape r9
      obtain ⟨ao10, c10, g10, e10, ha10, hc10⟩ := row_shape r10
      obtain ⟨rao2, rc2, rg2, er, hra, hrc⟩ := row_shape hgot
      obtain ⟨hP, hrow, hmap, hheld, hbs⟩ := hinv
      obtain ⟨aoL, cL, gL, eL, haL, hcL⟩ := locks_shape hrow
      obtain ⟨p2, p3, -⟩ := has_cell hP
      rw [eL] at p2
      have hGood : Good (kp z len0) := (good_made z len0 hl).filter _
      have HHD : Hid (Held D' (kp z len0) H ∧ Good (kp z len0) ∧ (want (made z len0) H).length ≤ 300 ∧ wr.ownsMap Yba.prog 9 (plainElem Yba.prog 3) w.heap.size 600 D') := ⟨hheld, hGood, hwl, hmap⟩
      rw [er, e7, e8, e9, e10]
      change ∀ (j : Nat) (e : Lk), (kp z len0)[j]? = some e → _ at hcL
      change (kp z len0).length = 0 ∨ _ at haL
      change wr.cell? _ = some (.slice aoL (kp z len0).length cL) at p2
      have HCW : Hid (∀ (k : Nat) (x : List UInt8), (want (made z len0) H)[k]? = some x → wr.cell? ⟨rg2, k, none⟩ = some (.string ⟨x.toArray⟩) ∧ wr.cell? ⟨g7, k, none⟩ = some (.string ⟨x.toArray⟩)) := fun k x hx => by
        have hk := (List.getElem?_eq_some_iff.1 hx).1
        exact ⟨hrc k (encStr x) (by simp [hx]) hk, hc7 k (encStr x) (by simp [hx]) hk⟩
      have HCK : Hid (∀ (k : Nat) (e : Lk), (kp z len0)[k]? = some e → wr.cell? ⟨gL, k * 2, none⟩ = some (.string ⟨(kb e.1).toArray⟩) ∧ wr.cell? ⟨gL, k * 2 + 1, none⟩ = some (.int .u8 e.2) ∧ wr.cell? ⟨g8, k, none⟩ = some (.string ⟨(kb e.1).toArray⟩) ∧ wr.cell? ⟨g9, k, none⟩ = some (.int .u8 e.2) ∧ wr.cell? ⟨g10, k, none⟩ = some (.bool (H e.1))) := fun k e he => by
        have hk := (List.getElem?_eq_some_iff.1 he).1
        exact ⟨(hcL k e he).1, (hcL k e he).2, hc8 k (encStr (kb e.1)) (by simp [he]) hk, hc9 k _ (by simp [he]) hk, hc10 k _ (by simp [he]) hk⟩
      generalize hLk : kp z len0 = L at *
      generalize hWl : want (made z len0) H = wl at *
      have HA : Hid ((wl.length = 0 ∨ ao7 = some ⟨g7, 0, none⟩) ∧ (wl.length = 0 ∨ rao2 = some ⟨rg2, 0, none⟩) ∧ (L.length = 0 ∨ ao8 = some ⟨g8, 0, none⟩) ∧ (L.length = 0 ∨ ao9 = some ⟨g9, 0, none⟩) ∧ (L.length = 0 ∨ ao10 = some ⟨g10, 0, none⟩) ∧ (L.length = 0 ∨ aoL = some ⟨gL, 0, none⟩)) := ⟨ha7, hra, ha8, ha9, ha10, haL⟩
      clear hH hcL haL hc7 hc8 hc9 hc10 hrc ha7 ha8 ha9 ha10 hra e7 e8 e9 e10 er eL r7 r8 r9 r10 ap hbw hgot hP hrow hmap hheld hGood hLk hWl c0 c1 hz hbel HC HI HRV HRN HRA HBE ha0 ha1 hkl hkg
      go_wp2_with fail
      obtain ⟨wz, hwz⟩ : ∃ wz : World, wz = wr := ⟨_, rfl⟩
      have HWZ : Hid (wz = wr) := hwz
      clear hwz
      go_loopg [15] wl.length (fun gg s15 wx => ∃ (i nq : Nat), i ≤ wl.length ∧ wl.length - i ≤ gg ∧ s15 = .int .i64 i ∧ wx = wz.drewN nq)
      case atStart => exact ⟨0, 0, Nat.zero_le _, Nat.le_refl _, rfl, by rw [HWZ.out]; rfl⟩
      case round =>
        obtain ⟨i, nq, hi, hig, rfl, rfl⟩ := hrel
        by_cases hil : i < wl.length
        · obtain ⟨x, hx⟩ : ∃ x, wl[i]? = some x := ⟨_, List.getElem?_eq_getElem hil⟩
          have d0 := (HCW.out i x hx).1
          have d1 := (HCW.out i x hx).2
          rw [← HWZ.out] at d0 d1
          have x0 := idx26 rao2 wl.length rc2 i rg2 HA.out.2.1 hil
          have x1 := idx26 ao7 wl.length c7 i g7 HA.out.1 hil
          clear hx
          go_wp2_with fail
          go_quiet (fail)
          go_wp2
          go_roundg (wl.length - (i + 1))
          case measure => omega
          case rel => exact ⟨i + 1, _, by omega, Nat.le_refl _, by go_num, rfl⟩
        · have q2 := p2
          have q3 := p3
          rw [← HWZ.out] at q2 q3
          have hm3 : wz.ownsMap Yba.prog 9 (plainElem Yba.prog 3) w.heap.size 600 D' := by rw [HWZ.out]; exact HHD.out.2.2.2
          clear p2 p3
          go_wp2_with fail
          go_loopg [16, 17, 18, 19] L.length (fun gg s16 s17 _ _ wx => ∃ (j nq : Nat), j ≤ L.length ∧ L.length - j ≤ gg ∧ s17 = .int .i64 j ∧ s16 = .int .i64 (cntH L H j) ∧ wx = wz.drewN nq)
          case atStart => exact ⟨0, nq, Nat.zero_le _, Nat.le_refl _, rfl, rfl, rfl⟩
          case round =>
            obtain ⟨j, np, hj, hjg, rfl, rfl, rfl⟩ := hrel
            have hcj := cntH_le L H j
            by_cases hjl : j < L.length
            · obtain ⟨e, he⟩ : ∃ e, L[j]? = some e := ⟨_, List.getElem?_eq_getElem hjl⟩
              obtain ⟨d0, d1, d2, d3, d4⟩ := HCK.out j e he
              rw [← HWZ.out] at d0 d1 d2 d3 d4
              have x0 := idx32 aoL L.length cL j gL HA.out.2.2.2.2.2 hjl
              have x1 := idx26 ao8 L.length c8 j g8 HA.out.2.2.1 hjl
              have x2 := idx28 ao9 L.length c9 j g9 HA.out.2.2.2.1 hjl
              have x3 := idx23' ao10 L.length c10 j g10 HA.out.2.2.2.2.1 hjl
              obtain ⟨cc, hat, hlook⟩ := look_all hm3 e.1
              rw [HHD.out.1.hasK HHD.out.2.1 he] at hlook
              have HS := cntH_succ (h := H) he
              have HSC : Hid (cntH L H (j + 1) = cntH L H j + (if H e.1 then 1 else 0)) := HS
              clear HS
              cases hq : H e.1
              · rw [hq] at hlook d4
                have HQ : Hid (H e.1 = false) := hq
                clear hq hat
                go_wp2_with fail
                go_quiet (fail)
                go_wp2_with fail
                go_quiet (fail)
                go_wp2
                go_roundg (L.length - (j + 1))
                case measure => omega
                case rel => exact ⟨j + 1, _, by omega, Nat.le_refl _, by go_num, by rw [HSC.out, HQ.out]; rfl, rfl⟩
              · rw [hq] at hlook d4
                have HQ : Hid (H e.1 = true) := hq
                have hcc : cc = j := by
                  rw [HHD.out.1.2.1 j e he hq] at hat
                  simpa using hat.symm
                rw [hcc] at hlook
                clear hq hat hcc
                go_wp2_with fail
                go_quiet (fail)
                go_wp2_with fail
                go_quiet (fail)
                go_wp2
                go_roundg (L.length - (j + 1))
                case measure => omega
                case rel => exact ⟨j + 1, _, by omega, Nat.le_refl _, by go_num, by rw [HSC.out, HQ.out]; go_num, rfl⟩
            · have hjL : j = L.length := by omega
              have HE : Hid (size D' = cntH L H j) := by show size D' = cntH L H j; rw [hjL, cntH_all]; exact HHD.out.1.2.2
              clear hjL
              go_wp2_with (at_len; refine wpList_len_own _ rfl _ 33 rfl 9 3 Yba.underlying33 _ w.heap.size 600 _ rfl hm3 ?_)
              go_ret
              refine ⟨?_, ?_⟩
              · simp [HE.out]
              · have hb := HBF.out
                rw [← HWZ.out] at hb
                exact ⟨hb.os, hb.tape, hb.output, hb.size, hb.block⟩
end Go.Proofs.Ybulkpts
