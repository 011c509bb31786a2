/- LawS0811AIdempotent: the walk. -/
import Derived.Test.YbulkptsLawB
namespace Go.Proofs.Ybulkpts
open Go.RowKit Go.Maps Go.Sort
set_option linter.unusedVariables false

set_option maxHeartbeats 4000000 in
set_option maxRecDepth 100000 in
theorem lawB_any (a0 a1 : Option Addr) (len0 cap0 len1 cap1 b0 o0 b1 o1 : Nat) (z : Nat → Int) (nh : Nat → Bool) (w : World) (hl : len0 ≤ 300) (hl1 : len1 ≤ maxLen)
    (ha0 : len0 = 0 ∨ a0 = some ⟨b0, o0, none⟩) (ha1 : len1 = 0 ∨ a1 = some ⟨b1, o1, none⟩) (hb0 : 0 < len0 → b0 < w.heap.size) (hb1 : 0 < len1 → b1 < w.heap.size)
    (c0 : ∀ i, i < len0 → w.cell? ⟨b0, o0 + i, none⟩ = some (.int .u8 (z i))) (hz : ∀ i, 0 ≤ z i ∧ z i ≤ 255) (c1 : ∀ i, i < len1 → w.cell? ⟨b1, o1 + i, none⟩ = some (.bool (nh i))) :
    Calls Yba.prog 4 #[.slice a0 len0 cap0, .slice a1 len1 cap1] w fun e w' => e = .returned (.bool true) ∧ Below w.heap.size w w' := by
  obtain ⟨j9, hj9, hj90, hj91, hj92⟩ := info_parts info9
  obtain ⟨j29, hj29, hj290, hj291, hj292⟩ := info_parts info29
  have hbld := build_any a0 a1 len0 cap0 len1 cap1 b0 o0 b1 o1 z nh w hl hl1 ha0 ha1 hb0 hb1 c0 hz c1
  have hd300 : decide ((300 : Int) < (len0 : Int)) = false := by simp; omega
  clear hl1 ha0 ha1 hb0 hb1 c0 hz c1
  go_enter Yba.func4, Yba.ntmps4
  go_wp2_with fail
  refine hbld.mono ?_
  rintro e w1 ⟨rfl, v, D, hinv, hbel1⟩
  have hbeg := begin_build hinv hl (by omega) (by omega) (by omega)
  have hrel := release_any _ _ _ _ _ _ _ _ _ hbeg
  have HV : Hid (∀ k, v.ownBlock = some k → w.heap.size + 2 ≤ k) := fun k hk => (hbeg.rowlt k hk).1
  clear hbld hinv hbeg
  go_wp2_with fail
  refine hrel.mono ?_
  rintro e W ⟨rv, v', D', rfl, hinv, -, hfr⟩
  clear hrel
  have hbel : Below w.heap.size w W := hbel1.trans (hfr.below (B := w.heap.size) (base := 0) (by omega) (by omega) hbel1.size (fun k hk => by have := HV.out k hk; omega))
  clear hfr HV hbel1
  generalize hH : heldOf len1 nh = H at *
  change Inv W (w.heap.size + 1) w.heap.size (w.heap.size + 2) 600 v' D' (kp z len0) H at hinv
  have hkl8 : (kp z len0).length ≤ 300 := Nat.le_trans (kp_le z len0) hl
  have hGood : Good (kp z len0) := (good_made z len0 hl).filter _
  have hno := kp_notSh z len0
  generalize hLk : kp z len0 = L at *
  clear hH hLk
  have hinv2 := hinv
  obtain ⟨hP, hrow, hmap, hheld, hbs⟩ := hinv2
  obtain ⟨aoL, cL, gL, eL, haL, hcL⟩ := locks_shape hrow
  obtain ⟨p2, p3, -⟩ := has_cell hP
  have p2v := p2
  rw [eL] at p2
  have HI : Hid (Inv W (w.heap.size + 1) w.heap.size (w.heap.size + 2) 600 v' D' L H ∧ Below w.heap.size w W ∧ Good L ∧ (∀ e ∈ L, (e.2 == 1) = false)) := ⟨hinv, hbel, hGood, hno⟩
  have HEL : Hid (v' = .slice aoL L.length cL ∧ (L.length = 0 ∨ aoL = some ⟨gL, 0, none⟩)) := ⟨eL, haL⟩
  have hWs := hbs
  clear hinv hbel hGood hno hrow hmap hheld hcL haL eL p2v p3 hP
  go_wp2_with (first
    | (at_make; refine wpList_make_full _ rfl _ _ 26 rfl W.heap.size 9 j9 (.string ⟨#[]⟩) 1 Yba.underlying26 hj9 hj90 hj91 _ _ _ _ L.length rfl rfl rfl rfl (by rw [hj92]; omega) (by unfold maxLen; omega) (Nat.le_refl _) ?_; intro w2 hk2 hg2)
    | (at_make; refine wpList_make_full _ rfl _ _ 28 rfl w2.heap.size 29 j29 (.int .u8 0) 1 Yba.underlying28 hj29 hj290 hj291 _ _ _ _ L.length rfl rfl rfl rfl (by rw [hj292]; omega) (by unfold maxLen; omega) (Nat.le_refl _) ?_; intro w3 hm3 hg3))
  have hsz2 := hg2.size
  have hlt2 := (hk2.lt W.heap.size rfl).2
  have FAR : Hid (Far w (w.heap.size + 1) w.heap.size W.heap.size w2.heap.size v') := by
    have hv : ∀ k, v'.ownBlock = some k → k < W.heap.size := fun k hk => (HI.out.1.2.1.lt k hk).2
    exact ⟨by omega, by omega, by omega, by omega, fun e => by have := hv _ e; omega, fun e => by have := hv _ e; omega, by omega, by omega, by omega⟩
  have hb2 : Below W.heap.size W w3 := ((Below.refl _ _).grown hg2 (Nat.le_refl _) (fun k hk => by cases hk)).grown hg3 hsz2 (fun k hk => by cases hk)
  have HC0 : Hid (Cpy w w3 (w.heap.size + 1) w.heap.size (w.heap.size + 2) 600 v' D' L H W.heap.size w2.heap.size 0) :=
    ⟨_, _, hk2.kept hg3 (.inr (by simp [Value.ownBlock])), hm3, fun j e hj => absurd hj (Nat.not_lt_zero _), HI.out.1.kept hb2, HI.out.2.1.trans (hb2.mono HI.out.2.1.size)⟩
  clear hk2 hm3 hg2 hg3 hb2 p2 hsz2 hbs
  generalize hgk : W.heap.size = gq at *
  generalize hgm : w2.heap.size = gm at *
  clear hgk hgm
  have hd0 : w.heap.size + 1 ≠ gq := FAR.out.pk
  have hd1 : w.heap.size + 1 ≠ gm := FAR.out.pm
  have hd2 : gq ≠ gm := FAR.out.km
  have hd2' : gm ≠ gq := fun e => FAR.out.km e.symm
  go_loopg [9] L.length (fun gg s9 wr => ∃ k : Nat, k ≤ L.length ∧ L.length - k ≤ gg ∧ s9 = .int .i64 k ∧ Cpy w wr (w.heap.size + 1) w.heap.size (w.heap.size + 2) 600 v' D' L H gq gm k)
  case atStart => exact ⟨0, Nat.zero_le _, Nat.le_refl _, rfl, HC0.out⟩
  case round =>
    obtain ⟨k, hk, hkg, rfl, hcp⟩ := hrel
    have HCP : Hid (Cpy w wr (w.heap.size + 1) w.heap.size (w.heap.size + 2) 600 v' D' L H gq gm k) := hcp
    have hI : Inv wr (w.heap.size + 1) w.heap.size (w.heap.size + 2) 600 v' D' L H := by obtain ⟨_, _, _, _, _, h, _⟩ := hcp; exact h
    obtain ⟨q2, q3, -⟩ := has_cell hI.1
    by_cases hlt : k < L.length
    · obtain ⟨e, he⟩ : ∃ e, L[k]? = some e := ⟨_, List.getElem?_eq_getElem hlt⟩
      obtain ⟨⟨u0, hu0⟩, ⟨u1, hu1⟩, f0, f1⟩ := hcp.cells hlt
      obtain ⟨aoX, cX, gX, eX, haX, hcX⟩ := locks_shape hI.2.1
      have hgX : aoL = some ⟨gL, 0, none⟩ := HEL.out.2.resolve_left (by omega)
      have hgX2 : aoX = some ⟨gX, 0, none⟩ := haX.resolve_left (by omega)
      rw [HEL.out.1] at eX q2
      simp only [Value.slice.injEq, true_and] at eX
      obtain ⟨ea, -⟩ := eX
      rw [hgX, hgX2] at ea
      obtain rfl : gL = gX := by simpa using ea
      obtain ⟨d0, d1⟩ := hcX k e he
      have hgk' : gL ≠ gq := fun e => FAR.out.vk (by rw [HEL.out.1, hgX, ← e]; rfl)
      have hgm' : gL ≠ gm := fun e => FAR.out.vm (by rw [HEL.out.1, hgX, ← e]; rfl)
      have x0 := idx32 aoL L.length cL k gL HEL.out.2 hlt
      have hsh := HI.out.2.2.2 e (List.mem_of_getElem? he)
      have HE : Hid (L[k]? = some e) := he
      clear hcX haX hgX hgX2 ea he hI hcp q3
      go_wp2
      go_roundg (L.length - (k + 1))
      case measure => omega
      case rel => exact ⟨k + 1, by omega, Nat.le_refl _, by go_num, Cpy.step HCP.out FAR.out HE.out⟩
    · have hkL : k = L.length := by omega
      have HK : Hid (k = L.length) := hkL
      have hlen := hI.2.2.1
      have hbeg : Begin wr (w.heap.size + 1) w.heap.size (w.heap.size + 2) 600 v' D' L H := ⟨hI, HI.out.2.2.1, by omega, by omega, by omega, by omega⟩
      have hrel2 := release_any _ _ _ _ _ _ _ _ _ hbeg
      rw [want_none HI.out.2.2.2, kept_none HI.out.2.2.2] at hrel2
      have HZ : Hid (size D' = (L.filter fun e => H e.1).length ∧ Below w.heap.size w wr ∧ ∀ k, v'.ownBlock = some k → w.heap.size + 2 ≤ k) := ⟨hI.2.2.2.1.2.2, by obtain ⟨_, _, _, _, _, _, h⟩ := hcp; exact h, fun k hk => (hbeg.rowlt k hk).1⟩
      clear hI hbeg hcp hkL q2 hd0 hd1 hd2 hd2' HC0
      go_wp2_with (at_len; refine wpList_len_own _ rfl _ 33 rfl 9 3 Yba.underlying33 _ w.heap.size 600 _ rfl hlen ?_)
      refine hrel2.mono ?_
      rintro e W5 ⟨rv5, v5, D5, rfl, hinv5, hrv5, hfr5⟩
      clear hrel2 hlen
      obtain ⟨ao5, c5, g5, e5, -, -⟩ := row_shape hrv5
      obtain ⟨hP5, hrow5, hmap5, hheld5, hbs5⟩ := hinv5
      obtain ⟨aoN, cN, gN, eN, haN, hcN⟩ := locks_shape hrow5
      obtain ⟨q2, q3, -⟩ := has_cell hP5
      rw [eN] at q2
      rw [e5]
      have hD5 : size D5 = size D' := by rw [hheld5.2.2, HZ.out.1]
      have hlen5 := fun ty => hmap5.len Yba.underlying33 ty
      rw [hD5] at hlen5
      have HFR : Hid (Fr wr W5 (w.heap.size + 1) w.heap.size v') := hfr5
      have HH5 : Hid (Held D5 L H ∧ W5.ownsMap Yba.prog 9 (plainElem Yba.prog 3) w.heap.size (600 + 300) D5) := ⟨hheld5, hmap5⟩
      have HCN : Hid ((L.length = 0 ∨ aoN = some ⟨gN, 0, none⟩) ∧ ∀ (j : Nat) (e : Lk), L[j]? = some e → W5.cell? ⟨gN, j * 2, none⟩ = some (.string ⟨(kb e.1).toArray⟩) ∧ W5.cell? ⟨gN, j * 2 + 1, none⟩ = some (.int .u8 e.2)) := ⟨haN, hcN⟩
      clear hrv5 hfr5 hP5 hrow5 hmap5 hheld5 haN hcN e5 eN hbs5 hD5
      go_wp2_with fail
      clear hlen5
      have hCK : ∀ (j : Nat) (e : Lk), j < L.length → L[j]? = some e → W5.cell? ⟨gq, j, none⟩ = some (.string ⟨(kb e.1).toArray⟩) ∧ W5.cell? ⟨gm, j, none⟩ = some (.int .u8 e.2) := fun j e hj he => Cpy.fr HCP.out FAR.out HFR.out (by rw [HK.out]; exact hj) he
      have HCK : Hid (∀ (j : Nat) (e : Lk), j < L.length → L[j]? = some e → W5.cell? ⟨gq, j, none⟩ = some (.string ⟨(kb e.1).toArray⟩) ∧ W5.cell? ⟨gm, j, none⟩ = some (.int .u8 e.2)) := hCK
      clear hCK
      go_loopg [12, 13, 14] L.length (fun gg s12 _ _ wx => ∃ (j nq : Nat), j ≤ L.length ∧ L.length - j ≤ gg ∧ s12 = .int .i64 j ∧ wx = W5.drewN nq)
      case atStart => exact ⟨0, 0, Nat.zero_le _, Nat.le_refl _, rfl, rfl⟩
      case round =>
        obtain ⟨j, np, hj, hjg, rfl, rfl⟩ := hrel
        by_cases hjl : j < L.length
        · obtain ⟨e, he⟩ : ∃ e, L[j]? = some e := ⟨_, List.getElem?_eq_getElem hjl⟩
          obtain ⟨d0, d1⟩ := HCN.out.2 j e he
          obtain ⟨d2, d3⟩ := HCK.out j e hjl he
          have x0 := idx32 aoN L.length cN j gN HCN.out.1 hjl
          obtain ⟨cc, hat, hlook⟩ := look_all HH5.out.2 e.1
          rw [HH5.out.1.hasK HI.out.2.2.1 he] at hlook
          cases hq : H e.1
          · rw [hq] at hlook
            clear hq hat
            go_wp2_with fail
            go_quiet (fail)
            go_wp2_with fail
            go_quiet (fail)
            go_wp2
            go_roundg (L.length - (j + 1))
            case measure => omega
            case rel => exact ⟨j + 1, _, by omega, Nat.le_refl _, by go_num, rfl⟩
          · rw [hq] at hlook
            have hcc : cc = j := by
              rw [HH5.out.1.2.1 j e he hq] at hat
              simpa using hat.symm
            rw [hcc] at hlook
            clear hq hat hcc
            go_wp2_with fail
            go_quiet (fail)
            go_wp2_with fail
            go_quiet (fail)
            go_wp2
            go_roundg (L.length - (j + 1))
            case measure => omega
            case rel => exact ⟨j + 1, _, by omega, Nat.le_refl _, by go_num, rfl⟩
        · go_wp2
          go_ret
          have hb := HZ.out.2.1.trans (HFR.out.below (B := w.heap.size) (base := 0) (by omega) (by omega) HZ.out.2.1.size (fun k hk => by have := HZ.out.2.2 k hk; omega))
          exact ⟨rfl, hb.os, hb.tape, hb.output, hb.size, hb.block⟩
end Go.Proofs.Ybulkpts
