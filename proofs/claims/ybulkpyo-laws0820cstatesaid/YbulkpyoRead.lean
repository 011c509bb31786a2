/- endsIn, matches, zzs0820cends: the walks of what only reads. -/
import Derived.Test.YbulkpyoRows
import Derived.Test.YbulkpyoPlain
import Derived.WalkKit
import Derived.WalkSpells
import Derived.WalkLawsBesides
import Derived.Deep.LoopGhost
import Derived.Deep.Draws
import Derived.BigQuiet
namespace Go.Proofs.Ybulkpyo
open Go.RowKit
set_option linter.unusedVariables false

/-- WHAT THE READER LEADS TO: r at block R, its pattern at Pt, its program at Pg, the instructions at gI, 'least' at gL. -/
structure Mem (w : World) (R Pt Pg gI gL : Nat) (I : Ins) : Prop where
  rp : w.cell? ⟨R, 0, none⟩ = some (.pointer (some ⟨Pt, 0, none⟩))
  pp : w.cell? ⟨Pt, 0, none⟩ = some (.pointer (some ⟨Pg, 0, none⟩))
  pl : w.cell? ⟨Pt, 3, none⟩ = some (.slice (some ⟨gL, 0, none⟩) (I.n + 1) (I.n + 1))
  pi : w.cell? ⟨Pg, 0, none⟩ = some (.slice (some ⟨gI, 0, none⟩) (I.n + 1) (I.n + 1))
  op : ∀ i, i ≤ I.n → w.cell? ⟨gI, i * 4, none⟩ = some (.int .u8 (opc (I.K i)))
  out : ∀ i, i < I.n → w.cell? ⟨gI, i * 4 + 1, none⟩ = some (.int .u32 (I.O i))
  arg : ∀ i, i ≤ I.n → I.K i = 1 → w.cell? ⟨gI, i * 4 + 2, none⟩ = some (.int .u32 (argc (I.a i)))
  lst : ∀ i, i ≤ I.n → w.cell? ⟨gL, i, none⟩ = some (.int .i64 (I.L i))

theorem Mem.of {w w' : World} {R Pt Pg gI gL : Nat} {I : Ins} (m : Mem w R Pt Pg gI gL I) (h : ∀ a v, w.cell? a = some v → w'.cell? a = some v) : Mem w' R Pt Pg gI gL I :=
  ⟨h _ _ m.rp, h _ _ m.pp, h _ _ m.pl, h _ _ m.pi, fun i hi => h _ _ (m.op i hi), fun i hi => h _ _ (m.out i hi), fun i hi hk => h _ _ (m.arg i hi hk), fun i hi => h _ _ (m.lst i hi)⟩

set_option maxHeartbeats 2000000 in
set_option maxRecDepth 100000 in
theorem endsIn_any (R Pt Pg gI gL : Nat) (I : Ins) (ok : I.Ok) (pc0 : Nat) (w : World) (m : Mem w R Pt Pg gI gL I) (hpc : pc0 ≤ I.n) :
    Calls Yba.prog 15 #[.pointer (some ⟨R, 0, none⟩), .int .u32 pc0] w fun e w' => e = .returned (.bool (endsB I pc0)) ∧ w' = w := by
  have r1 := m.rp
  have r2 := m.pp
  have r3 := m.pi
  have hn := ok.hn
  go_enter Yba.func15, Yba.ntmps15
  go_wp2
  go_loopg [1, 5] (I.n - pc0) (fun gg s1 _ wr => ∃ pc : Nat, pc ≤ I.n ∧ I.n - pc ≤ gg ∧ s1 = .int .u32 pc ∧ Hid (endsB I pc0 = endsB I pc) ∧ wr = w)
  case atStart => exact ⟨pc0, hpc, Nat.le_refl _, rfl, rfl, rfl⟩
  case round =>
    obtain ⟨pc, hp, hg, rfl, HE, rfl⟩ := hrel
    have d0 := m.op pc hp
    have hk7 := ok.hK pc hp
    have HO : Hid (I.K pc ≠ 0 → pc < I.O pc ∧ I.O pc ≤ I.n) := fun hk => ok.hO pc (lt_of_kind I ok hp hk)
    have HA : Hid (I.K pc = 1 → wr.cell? ⟨gI, pc * 4 + 2, none⟩ = some (.int .u32 (argc (I.a pc)))) := fun hk => m.arg pc hp hk
    have ha5 := ok.ha pc
    rcases (show I.K pc = 0 ∨ I.K pc = 1 ∨ (I.K pc = 2 ∨ I.K pc = 5 ∨ I.K pc = 6) ∨ (I.K pc = 3 ∨ I.K pc = 4) by omega) with hk | hk | hk | hk
    · have HK : Hid (endsB I pc0 = true) := HE.out.trans (endsB_0 I ok hp hk)
      rw [hk] at d0
      clear hk hk7 ha5
      simp only [opc] at d0
      go_wp2
      go_ret
      exact ⟨by rw [HK.out]; rfl, rfl⟩
    · have HK : Hid (endsB I pc0 = (endc (I.a pc) && endsB I (I.O pc))) := HE.out.trans (endsB_1 I ok hp hk)
      have d2 := HA.out hk
      have ho := HO.out (by omega)
      have d1 := m.out pc (by omega)
      rw [hk] at d0
      clear hk hk7
      simp only [opc] at d0
      rcases (show I.a pc = 0 ∨ I.a pc = 1 ∨ I.a pc = 2 ∨ I.a pc = 3 ∨ I.a pc = 4 by omega) with h | h | h | h | h
      all_goals
        have HK2 : Hid (endsB I pc0 = (endc (I.a pc) && endsB I (I.O pc)) ∧ I.a pc = _) := ⟨HK.out, h⟩
        rw [h] at d2
        clear h ha5
        simp only [argc] at d2
        go_wp2
        first
          | (go_roundg (I.n - I.O pc)
             case measure => omega
             case rel => exact ⟨I.O pc, ho.2, Nat.le_refl _, rfl, by show _ = _; rw [HK2.out.1, HK2.out.2]; rfl, rfl⟩)
          | (go_ret
             exact ⟨by rw [HK2.out.1, HK2.out.2]; rfl, rfl⟩)
    · have HK : Hid (endsB I pc0 = false) := HE.out.trans (endsB_no I ok hp hk)
      rcases hk with hk | hk | hk
      all_goals
        rw [hk] at d0
        clear hk hk7 ha5
        simp only [opc] at d0
        go_wp2
        go_ret
        exact ⟨by rw [HK.out]; rfl, rfl⟩
    · have HK : Hid (endsB I pc0 = endsB I (I.O pc)) := HE.out.trans (endsB_go I ok hp hk)
      have ho := HO.out (by omega)
      have d1 := m.out pc (by omega)
      rcases hk with hk | hk
      all_goals
        rw [hk] at d0
        clear hk hk7 ha5
        simp only [opc] at d0
        go_wp2
        go_roundg (I.n - I.O pc)
        case measure => omega
        case rel => exact ⟨I.O pc, ho.2, Nat.le_refl _, rfl, HK, rfl⟩
/-- The law's own tables. -/
structure Tab (w : World) (gK gO gE : Nat) (I : Ins) : Prop where
  kd : ∀ i, i ≤ I.n → w.cell? ⟨gK, i, none⟩ = some (.int .i64 (I.K i))
  ot : ∀ i, i ≤ I.n → w.cell? ⟨gO, i, none⟩ = some (.int .i64 (I.O i))
  en : ∀ i, i ≤ I.n → I.K i = 1 → w.cell? ⟨gE, i, none⟩ = some (.bool (endc (I.a i)))

set_option maxHeartbeats 2000000 in
set_option maxRecDepth 100000 in
theorem cends_any (gK gO gE : Nat) (I : Ins) (ok : I.Ok) (o : Nat) (w : World) (m : Tab w gK gO gE I) (ho : o ≤ I.n) :
    Calls Yba.prog 7 #[.slice (some ⟨gK, 0, none⟩) (I.n + 1) (I.n + 1), .slice (some ⟨gO, 0, none⟩) (I.n + 1) (I.n + 1), .slice (some ⟨gE, 0, none⟩) (I.n + 1) (I.n + 1), .int .i64 I.n, .int .i64 o] w fun e w' => e = .returned (.bool (endsB I o)) ∧ w' = w := by
  have hn := ok.hn
  go_enter Yba.func7, Yba.ntmps7
  go_wp2
  go_loopg [11, 12] (I.n + 2) (fun gg s11 s12 wr => ∃ j s : Nat, j ≤ I.n ∧ s ≤ I.n + 2 ∧ I.n + 2 - s ≤ gg ∧ s11 = .int .i64 j ∧ s12 = .int .i64 s ∧ Hid (ends I (I.n + 2) o = ends I (I.n + 2 - s) j) ∧ wr = w)
  case atStart => exact ⟨o, 0, ho, Nat.zero_le _, Nat.le_refl _, rfl, rfl, rfl, rfl⟩
  case round =>
    obtain ⟨j, s, hp, hs, hg, rfl, rfl, HE, rfl⟩ := hrel
    by_cases hlt : s ≤ I.n + 1
    · have d0 := m.kd j hp
      have d1 := m.ot j hp
      have hk7 := ok.hK j hp
      have HO : Hid (I.K j ≠ 0 → j < I.O j ∧ I.O j ≤ I.n) := fun hk => ok.hO j (lt_of_kind I ok hp hk)
      have hf : I.n + 2 - s = (I.n + 1 - s) + 1 := by omega
      have HF : Hid (I.n + 2 - s = (I.n + 1 - s) + 1 ∧ I.n + 1 - s = I.n + 2 - (s + 1)) := ⟨hf, by omega⟩
      clear hf
      rcases (show I.K j = 0 ∨ I.K j = 1 ∨ (I.K j = 2 ∨ I.K j = 5 ∨ I.K j = 6) ∨ (I.K j = 3 ∨ I.K j = 4) by omega) with hk | hk | hk | hk
      · have HK : Hid (endsB I o = true) := by show endsB I o = true; rw [← ends_more I ok ho, HE.out, HF.out.1]; exact ends_0 I hk
        rw [hk] at d0
        clear hk hk7
        go_wp2
        go_ret
        exact ⟨by rw [HK.out]; rfl, rfl⟩
      · have HK : Hid (ends I (I.n + 2) o = (endc (I.a j) && ends I (I.n + 1 - s) (I.O j))) := by show ends I (I.n + 2) o = _; rw [HE.out, HF.out.1]; exact ends_1 I hk
        have d2 := m.en j hp hk
        have hoo := HO.out (by omega)
        rw [hk] at d0
        clear hk hk7
        cases hq : endc (I.a j)
        · have HB : Hid (endsB I o = false) := by show endsB I o = false; rw [← ends_more I ok ho, HK.out, hq]; rfl
          rw [hq] at d2
          clear hq
          go_wp2
          go_ret
          exact ⟨by rw [HB.out]; rfl, rfl⟩
        · have HB : Hid (ends I (I.n + 2) o = ends I (I.n + 2 - (s + 1)) (I.O j)) := by show ends I (I.n + 2) o = _; rw [HK.out, hq, HF.out.2]; rfl
          rw [hq] at d2
          clear hq
          go_wp2
          go_roundg (I.n + 2 - (s + 1))
          case measure => omega
          case rel => exact ⟨I.O j, s + 1, hoo.2, by omega, Nat.le_refl _, rfl, by go_num, HB, rfl⟩
      · have HK : Hid (endsB I o = false) := by show endsB I o = false; rw [← ends_more I ok ho, HE.out, HF.out.1]; exact ends_no I hk
        rcases hk with hk | hk | hk
        all_goals
          rw [hk] at d0
          clear hk hk7
          go_wp2
          go_ret
          exact ⟨by rw [HK.out]; rfl, rfl⟩
      · have HK : Hid (ends I (I.n + 2) o = ends I (I.n + 2 - (s + 1)) (I.O j)) := by show ends I (I.n + 2) o = _; rw [HE.out, HF.out.1, ends_go I hk, HF.out.2]
        have hoo := HO.out (by omega)
        rcases hk with hk | hk
        all_goals
          rw [hk] at d0
          clear hk hk7
          go_wp2
          go_roundg (I.n + 2 - (s + 1))
          case measure => omega
          case rel => exact ⟨I.O j, s + 1, hoo.2, by omega, Nat.le_refl _, rfl, by go_num, HK, rfl⟩
    · have hs2 : I.n + 2 - s = 0 := by omega
      have HK : Hid (endsB I o = false) := by show endsB I o = false; rw [← ends_more I ok ho, HE.out, hs2]; rfl
      clear hs2
      go_wp2
      go_ret
      exact ⟨by rw [HK.out]; rfl, rfl⟩

set_option maxHeartbeats 2000000 in
set_option maxRecDepth 100000 in
theorem matches_any (R Pt Pg gI gL gW mm : Nat) (I : Ins) (ok : I.Ok) (W : Nat → Nat) (hW : ∀ t, W t ≤ I.n) (w : World) (m : Mem w R Pt Pg gI gL I) (hm : mm ≤ 1024) (hw : ∀ t, t < mm → w.cell? ⟨gW, t, none⟩ = some (.int .u32 (W t))) :
    Calls Yba.prog 12 #[.pointer (some ⟨R, 0, none⟩), .slice (some ⟨gW, 0, none⟩) mm mm] w fun e w' => e = .returned (.bool (mtTo I W mm)) ∧ w' = w := by
  have r1 := m.rp
  have r2 := m.pp
  have r3 := m.pi
  have hn := ok.hn
  go_enter Yba.func12, Yba.ntmps12
  go_wp2
  go_loopg [6, 7, 10] mm (fun gg _ _ s10 wr => ∃ k : Nat, k ≤ mm ∧ mm - k ≤ gg ∧ s10 = .int .i64 k ∧ Hid (∀ t, t < k → mt I (W t) = false) ∧ wr = w)
  case atStart => exact ⟨0, Nat.zero_le _, Nat.le_refl _, rfl, fun t ht => absurd ht (Nat.not_lt_zero _), rfl⟩
  case round =>
    obtain ⟨k, hk, hg, rfl, HN, rfl⟩ := hrel
    by_cases hlt : k < mm
    · have x0 := hw k hlt
      have hp := hW k
      have d0 := m.op (W k) hp
      have hk7 := ok.hK (W k) hp
      have HO : Hid (I.K (W k) ≠ 0 → W k < I.O (W k) ∧ I.O (W k) ≤ I.n) := fun hk => ok.hO (W k) (lt_of_kind I ok hp hk)
      have HW : Hid (mm ≤ 1024) := hm
      have MM : Hid (Mem wr R Pt Pg gI gL I) := m
      have next : mt I (W k) = false → Hid (∀ t, t < k + 1 → mt I (W t) = false) := fun h t ht => by
        by_cases e : t = k
        · rw [e]; exact h
        · exact HN.out t (by omega)
      have NX : Hid (mt I (W k) = false → Hid (∀ t, t < k + 1 → mt I (W t) = false)) := next
      clear hw hW next
      rcases (show I.K (W k) = 0 ∨ I.K (W k) = 1 ∨ (I.K (W k) = 2 ∨ I.K (W k) = 3 ∨ I.K (W k) = 4 ∨ I.K (W k) = 5 ∨ I.K (W k) = 6) by omega) with hk | hk | hk
      · have HK : Hid (mtTo I W mm = true) := mtTo_hit hlt (by unfold mt; rw [hk]; rfl)
        rw [hk] at d0
        clear hk hk7
        simp only [opc] at d0
        go_wp2
        go_ret
        exact ⟨by rw [HK.out]; rfl, rfl⟩
      · have ho := HO.out (by omega)
        have d1 := MM.out.out (W k) (by omega)
        have HM : Hid (mt I (W k) = endsB I (I.O (W k))) := by show mt I (W k) = _; unfold mt; rw [hk]; simp
        have hcall := endsIn_any R Pt Pg gI gL I ok (I.O (W k)) wr MM.out ho.2
        rw [hk] at d0
        clear hk hk7
        simp only [opc] at d0
        cases hq : endsB I (I.O (W k))
        · have HM2 : Hid (mt I (W k) = false) := HM.out.trans hq
          rw [hq] at hcall
          clear hq
          go_wp2_with (go_at_call 15; refine hcall.mono ?_; rintro e w' ⟨rfl, rfl⟩)
          go_roundg (mm - (k + 1))
          case measure => omega
          case rel => exact ⟨k + 1, by omega, Nat.le_refl _, by go_num, NX.out HM2.out, rfl⟩
        · have HM2 : Hid (mtTo I W mm = true) := mtTo_hit hlt (HM.out.trans hq)
          rw [hq] at hcall
          clear hq
          go_wp2_with (go_at_call 15; refine hcall.mono ?_; rintro e w' ⟨rfl, rfl⟩)
          go_ret
          exact ⟨by rw [HM2.out]; rfl, rfl⟩
      · have HM : Hid (mt I (W k) = false) := by show mt I (W k) = false; unfold mt; rcases hk with hk | hk | hk | hk | hk <;> rw [hk] <;> rfl
        rcases hk with hk | hk | hk | hk | hk
        all_goals
          rw [hk] at d0
          clear hk hk7
          simp only [opc] at d0
          go_wp2
          go_roundg (mm - (k + 1))
          case measure => omega
          case rel => exact ⟨k + 1, by omega, Nat.le_refl _, by go_num, NX.out HM.out, rfl⟩
    · have HK : Hid (mtTo I W mm = false) := mtTo_none fun t ht => HN.out t (by omega)
      go_wp2
      go_ret
      exact ⟨by rw [HK.out]; rfl, rfl⟩
end Go.Proofs.Ybulkpyo
