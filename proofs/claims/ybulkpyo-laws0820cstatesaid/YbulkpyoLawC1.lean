/- LawS0820CState: the walk. -/
import Derived.Test.YbulkpyoHere
namespace Go.Proofs.Ybulkpyo
open Go.RowKit
set_option linter.unusedVariables false

set_option maxHeartbeats 4000000 in
set_option maxRecDepth 100000 in
theorem lawC_any (a0 a1 : Option Addr) (cap0 mm cap1 b0 o0 b1 o1 : Nat) (P Q A : Nat → Int) (I : Ins) (ok : I.Ok) (X : Nat → Int) (w : World) (hm : mm ≤ 1024) (gv : Given w a0 b0 o0 P Q A I)
    (ha1 : mm = 0 ∨ a1 = some ⟨b1, o1, none⟩) (hb1 : 0 < mm → b1 < w.heap.size) (c1 : ∀ i, i < mm → w.cell? ⟨b1, o1 + i, none⟩ = some (.int .u8 (X i))) (hX : ∀ i, 0 ≤ X i ∧ X i ≤ 255) :
    Calls Yba.prog 4 #[.slice a0 I.n cap0, .slice a1 mm cap1] w fun e w' => e = .returned (.bool true) ∧ Below w.heap.size w w' := by
  obtain ⟨j3, hj3, hj30, hj31, hj32⟩ := info_parts info3
  obtain ⟨j4, hj4, hj40, hj41, hj42⟩ := info_parts info4
  obtain ⟨j61, hj61, hj610, hj611, hj612⟩ := info_parts info61
  have hn := ok.hn
  have hd1 : decide ((256 : Int) < (I.n : Int)) = false := by simp; omega
  have hd2 : decide ((1024 : Int) < (mm : Int)) = false := by simp; omega
  have GV : Hid (Given w a0 b0 o0 P Q A I) := gv
  clear gv
  go_enter Yba.func4, Yba.ntmps4
  go_wp2_with (first
    | (at_make; refine wpList_make_full _ rfl (.tmp 42) (.tmp 42) 45 rfl w.heap.size 3 j3 (.int .i64 0) 1 Yba.underlying45 hj3 hj30 hj31 _ _ _ _ (I.n + 1) rfl rfl (by omega) (by omega) (by rw [hj32]; omega) (by unfold maxLen; omega) (Nat.le_refl _) ?_; intro w1 hk1 hg1)
    | (at_make; refine wpList_make_full _ rfl (.tmp 45) (.tmp 45) 45 rfl w1.heap.size 3 j3 (.int .i64 0) 1 Yba.underlying45 hj3 hj30 hj31 _ _ _ _ (I.n + 1) rfl rfl (by omega) (by omega) (by rw [hj32]; omega) (by unfold maxLen; omega) (Nat.le_refl _) ?_; intro w2 hk2 hg2)
    | (at_make; refine wpList_make_full _ rfl (.tmp 48) (.tmp 48) 46 rfl w2.heap.size 4 j4 (.bool false) 1 Yba.underlying46 hj4 hj40 hj41 _ _ _ _ (I.n + 1) rfl rfl (by omega) (by omega) (by rw [hj42]; omega) (by unfold maxLen; omega) (Nat.le_refl _) ?_; intro w3 hk3 hg3)
    | (at_make; refine wpList_make_full _ rfl (.tmp 51) (.tmp 51) 45 rfl w3.heap.size 3 j3 (.int .i64 0) 1 Yba.underlying45 hj3 hj30 hj31 _ _ _ _ (I.n + 1) rfl rfl (by omega) (by omega) (by rw [hj32]; omega) (by unfold maxLen; omega) (Nat.le_refl _) ?_; intro w4 hk4 hg4)
    | (at_make; refine wpList_make_full _ rfl (.tmp 54) (.tmp 54) 48 rfl w4.heap.size 61 j61 (.agg #[.int .u8 0, .int .u32 0, .int .u32 0, .slice none 0 0]) 4 Yba.underlying48 hj61 hj610 hj611 _ _ _ _ (I.n + 1) rfl rfl (by omega) (by omega) (by rw [hj612]; omega) (by unfold maxLen; omega) (Nat.le_refl _) ?_; intro w5 hk5 hg5))
  have hS0 := setup_start (I := I) hk1 hg1 hk2 hg2 hk3 hg3 hk4 hg4 hk5 hg5
  have HS0 : Hid (Setup w (W6 w5 w4.heap.size I.n) ⟨w.heap.size, w1.heap.size, w2.heap.size, w3.heap.size, w4.heap.size, w5.heap.size, w5.heap.size + 1, w5.heap.size + 1 + 1, w5.heap.size + 1 + 1 + 1⟩ I 0 0 0 0 0 0 0) := hS0
  obtain ⟨u1, u2, u3, u4, u5⟩ : w.heap.size < w1.heap.size ∧ w1.heap.size < w2.heap.size ∧ w2.heap.size < w3.heap.size ∧ w3.heap.size < w4.heap.size ∧ w4.heap.size < w5.heap.size := by
    have := hS0.up
    exact ⟨this.a1, this.a2, this.a3, this.a4, this.a5⟩
  clear hS0 hk1 hg1 hk2 hg2 hk3 hg3 hk4 hg4 hk5 hg5
  generalize w1.heap.size = gO at *
  generalize w2.heap.size = gE at *
  generalize w3.heap.size = gL at *
  generalize w4.heap.size = gI at *
  generalize hgP : w5.heap.size = gP at *
  clear hgP
  have hgb : ∃ b : Bl, b = ⟨w.heap.size, gO, gE, gL, gI, gP, gP + 1, gP + 1 + 1, gP + 1 + 1 + 1⟩ := ⟨_, rfl⟩
  obtain ⟨b, hb⟩ := hgb
  have HBB : Hid (b = ⟨w.heap.size, gO, gE, gL, gI, gP, gP + 1, gP + 1 + 1, gP + 1 + 1 + 1⟩) := hb
  have HS1 : Hid (Setup w (W6 w5 gI I.n) b I 0 0 0 0 0 0 0) := by show Setup w (W6 w5 gI I.n) b I 0 0 0 0 0 0 0; rw [hb]; exact HS0.out
  clear hb HS0
  go_loopg [14, 15, 16, 17] I.n (fun gg s14 _ _ _ wr => ∃ k : Nat, k ≤ I.n ∧ I.n - k ≤ gg ∧ s14 = .int .i64 k ∧ Setup w wr b I k k k k k k k)
  case atStart => exact ⟨0, Nat.zero_le _, Nat.le_refl _, rfl, HS1.out⟩
  case round =>
    obtain ⟨k, hk, hkg, rfl, hS⟩ := hrel
    by_cases hlt : k < I.n
    · have hix := idx43 a0 I.n cap0 k b0 o0 GV.out.ad hlt
      have hbl := GV.out.bl (by omega)
      have e0 : wr.cell? ⟨b0, o0 + k * 4, none⟩ = some (.int .u8 (P k)) := (hS.bel.cell hbl).trans (GV.out.c0 k hlt)
      have e1 : wr.cell? ⟨b0, o0 + k * 4 + 1, none⟩ = some (.int .u8 (Q k)) := (hS.bel.cell hbl).trans (GV.out.c1 k hlt)
      have hp0 := (GV.out.wp k).1
      have hp1 := (GV.out.wp k).2
      have hq0 := (GV.out.wq k).1
      have hq1 := (GV.out.wq k).2
      have hK := GV.out.hK k hlt
      have hO := GV.out.hO k hlt
      have hK7 := ok.hK k hk
      have hOn := (ok.hO k hlt).2
      have bK : Blk wr w.heap.size 3 (I.n + 1) := by have := hS.bK; rw [HBB.out] at this; exact this
      have bO : Blk wr gO 3 (I.n + 1) := by have := hS.bO; rw [HBB.out] at this; exact this
      obtain ⟨x1, hx1⟩ := bK.cell (o := k) (by omega)
      obtain ⟨x2, hx2⟩ := bO.cell (o := k) (by omega)
      have f1 := bK.free k
      have f2 := bO.free k
      have HS2 : Hid (Setup w ((wr.setCell ⟨w.heap.size, k, none⟩ (.int .i64 (I.K k))).setCell ⟨gO, k, none⟩ (.int .i64 (I.O k))) b I (k + 1) (k + 1) k k k k k) := by
        have := (hS.kinds hk).outs hk
        rw [HBB.out] at this ⊢
        exact this
      clear bK bO hS HS1
      go_upto_region 19 with fail
      clear hx1 hx2 f1 f2 e0 e1
      generalize (wr.setCell ⟨w.heap.size, k, none⟩ (.int .i64 (I.K k))).setCell ⟨gO, k, none⟩ (.int .i64 (I.O k)) = W1 at HS2 ⊢
      go_cut [15] from 61 to 157 (fun s15 wc => s15 = .int .i64 (I.K k) ∧ Setup w wc b I (k + 1) (k + 1) (k + 1) k k k k)
      case first =>
        have pP : W1.cell? ⟨gP, 0, none⟩ = some (.slice (some ⟨gI, 0, none⟩) (I.n + 1) (I.n + 1)) := by have := HS2.out.pP; rw [HBB.out] at this; exact this
        have tT : W1.cell? ⟨gP + 1, I.K k, none⟩ = some (.int .u8 (opc (I.K k))) := by have := HS2.out.tT (I.K k) hK7; rw [HBB.out] at this; exact this
        have bI : Blk W1 gI 61 ((I.n + 1) * 4) := by have := HS2.out.bI; rw [HBB.out] at this; exact this
        obtain ⟨x3, hx3⟩ := bI.cell (o := k * 4) (by omega)
        have f3 := bI.free (k * 4)
        have HS3 : Hid (Setup w ((W1.setCell ⟨gI, k * 4, none⟩ (.int .u8 (opc (I.K k)))).drewN 1) b I (k + 1) (k + 1) (k + 1) k k k k) := by
          have := (HS2.out.ops hk).drewN 1
          rw [HBB.out] at this ⊢
          exact this
        have HKK : Hid (P k % 7 = (I.K k : Int)) := hK
        rw [show (P k % 7 : Int) = (I.K k : Int) from hK]
        clear bI hK hO hix HS2
        go_region
        all_goals go_wp2_with fail
        all_goals go_meet
        all_goals exact ⟨rfl, HS3.out⟩
      case rest =>
        obtain ⟨rfl, hS3⟩ := hcut
        have pP : wc.cell? ⟨gP, 0, none⟩ = some (.slice (some ⟨gI, 0, none⟩) (I.n + 1) (I.n + 1)) := by have := hS3.pP; rw [HBB.out] at this; exact this
        have bI : Blk wc gI 61 ((I.n + 1) * 4) := by have := hS3.bI; rw [HBB.out] at this; exact this
        have bL : Blk wc gL 3 (I.n + 1) := by have := hS3.bL; rw [HBB.out] at this; exact this
        obtain ⟨x3, hx3⟩ := bI.cell (o := k * 4 + 1) (by omega)
        obtain ⟨x4, hx4⟩ := bI.cell (o := k * 4 + 2) (by omega)
        obtain ⟨x5, hx5⟩ := bL.cell (o := k) (by omega)
        have f3 := bI.free (k * 4 + 1)
        have f4 := bI.free (k * 4 + 2)
        have f5 := bL.free k
        have e2 : wc.cell? ⟨b0, o0 + k * 4 + 2, none⟩ = some (.int .u8 (A k)) := (hS3.bel.cell hbl).trans (GV.out.c2 k hlt)
        have e3 : wc.cell? ⟨b0, o0 + k * 4 + 3, none⟩ = some (.int .i64 (I.L k)) := (hS3.bel.cell hbl).trans (GV.out.c3 k hlt)
        have nI : b0 ≠ gI := by omega
        have nL : b0 ≠ gL := by omega
        have nE : b0 ≠ gE := by omega
        have HS3 : Hid (Setup w wc b I (k + 1) (k + 1) (k + 1) k k k k) := hS3
        have HSJ : Hid (Setup w (wc.setCell ⟨gI, k * 4 + 1, none⟩ (.int .u32 (I.O k))) b I (k + 1) (k + 1) (k + 1) (k + 1) k k k) := by
          have := hS3.jump hk
          rw [HBB.out] at this ⊢
          exact this
        clear bI bL hS3 HS2 hK hO
        by_cases h1 : I.K k = 1
        · have k1 : (((I.K k : Nat) : Int) == 1) = true := by simp; omega
          have hA := GV.out.ha k
          have hA0 := (GV.out.wa k).1
          have hA1 := (GV.out.wa k).2
          have ha5 := ok.ha k
          have hbd := argc_bd (I.a k)
          have hb0' := hbd.1
          have hb1' := hbd.2
          have HKI : Hid (I.K k = 1) := h1
          clear h1 hbd
          go_upto_region 23 with fail
          clear hx3 f3 pP hx5 f5 hx4 f4 e2
          generalize wc.setCell ⟨gI, k * 4 + 1, none⟩ (.int .u32 (I.O k)) = W2 at HSJ ⊢
          go_cut [17] from 61 to 157 (fun s17 wd => s17 = .int .i64 (I.a k) ∧ Setup w wd b I (k + 1) (k + 1) (k + 1) (k + 1) (k + 1) k k)
          case first =>
            have pP : W2.cell? ⟨gP, 0, none⟩ = some (.slice (some ⟨gI, 0, none⟩) (I.n + 1) (I.n + 1)) := by have := HSJ.out.pP; rw [HBB.out] at this; exact this
            have tA : W2.cell? ⟨gP + 1 + 1, I.a k, none⟩ = some (.int .u8 (argc (I.a k))) := by have := HSJ.out.tA (I.a k) ha5; rw [HBB.out] at this; exact this
            have bI : Blk W2 gI 61 ((I.n + 1) * 4) := by have := HSJ.out.bI; rw [HBB.out] at this; exact this
            obtain ⟨x3, hx3⟩ := bI.cell (o := k * 4 + 2) (by omega)
            have f3 := bI.free (k * 4 + 2)
            have HSK : Hid (Setup w ((W2.setCell ⟨gI, k * 4 + 2, none⟩ (.int .u32 (argc (I.a k)))).drewN 1) b I (k + 1) (k + 1) (k + 1) (k + 1) (k + 1) k k) := by
              have := (HSJ.out.args hk).drewN 1
              rw [HBB.out] at this ⊢
              exact this
            rw [show (A k % 5 : Int) = (I.a k : Int) from hA]
            clear bI hA HSJ HS3 hix e3
            go_region
            all_goals go_wp2_with fail
            all_goals go_meet
            all_goals exact ⟨rfl, HSK.out⟩
          case rest =>
            obtain ⟨rfl, hS4⟩ := hcut
            have tB : wc.cell? ⟨gP + 1 + 1 + 1, I.a k, none⟩ = some (.bool (endc (I.a k))) := by have := hS4.tB (I.a k) ha5; rw [HBB.out] at this; exact this
            have bE : Blk wc gE 4 (I.n + 1) := by have := hS4.bE; rw [HBB.out] at this; exact this
            have bL : Blk wc gL 3 (I.n + 1) := by have := hS4.bL; rw [HBB.out] at this; exact this
            obtain ⟨x3, hx3⟩ := bE.cell (o := k) (by omega)
            obtain ⟨x5, hx5⟩ := bL.cell (o := k) (by omega)
            have f3 := bE.free k
            have f5 := bL.free k
            have e3 : wc.cell? ⟨b0, o0 + k * 4 + 3, none⟩ = some (.int .i64 (I.L k)) := (hS4.bel.cell hbl).trans (GV.out.c3 k hlt)
            have HSE : Hid (Setup w ((wc.setCell ⟨gE, k, none⟩ (.bool (endc (I.a k)))).setCell ⟨gL, k, none⟩ (.int .i64 (I.L k))) b I (k + 1) (k + 1) (k + 1) (k + 1) (k + 1) (k + 1) (k + 1)) := by
              have := (hS4.marks hk).leasts hk
              rw [HBB.out] at this ⊢
              exact this
            clear hS4 bE bL HSJ HS3 hA
            go_wp2
            go_roundg (I.n - (k + 1))
            case measure => omega
            case rel => exact ⟨k + 1, by omega, Nat.le_refl _, by go_num, HSE.out⟩
        · by_cases h5 : I.K k = 5
          · have k1 : (((I.K k : Nat) : Int) == 1) = false := by simp; omega
            have k5 : (((I.K k : Nat) : Int) == 5) = true := by simp; omega
            have HSE : Hid (Setup w (((wc.setCell ⟨gI, k * 4 + 1, none⟩ (.int .u32 (I.O k))).setCell ⟨gI, k * 4 + 2, none⟩ (.int .u32 (I.O k))).setCell ⟨gL, k, none⟩ (.int .i64 (I.L k))) b I (k + 1) (k + 1) (k + 1) (k + 1) (k + 1) (k + 1) (k + 1)) := by
              have := ((HSJ.out.idle h1 (.int .u32 (I.O k))).noMark h1).leasts hk
              rw [HBB.out] at this ⊢
              exact this
            clear h1 h5
            go_wp2
            go_roundg (I.n - (k + 1))
            case measure => omega
            case rel => exact ⟨k + 1, by omega, Nat.le_refl _, by go_num, HSE.out⟩
          · have k1 : (((I.K k : Nat) : Int) == 1) = false := by simp; omega
            have k5 : (((I.K k : Nat) : Int) == 5) = false := by simp; omega
            have HSE : Hid (Setup w ((wc.setCell ⟨gI, k * 4 + 1, none⟩ (.int .u32 (I.O k))).setCell ⟨gL, k, none⟩ (.int .i64 (I.L k))) b I (k + 1) (k + 1) (k + 1) (k + 1) (k + 1) (k + 1) (k + 1)) := by
              have := ((HSJ.out.noArg h1).noMark h1).leasts hk
              rw [HBB.out] at this ⊢
              exact this
            clear h1 h5
            go_wp2
            go_roundg (I.n - (k + 1))
            case measure => omega
            case rel => exact ⟨k + 1, by omega, Nat.le_refl _, by go_num, HSE.out⟩
    · have hkn : k = I.n := by omega
      have HF : Hid (Full w ((((wr.setCell ⟨w.heap.size, I.n, none⟩ (.int .i64 0)).setCell ⟨gO, I.n, none⟩ (.int .i64 I.n)).setCell ⟨gI, I.n * 4, none⟩ (.int .u8 4)).setCell ⟨gL, I.n, none⟩ (.int .i64 0)) b I) := by
        rw [hkn] at hS
        exact full_of HBB.out hS ok GV.out.hL
      have pP : wr.cell? ⟨gP, 0, none⟩ = some (.slice (some ⟨gI, 0, none⟩) (I.n + 1) (I.n + 1)) := by have := hS.pP; rw [HBB.out] at this; exact this
      have bK : Blk wr w.heap.size 3 (I.n + 1) := by have := hS.bK; rw [HBB.out] at this; exact this
      have bO : Blk wr gO 3 (I.n + 1) := by have := hS.bO; rw [HBB.out] at this; exact this
      have bL : Blk wr gL 3 (I.n + 1) := by have := hS.bL; rw [HBB.out] at this; exact this
      have bI : Blk wr gI 61 ((I.n + 1) * 4) := by have := hS.bI; rw [HBB.out] at this; exact this
      obtain ⟨x1, hx1⟩ := bK.cell (o := I.n) (by omega)
      obtain ⟨x2, hx2⟩ := bO.cell (o := I.n) (by omega)
      obtain ⟨x3, hx3⟩ := bI.cell (o := I.n * 4) (by omega)
      obtain ⟨x4, hx4⟩ := bL.cell (o := I.n) (by omega)
      have f1 := bK.free I.n
      have f2 := bO.free I.n
      have f3 := bI.free (I.n * 4)
      have f4 := bL.free I.n
      obtain ⟨j58, hj58, hj580, hj581, hj582⟩ := info_parts info58
      clear bK bO bL bI hS HS1 hkn
      go_upto_region 32 with fail
      clear hx1 hx2 hx3 hx4 f1 f2 f3 f4 pP
      generalize (((wr.setCell ⟨w.heap.size, I.n, none⟩ (.int .i64 0)).setCell ⟨gO, I.n, none⟩ (.int .i64 I.n)).setCell ⟨gI, I.n * 4, none⟩ (.int .u8 4)).setCell ⟨gL, I.n, none⟩ (.int .i64 0) = W7 at HF ⊢
      obtain ⟨Wf, hWf⟩ : ∃ Wf : Nat → Nat, ∀ t, X t % ((I.n : Int) + 1) = (Wf t : Int) ∧ Wf t ≤ I.n := ⟨fun t => (X t % ((I.n : Int) + 1)).toNat, fun t => by
        have h1 := Int.emod_nonneg (X t) (b := (I.n : Int) + 1) (by omega)
        have h2 := Int.emod_lt_of_pos (X t) (b := (I.n : Int) + 1) (by omega)
        show X t % ((I.n : Int) + 1) = ((X t % ((I.n : Int) + 1)).toNat : Int) ∧ (X t % ((I.n : Int) + 1)).toNat ≤ I.n
        omega⟩
      have HWF : Hid (∀ t, X t % ((I.n : Int) + 1) = (Wf t : Int) ∧ Wf t ≤ I.n) := hWf
      clear hWf
      go_wp2_with (at_make; refine wpList_make_full _ rfl _ _ 62 rfl W7.heap.size 58 j58 (.int .u32 0) 1 Yba.underlying62 hj58 hj580 hj581 _ _ _ _ mm rfl rfl rfl rfl (by rw [hj582]; omega) (by unfold maxLen; omega) (Nat.le_refl _) ?_; intro w8 hk8 hg8)
      have hB8 : Below W7.heap.size W7 w8 := (Below.refl _ _).grown hg8 (Nat.le_refl _) (fun k hk => by cases hk)
      have hlast : gP + 1 + 1 + 1 < W7.heap.size := by
        have h := HF.out.tB 0 (by omega)
        rw [HBB.out] at h
        have := World.block_lt_of_cell? _ _ h
        exact this
      have HF8 : Hid (Full w w8 b I ∧ Wts w8 W7.heap.size mm Wf 0 ∧ b.gB < W7.heap.size) := ⟨HF.out.later hB8, ⟨by have := blk_of hk8; rw [Nat.mul_one] at this; exact this, fun t ht => absurd ht (Nat.not_lt_zero _)⟩, by rw [HBB.out]; exact hlast⟩
      have hws : w.heap.size ≤ W7.heap.size := HF.out.bel.size
      clear hk8 hg8 hB8 HF
      generalize W7.heap.size = gW at *
      go_loopg [19, 20, 180] mm (fun gg _ _ s180 wr => ∃ k : Nat, k ≤ mm ∧ mm - k ≤ gg ∧ s180 = .int .i64 k ∧ Full w wr b I ∧ Wts wr gW mm Wf k)
      case atStart => exact ⟨0, Nat.zero_le _, Nat.le_refl _, rfl, HF8.out.1, HF8.out.2.1⟩
      case round =>
        obtain ⟨t, ht, htg, rfl, hFu, hWt⟩ := hrel
        by_cases htl : t < mm
        · have hix := idx44 a1 mm cap1 t b1 o1 ha1 htl
          have hbl := hb1 (by omega)
          have e0 : wr.cell? ⟨b1, o1 + t, none⟩ = some (.int .u8 (X t)) := (hFu.bel.cell hbl).trans (c1 t htl)
          have hx0 := (hX t).1
          have hx1 := (hX t).2
          have hxe := (HWF.out t).1
          have hxl := (HWF.out t).2
          obtain ⟨x1, hc1⟩ := hWt.1.cell (o := t) htl
          have f1 := hWt.1.free t
          have HN : Hid (Full w (wr.setCell ⟨gW, t, none⟩ (.int .u32 (Wf t))) b I ∧ Wts (wr.setCell ⟨gW, t, none⟩ (.int .u32 (Wf t))) gW mm Wf (t + 1)) := ⟨hFu.far HF8.out.2.2 _ _, hWt.step htl⟩
          clear hFu hWt c1 hX
          go_wp2
          go_roundg (mm - (t + 1))
          case measure => omega
          case rel => exact ⟨t + 1, by omega, Nat.le_refl _, by go_num, HN.out.1, HN.out.2⟩
        · have htm : t = mm := by omega
          rw [htm] at hWt
          have HFU : Hid (Full w wr b I ∧ Wts wr gW mm Wf mm) := ⟨hFu, hWt⟩
          clear htm c1 hX
          obtain ⟨wz, hwz⟩ : ∃ wz : World, wz = wr := ⟨_, rfl⟩
          have HWZ : Hid (wz = wr) := hwz
          have HFZ : Hid (Full w wz b I ∧ Wts wz gW mm Wf mm) := by rw [hwz]; exact HFU
          clear hwz hFu hWt
          have hTab : Tab wz w.heap.size gO gE I := by have := HFZ.out.1.tab ok.hKn; rw [HBB.out] at this; exact this
          have HTB : Hid (Tab wz w.heap.size gO gE I ∧ ∀ i, i ≤ I.n → wz.cell? ⟨gL, i, none⟩ = some (.int .i64 (I.L i))) := ⟨hTab, fun i hi => by have := HFZ.out.1.lst i (by omega); rw [HBB.out] at this; exact this⟩
          clear hTab
          go_wp2_with fail
          go_loopg [21, 22, 23, 25, 26, 197] mm (fun gg s21 s22 s23 _ _ s197 wx => ∃ q : Nat, q ≤ mm ∧ mm - q ≤ gg ∧ s197 = .int .i64 q ∧ s21 = .int .i64 (need I Wf q) ∧ s22 = .bool (ldTo I Wf q) ∧ s23 = .bool (mtTo I Wf q) ∧ wx = wz)
          case atStart => exact ⟨0, Nat.zero_le _, Nat.le_refl _, rfl, rfl, rfl, rfl, HWZ.out.symm⟩
          case round =>
            obtain ⟨q, hq, hqg, rfl, rfl, rfl, rfl, rfl⟩ := hrel
            by_cases hql : q < mm
            · have d0 := HFZ.out.2.2 q hql
              have hj := (HWF.out q).2
              have d1 := HTB.out.1.kd (Wf q) hj
              have d2 := HTB.out.1.ot (Wf q) hj
              have d3 := HTB.out.2 (Wf q) hj
              have hK7 := ok.hK (Wf q) hj
              have HLD : Hid (ldTo I Wf (q + 1) = (ldTo I Wf q || ld I (Wf q))) := rfl
              have HMT : Hid (mtTo I Wf (q + 1) = (mtTo I Wf q || mt I (Wf q))) := rfl
              have HMD : Hid (mt I (Wf q) = (I.K (Wf q) == 0 || (I.K (Wf q) == 1 && endsB I (I.O (Wf q))))) := rfl
              have HLN : Hid (ld I (Wf q) = (I.K (Wf q) != 0 && I.K (Wf q) != 1)) := rfl
              have HND : Hid ((I.L (Wf q) < need I Wf q → need I Wf (q + 1) = I.L (Wf q)) ∧ (¬ I.L (Wf q) < need I Wf q → need I Wf (q + 1) = need I Wf q)) := ⟨need_lt, need_ge⟩
              have hcall : I.K (Wf q) = 1 → Calls Yba.prog 7 #[.slice (some ⟨w.heap.size, 0, none⟩) (I.n + 1) (I.n + 1), .slice (some ⟨gO, 0, none⟩) (I.n + 1) (I.n + 1), .slice (some ⟨gE, 0, none⟩) (I.n + 1) (I.n + 1), .int .i64 I.n, .int .i64 (I.O (Wf q))] wr fun e w' => e = .returned (.bool (endsB I (I.O (Wf q)))) ∧ w' = wr := fun hk =>
                cends_any w.heap.size gO gE I ok (I.O (Wf q)) wr HTB.out.1 (ok.hO (Wf q) (lt_of_kind I ok hj (by omega))).2
              have HCA : Hid (I.K (Wf q) = 1 → Calls Yba.prog 7 #[.slice (some ⟨w.heap.size, 0, none⟩) (I.n + 1) (I.n + 1), .slice (some ⟨gO, 0, none⟩) (I.n + 1) (I.n + 1), .slice (some ⟨gE, 0, none⟩) (I.n + 1) (I.n + 1), .int .i64 I.n, .int .i64 (I.O (Wf q))] wr fun e w' => e = .returned (.bool (endsB I (I.O (Wf q)))) ∧ w' = wr) := hcall
              clear hcall HFU
              rcases (show I.K (Wf q) = 0 ∨ I.K (Wf q) = 1 ∨ (I.K (Wf q) ≠ 0 ∧ I.K (Wf q) ≠ 1) by omega) with hk | hk | hk
              · have HA : Hid (ldTo I Wf (q + 1) = ldTo I Wf q ∧ mtTo I Wf (q + 1) = true) := by
                  refine ⟨?_, ?_⟩
                  · rw [HLD.out, HLN.out, hk]; simp
                  · rw [HMT.out, HMD.out, hk]; simp
                rw [hk] at d1
                clear hk hK7
                by_cases hlt2 : I.L (Wf q) < need I Wf q
                · have HB : Hid (need I Wf (q + 1) = I.L (Wf q)) := HND.out.1 hlt2
                  go_wp2
                  go_roundg (mm - (q + 1))
                  case measure => omega
                  case rel => exact ⟨q + 1, by omega, Nat.le_refl _, by go_num, by rw [HB.out], by rw [HA.out.1], by rw [HA.out.2], rfl⟩
                · have HB : Hid (need I Wf (q + 1) = need I Wf q) := HND.out.2 hlt2
                  go_wp2
                  go_roundg (mm - (q + 1))
                  case measure => omega
                  case rel => exact ⟨q + 1, by omega, Nat.le_refl _, by go_num, by rw [HB.out], by rw [HA.out.1], by rw [HA.out.2], rfl⟩
              · have hca := HCA.out hk
                cases hen : endsB I (I.O (Wf q))
                all_goals
                  have HA : Hid (ldTo I Wf (q + 1) = ldTo I Wf q ∧ mtTo I Wf (q + 1) = (mtTo I Wf q || endsB I (I.O (Wf q)))) := by
                    refine ⟨?_, ?_⟩
                    · rw [HLD.out, HLN.out, hk]; simp
                    · rw [HMT.out, HMD.out, hk]; simp
                  have HEN : Hid (endsB I (I.O (Wf q)) = _) := hen
                  rw [hen] at hca
                  have d1' := d1
                  rw [hk] at d1'
                  clear d1 hK7 hen
                  by_cases hlt2 : I.L (Wf q) < need I Wf q
                  · have HB : Hid (need I Wf (q + 1) = I.L (Wf q)) := HND.out.1 hlt2
                    clear hk
                    go_wp2_with (go_at_call 7; refine hca.mono ?_; rintro e w' ⟨rfl, rfl⟩)
                    go_roundg (mm - (q + 1))
                    case measure => omega
                    case rel => exact ⟨q + 1, by omega, Nat.le_refl _, by go_num, by rw [HB.out], by rw [HA.out.1], by rw [HA.out.2, HEN.out]; simp, rfl⟩
                  · have HB : Hid (need I Wf (q + 1) = need I Wf q) := HND.out.2 hlt2
                    clear hk
                    go_wp2_with (go_at_call 7; refine hca.mono ?_; rintro e w' ⟨rfl, rfl⟩)
                    go_roundg (mm - (q + 1))
                    case measure => omega
                    case rel => exact ⟨q + 1, by omega, Nat.le_refl _, by go_num, by rw [HB.out], by rw [HA.out.1], by rw [HA.out.2, HEN.out]; simp, rfl⟩
              · have HA : Hid (ldTo I Wf (q + 1) = true ∧ mtTo I Wf (q + 1) = mtTo I Wf q) := by
                  refine ⟨?_, ?_⟩
                  · rw [HLD.out, HLN.out]; simp [hk.1, hk.2]
                  · rw [HMT.out, HMD.out]; simp [hk.1, hk.2]
                have k0 : (((I.K (Wf q) : Nat) : Int) != 0) = true := by simp; omega
                have k1 : (((I.K (Wf q) : Nat) : Int) != 1) = true := by simp; omega
                have k2 : (((I.K (Wf q) : Nat) : Int) == 0) = false := by simp; omega
                have k3 : (((I.K (Wf q) : Nat) : Int) == 1) = false := by simp; omega
                clear hk hK7
                by_cases hlt2 : I.L (Wf q) < need I Wf q
                · have HB : Hid (need I Wf (q + 1) = I.L (Wf q)) := HND.out.1 hlt2
                  go_wp2
                  go_roundg (mm - (q + 1))
                  case measure => omega
                  case rel => exact ⟨q + 1, by omega, Nat.le_refl _, by go_num, by rw [HB.out], by rw [HA.out.1], by rw [HA.out.2], rfl⟩
                · have HB : Hid (need I Wf (q + 1) = need I Wf q) := HND.out.2 hlt2
                  go_wp2
                  go_roundg (mm - (q + 1))
                  case measure => omega
                  case rel => exact ⟨q + 1, by omega, Nat.le_refl _, by go_num, by rw [HB.out], by rw [HA.out.1], by rw [HA.out.2], rfl⟩
            · have hqm : q = mm := by omega
              rw [hqm]
              have HWW : Hid (∀ t, Wf t ≤ I.n) := fun t => (HWF.out t).2
              have hcall := now_any ok HBB.out HFZ.out.1 HFZ.out.2 HWW.out hm GV.out.wl
              unfold W10 at hcall
              clear hqm HFU HWF HFZ HTB HWZ
              go_wp2_with (go_at_call 8; refine hcall.mono ?_; rintro e w11 ⟨g, gi, cap, rfl, hnow⟩; have HNW : Hid (Now w w11 I Wf mm gW g gi cap) := hnow; obtain ⟨s0, s1, s2, s3, s4⟩ := hnow.cs; clear hnow hcall)
              go_loopg [29, 275] mm (fun gg _ s275 wy => ∃ q nq : Nat, q ≤ mm ∧ mm - q ≤ gg ∧ s275 = .int .i64 q ∧ wy = w11.drewN nq)
              case atStart => exact ⟨0, 0, Nat.zero_le _, Nat.le_refl _, rfl, rfl⟩
              case round =>
                obtain ⟨q, nq, hq, hqg, rfl, rfl⟩ := hrel
                by_cases hql : q < mm
                · have e1 := HNW.out.ids q hql
                  have e2 := HNW.out.wts q hql
                  go_wp2_with fail
                  go_quiet (fail)
                  go_wp2
                  go_roundg (mm - (q + 1))
                  case measure => omega
                  case rel => exact ⟨q + 1, _, by omega, Nat.le_refl _, by go_num, rfl⟩
                · have f1 : w11.frozen? ⟨gW, 0, none⟩ = false := HNW.out.blk.free 0
                  have n1 := HNW.out.ne1
                  have n2 := HNW.out.ne2
                  by_cases h0 : 0 < mm
                  · have e1 := HNW.out.ids 0 h0
                    have e2 := HNW.out.wts 0 h0
                    have hb0 := HWW.out 0
                    have HBE : Hid (Below w.heap.size w w11 ∧ w.heap.size ≤ gW) := ⟨HNW.out.bel, hws⟩
                    clear f1
                    have e3 : ∀ (nq : Nat) (u : Value), ((w11.drewN nq).setCell ⟨gW, 0, none⟩ u).cell? ⟨g, 0, none⟩ = some (.slice (some ⟨gi, 0, none⟩) mm cap) := fun nq u => cell_off (.inl n2) s0
                    have e4 : ∀ (nq : Nat) (u : Value), ((w11.drewN nq).setCell ⟨gW, 0, none⟩ u).cell? ⟨gi, 0, none⟩ = some (.int .u32 (Wf 0)) := fun nq u => cell_off (.inl n1) e1
                    have f1 : w11.frozen? ⟨gW, 0, none⟩ = false := HNW.out.blk.free 0
                    clear n1 n2 HNW
                    go_wp2
                    go_ret
                    have hbd : Below w.heap.size w (w11.drewN nq) := ⟨HBE.out.1.os, HBE.out.1.tape, HBE.out.1.output, HBE.out.1.size, HBE.out.1.block⟩
                    exact ⟨rfl, hbd.setCell (p := ⟨gW, 0, none⟩) HBE.out.2 _⟩
                  · have h00 : mm = 0 := by omega
                    subst h00
                    clear f1 n1 n2
                    go_wp2
                    go_ret
                    exact ⟨rfl, ⟨HNW.out.bel.os, HNW.out.bel.tape, HNW.out.bel.output, HNW.out.bel.size, HNW.out.bel.block⟩⟩
end Go.Proofs.Ybulkpyo
