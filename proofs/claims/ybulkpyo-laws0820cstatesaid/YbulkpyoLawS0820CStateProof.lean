/- The proof of 'Rows.LawS0820CStateSaid': the arguments opened, the walk, and the guide's own frame round it. -/
import Derived.Test.YbulkpyoLawC1
import Derived.WalkKit
import Derived.ProofKit
import Derived.OpenShut
import Derived.ChangeOld
import Derived.Below
import Derived.Deep.Slices
import Derived.Deep.Fields
namespace Go.Proofs.Ybulkpyo.lawS0820CState
open Go.ChangeShapes Go.WideShapes Go.ChangeAt Go.RowKit
set_option linter.unusedVariables false

theorem own : ownKnob Yba.prog.godebug = none := by kernel_rfl
theorem laidOut : laidOutB Yba.prog = true := by kernel_rfl

/-- What is known of a slice of bytes that came in. -/
def IsU8 (w : World) (a : Option Addr) (len : Nat) : Prop :=
  ∃ (b o : Nat) (z : Nat → Int), (len = 0 ∨ a = some ⟨b, o, none⟩) ∧ (0 < len → b < w.heap.size) ∧ (∀ i, i < len → w.cell? ⟨b, o + i, none⟩ = some (.int .u8 (z i))) ∧ ∀ i, 0 ≤ z i ∧ z i ≤ 255
/-- .. of a slice of instructions. -/
def IsIns (w : World) (a : Option Addr) (len : Nat) : Prop :=
  ∃ (b o : Nat) (P Q A L : Nat → Int), (len = 0 ∨ a = some ⟨b, o, none⟩) ∧ (0 < len → b < w.heap.size) ∧
    (∀ i, i < len → w.cell? ⟨b, o + i * 4, none⟩ = some (.int .u8 (P i)) ∧ w.cell? ⟨b, o + i * 4 + 1, none⟩ = some (.int .u8 (Q i)) ∧ w.cell? ⟨b, o + i * 4 + 2, none⟩ = some (.int .u8 (A i)) ∧ w.cell? ⟨b, o + i * 4 + 3, none⟩ = some (.int .i64 (L i))) ∧
    (∀ i, 0 ≤ P i ∧ P i ≤ 255) ∧ (∀ i, 0 ≤ Q i ∧ Q i ≤ 255) ∧ (∀ i, 0 ≤ A i ∧ A i ≤ 255) ∧ ∀ i, -9223372036854775808 ≤ L i ∧ L i ≤ 9223372036854775807

theorem z8 : (0 : Int) ≤ 0 ∧ (0 : Int) ≤ 255 := by decide
theorem z64 : (-9223372036854775808 : Int) ≤ 0 ∧ (0 : Int) ≤ 9223372036854775807 := by decide

theorem spot_none {w : World} {x : Addr} {u : Value} (h : w.cell? (x.add 0) = some u) : x = ⟨x.block, x.off, none⟩ := by
  obtain ⟨b, off, spot⟩ := x
  have hs : spot = none := by simpa [Addr.add] using World.cell?_spot h
  subst hs
  rfl

theorem add_plain (b o i : Nat) : (⟨b, o, none⟩ : Addr).add i = ⟨b, o + i, none⟩ := by unfold Addr.add; split <;> simp_all

theorem isU8_of {w : World} {a : Addr} {len cap : Nat} {zs : List Int} (hl : len ≤ cap) (hz : zs.length = cap) (hc : ∀ i, i < zs.length → w.cell? (a.add i) = some (.int .u8 (zs.getD i 0))) (hw : ∀ n ∈ zs, (Lit.int .u8 n).wf = true) : IsU8 w (some a) len := by
  have bz : ∀ i, 0 ≤ zs.getD i 0 ∧ zs.getD i 0 ≤ 255 := by
    intro i
    rcases Nat.lt_or_ge i zs.length with h | h
    · have := bounds_u8 (hw (zs.getD i 0) (by simp [List.getD, h]))
      exact this
    · simp [List.getD, List.getElem?_eq_none h]
  rcases Nat.eq_zero_or_pos len with h0 | h0
  · exact ⟨0, 0, fun i => zs.getD i 0, .inl h0, fun h => by omega, fun i hi => by omega, bz⟩
  · have hx := spot_none (hc 0 (by omega))
    have hc' : ∀ i, i < len → w.cell? ⟨a.block, a.off + i, none⟩ = some (.int .u8 (zs.getD i 0)) := fun i hi => by
      have := hc i (by omega)
      rw [hx, add_plain] at this
      exact this
    have hb : a.block < w.heap.size := World.block_lt_of_cell? w ⟨a.block, a.off + 0, none⟩ (hc' 0 h0)
    exact ⟨a.block, a.off, fun i => zs.getD i 0, .inr (by rw [← hx]), fun _ => hb, hc', bz⟩

set_option maxRecDepth 100000 in
/-- One instruction's four cells. -/
theorem ins_cells {H : Type} {enc : TypeId × Value → H} {w : World} {base : Nat} {spare : Nat → Bool} {held : Bool} {n : Nat} {a : Addr} {cs : List Value} {x : DataW H × List MemPlace}
    (hc : w.cells? base a (Yba.prog.cellsOf 57) = some cs) (h : DataW.trod enc Yba.prog w base spare held n 57 cs = some x) :
    ∃ p q r l : Int, (w.cell? (a.add 0) = some (.int .u8 p) ∧ w.cell? (a.add 1) = some (.int .u8 q) ∧ w.cell? (a.add 2) = some (.int .u8 r) ∧ w.cell? (a.add 3) = some (.int .i64 l)) ∧
      (0 ≤ p ∧ p ≤ 255) ∧ (0 ≤ q ∧ q ≤ 255) ∧ (0 ≤ r ∧ r ≤ 255) ∧ -9223372036854775808 ≤ l ∧ l ≤ 9223372036854775807 := by
  have c57 : Yba.prog.cellsOf 57 = 4 := by kernel_rfl
  have c5 : Yba.prog.cellsOf 5 = 1 := by kernel_rfl
  have c3 : Yba.prog.cellsOf 3 = 1 := by kernel_rfl
  obtain ⟨_, hlen, hcell⟩ := World.cells?_some hc
  rw [c57] at hlen hcell
  obtain ⟨xs, m, _, rfl, _, hxl, hf⟩ := DataW.trod_struct Yba.underlying57 h
  match cs, hlen with
  | [u0, u1, u2, u3], _ =>
    match xs, hxl with
    | [y0, y1, y2, y3], _ =>
      have g0 : DataW.trod enc Yba.prog w base spare held m 5 (([u0, u1, u2, u3].drop 0).take (Yba.prog.cellsOf 5)) = some y0 := hf 0 _ rfl
      have g1 : DataW.trod enc Yba.prog w base spare held m 5 (([u0, u1, u2, u3].drop 1).take (Yba.prog.cellsOf 5)) = some y1 := hf 1 _ rfl
      have g2 : DataW.trod enc Yba.prog w base spare held m 5 (([u0, u1, u2, u3].drop 2).take (Yba.prog.cellsOf 5)) = some y2 := hf 2 _ rfl
      have g3 : DataW.trod enc Yba.prog w base spare held m 3 (([u0, u1, u2, u3].drop 3).take (Yba.prog.cellsOf 3)) = some y3 := hf 3 _ rfl
      rw [c5] at g0 g1 g2
      rw [c3] at g3
      obtain ⟨p, hp, _, wp⟩ := DataW.trod_int Yba.underlying5 g0
      obtain ⟨q, hq, _, wq⟩ := DataW.trod_int Yba.underlying5 g1
      obtain ⟨r, hr, _, wr⟩ := DataW.trod_int Yba.underlying5 g2
      obtain ⟨l, hl, _, wl⟩ := DataW.trod_int Yba.underlying3 g3
      simp at hp hq hr hl
      subst hp hq hr hl
      exact ⟨p, q, r, l, ⟨hcell 0 (by decide), hcell 1 (by decide), hcell 2 (by decide), hcell 3 (by decide)⟩, bounds_u8 wp, bounds_u8 wq, bounds_u8 wr, bounds_i64 wl⟩

theorem isIns_of {H : Type} {enc : TypeId × Value → H} {w : World} {base : Nat} {spare : Nat → Bool} {held : Bool} {fuel : Nat} {a : Option Addr} {len cap : Nat} {x : DataW H × List MemPlace}
    (h : DataW.trod enc Yba.prog w base spare held fuel 43 [.slice a len cap] = some x) : IsIns w a len ∧ len ≤ maxLen := by
  rcases Deep.open_slice Yba.underlying43 h with ⟨hcs, _⟩ | ⟨x, l, c, m, n, D, Pl, hcs, _, hl, hm, hmm, _, hel⟩
  · simp at hcs
    obtain ⟨rfl, rfl, rfl⟩ := hcs
    exact ⟨⟨0, 0, fun _ => 0, fun _ => 0, fun _ => 0, fun _ => 0, .inl rfl, fun h => by omega, fun i hi => by omega, fun i => z8, fun i => z8, fun i => z8, fun i => z64⟩, Nat.zero_le _⟩
  · simp at hcs
    obtain ⟨rfl, rfl, rfl⟩ := hcs
    refine ⟨?_, by omega⟩
    have c57 : Yba.prog.cellsOf 57 = 4 := by kernel_rfl
    have hlm : len ≤ m := by rw [hmm]; split <;> omega
    have hall : ∀ i, ∃ u : Int × Int × Int × Int, (i < len → (w.cell? ((x.add (i * 4)).add 0) = some (.int .u8 u.1) ∧ w.cell? ((x.add (i * 4)).add 1) = some (.int .u8 u.2.1) ∧ w.cell? ((x.add (i * 4)).add 2) = some (.int .u8 u.2.2.1) ∧ w.cell? ((x.add (i * 4)).add 3) = some (.int .i64 u.2.2.2))) ∧
      (0 ≤ u.1 ∧ u.1 ≤ 255) ∧ (0 ≤ u.2.1 ∧ u.2.1 ≤ 255) ∧ (0 ≤ u.2.2.1 ∧ u.2.2.1 ≤ 255) ∧ -9223372036854775808 ≤ u.2.2.2 ∧ u.2.2.2 ≤ 9223372036854775807 := by
      intro i
      by_cases hi : i < len
      · obtain ⟨cs', h1, h2⟩ := hel i (by omega)
        obtain ⟨p, q, r, l, hcc, b1, b2, b3, b4⟩ := ins_cells h1 h2
        rw [c57] at hcc
        exact ⟨(p, q, r, l), fun _ => hcc, b1, b2, b3, b4⟩
      · exact ⟨(0, 0, 0, 0), fun h => absurd h hi, by decide, by decide, by decide, by decide⟩
    rcases Nat.eq_zero_or_pos len with h0 | h0
    · exact ⟨0, 0, fun _ => 0, fun _ => 0, fun _ => 0, fun _ => 0, .inl h0, fun h => by omega, fun i hi => by omega, fun i => z8, fun i => z8, fun i => z8, fun i => z64⟩
    · have hx : x = ⟨x.block, x.off, none⟩ := by
        obtain ⟨u, hu, _⟩ := hall 0
        have := (hu h0).1
        rw [Deep.add_add] at this
        exact spot_none this
      obtain ⟨F, hF⟩ := Classical.axiomOfChoice hall
      have hb : x.block < w.heap.size := by
        have := ((hF 0).1 h0).1
        rw [hx, add_plain, add_plain] at this
        exact World.block_lt_of_cell? w ⟨x.block, x.off + 0 * 4 + 0, none⟩ this
      refine ⟨x.block, x.off, fun i => (F i).1, fun i => (F i).2.1, fun i => (F i).2.2.1, fun i => (F i).2.2.2, .inr (by rw [← hx]), fun _ => hb, fun i hi => ?_, fun i => (hF i).2.1, fun i => (hF i).2.2.1, fun i => (hF i).2.2.2.1, fun i => (hF i).2.2.2.2⟩
      have := (hF i).1 hi
      rw [hx] at this
      simpa only [add_plain, Nat.add_zero] using this

/-- The instructions that the law makes of what came in. -/
def insOf (n : Nat) (P Q A L : Nat → Int) : Ins where
  n := n
  K := fun i => if i < n then (P i % 7).toNat else 0
  O := fun i => if i < n then i + 1 + (Q i % ((n : Int) - i)).toNat else n
  a := fun i => (A i % 5).toNat
  L := fun i => if i < n then L i else 0

theorem insOf_ok {n : Nat} (hn : n ≤ 256) (P Q A L : Nat → Int) : (insOf n P Q A L).Ok := by
  refine ⟨hn, fun i hi => ?_, ?_, fun i hi => ?_, ?_, fun i => ?_⟩
  · show (if i < n then (P i % 7).toNat else 0) < 7
    have := Int.emod_lt_of_pos (P i) (b := 7) (by decide)
    split <;> omega
  · show (if n < n then (P n % 7).toNat else 0) = 0
    rw [if_neg (Nat.lt_irrefl n)]
  · have hi' : i < n := hi
    show i < (if i < n then i + 1 + (Q i % ((n : Int) - i)).toNat else n) ∧ (if i < n then i + 1 + (Q i % ((n : Int) - i)).toNat else n) ≤ n
    rw [if_pos hi']
    have h1 := Int.emod_nonneg (Q i) (b := (n : Int) - i) (by omega)
    have h2 := Int.emod_lt_of_pos (Q i) (b := (n : Int) - i) (by omega)
    omega
  · show (if n < n then n + 1 + (Q n % ((n : Int) - n)).toNat else n) = n
    rw [if_neg (Nat.lt_irrefl n)]
  · show (A i % 5).toNat < 5
    have := Int.emod_lt_of_pos (A i) (b := 5) (by decide)
    omega

theorem given_of {w : World} {a : Option Addr} {n b o : Nat} {P Q A L : Nat → Int} (h1 : n = 0 ∨ a = some ⟨b, o, none⟩) (h2 : 0 < n → b < w.heap.size)
    (h3 : ∀ i, i < n → w.cell? ⟨b, o + i * 4, none⟩ = some (.int .u8 (P i)) ∧ w.cell? ⟨b, o + i * 4 + 1, none⟩ = some (.int .u8 (Q i)) ∧ w.cell? ⟨b, o + i * 4 + 2, none⟩ = some (.int .u8 (A i)) ∧ w.cell? ⟨b, o + i * 4 + 3, none⟩ = some (.int .i64 (L i)))
    (b1 : ∀ i, 0 ≤ P i ∧ P i ≤ 255) (b2 : ∀ i, 0 ≤ Q i ∧ Q i ≤ 255) (b3 : ∀ i, 0 ≤ A i ∧ A i ≤ 255) (b4 : ∀ i, -9223372036854775808 ≤ L i ∧ L i ≤ 9223372036854775807) : Given w a b o P Q A (insOf n P Q A L) := by
  refine ⟨h1, h2, fun i hi => (h3 i hi).1, fun i hi => (h3 i hi).2.1, fun i hi => (h3 i hi).2.2.1, fun i hi => ?_, b1, b2, b3, fun i => ?_, fun i hi => ?_, fun i hi => ?_, fun i => ?_, ?_⟩
  · show w.cell? ⟨b, o + i * 4 + 3, none⟩ = some (.int .i64 (if i < n then L i else 0))
    rw [if_pos (show i < n from hi)]
    exact (h3 i hi).2.2.2
  · show -9223372036854775808 ≤ (if i < n then L i else 0) ∧ (if i < n then L i else 0) ≤ 9223372036854775807
    have := b4 i
    split
    · exact this
    · decide
  · show P i % 7 = ((if i < n then (P i % 7).toNat else 0 : Nat) : Int)
    rw [if_pos (show i < n from hi)]
    have := Int.emod_nonneg (P i) (b := 7) (by decide)
    omega
  · have hi' : i < n := hi
    show (i : Int) + 1 + Q i % ((n : Int) - i) = ((if i < n then i + 1 + (Q i % ((n : Int) - i)).toNat else n : Nat) : Int)
    rw [if_pos hi']
    have := Int.emod_nonneg (Q i) (b := (n : Int) - i) (by omega)
    omega
  · show A i % 5 = ((A i % 5).toNat : Int)
    have := Int.emod_nonneg (A i) (b := 5) (by decide)
    omega
  · show (if n < n then L n else 0) = 0
    rw [if_neg (Nat.lt_irrefl n)]

set_option maxHeartbeats 400000 in
set_option maxRecDepth 100000 in
theorem walk (a0 a1 : Option Addr) (len0 cap0 len1 cap1 : Nat) (w : World) (w0 : IsIns w a0 len0) (m0 : len0 ≤ maxLen) (w1 : IsU8 w a1 len1) (m1 : len1 ≤ maxLen) :
    Calls Yba.prog 4 #[.slice a0 len0 cap0, .slice a1 len1 cap1] w fun e w' => e = .returned (.bool true) ∧ Below w.heap.size w w' := by
  by_cases hl : len0 ≤ 256 ∧ len1 ≤ 1024
  · obtain ⟨b0, o0, P, Q, A, L, h1, h2, h3, h4, h5, h6, h7⟩ := w0
    obtain ⟨b1, o1, X, k1, k2, k3, k4⟩ := w1
    exact lawC_any a0 a1 cap0 len1 cap1 b0 o0 b1 o1 P Q A (insOf len0 P Q A L) (insOf_ok hl.1 P Q A L) X w hl.2 (given_of h1 h2 h3 h4 h5 h6 h7) k1 k2 k3 k4
  · clear w0 w1
    unfold maxLen at m0 m1
    by_cases h0 : len0 ≤ 256
    · have h1 : 1024 < len1 := by omega
      clear hl
      have hd1 : decide ((256 : Int) < len0) = false := by simp; omega
      have hd2 : decide ((1024 : Int) < len1) = true := by simp; omega
      go_enter Yba.func4, Yba.ntmps4
      go_wp2
      go_ret
      exact ⟨rfl, Below.refl _ _⟩
    · have h1 : 256 < len0 := by omega
      clear hl h0
      have hd1 : decide ((256 : Int) < len0) = true := by simp; omega
      go_enter Yba.func4, Yba.ntmps4
      go_wp2
      go_ret
      exact ⟨rfl, Below.refl _ _⟩

/-! ### THE ROW's STEP -/
set_option maxRecDepth 100000 in
theorem lifted (os : Os) (started : os.Started) (H : Type) (enc : TypeId × Value → H) :
    ReturnsInHanded {} Yba.checked os 4 .any (Rows.lawS0820CStateSpec.pre6 enc Yba.prog Yba.f4 Rows.lawS0820CStateRow.domain false) (Rows.lawS0820CStateSpec.post enc Yba.prog Yba.f4 false true false false) := by
  refine returnsInHanded_of_change (C := Yba.checked) own started (by kernel_rfl) Yba.func4
    (ChangeSpec.witness6 (enc := enc) (C := Yba.checked) false ⟨#[], #[.slice none 0 0, .slice none 0 0], []⟩ 8 (by kernel_rfl) (by kernel_rfl) (by kernel_rfl) (by kernel_rfl)) ?_
  intro W base args ds gs before hval0 hW hcnd _
  have hval : ∀ (j : Nat) t v, Yba.f4.params[j]? = some t → args[j]? = some v → Value.okWide Yba.prog W .any base t v := hval0
  have hW' := hW
  obtain ⟨p, q, hA0, hV, rfl, hfz, hnd⟩ := hW
  have hA : DataW.TrodAll enc Yba.prog W 0 (fun _ => true) true Yba.f4.params.toList args.toList ds p := hA0
  rw [Yba.params4] at hA hval
  obtain ⟨v0, vs0, d0, ds0, p0, q0, hargs, rfl, rfl, h0, r0⟩ := trodAll_cons hA
  obtain ⟨v1, vs1, d1, ds1, p1, q1, rfl, rfl, rfl, h1, r1⟩ := trodAll_cons r0
  obtain ⟨rfl, rfl, rfl⟩ := trodAll_nil r1
  obtain rfl : args = #[v0, v1] := by cases args; simp_all
  obtain ⟨rfl, rfl⟩ := trodVars_none hV
  obtain ⟨a0, len0, cap0, rfl⟩ := okWide_slice Yba.underlying43 (hval 0 43 v0 rfl rfl)
  obtain ⟨a1, len1, cap1, rfl⟩ := okWide_slice Yba.underlying44 (hval 1 44 v1 rfl rfl)
  have k0 := h0
  have k1 := h1
  have lt0 : ∀ x ∈ p0, x.block < W.heap.size := by obtain ⟨m, hm⟩ := k0; exact DataW.trod_lt m _ _ _ hm
  have lt1 : ∀ x ∈ p1, x.block < W.heap.size := by obtain ⟨m, hm⟩ := k1; exact DataW.trod_lt m _ _ _ hm
  have w0 : IsIns W a0 len0 ∧ len0 ≤ maxLen := by
    obtain ⟨fuel, hf⟩ := h0
    exact isIns_of hf
  have w1 : IsU8 W a1 len1 ∧ len1 ≤ maxLen := by
    obtain ⟨fuel, hf⟩ := h1
    rcases open_ints Yba.underlying44 Yba.underlying5 (by kernel_rfl) hf with ⟨hcs, _⟩ | ⟨x, l, c, zs, hcs, _, hl, hm, hz, _, hcell, hwz⟩
    · simp [Value.cells] at hcs
      obtain ⟨rfl, rfl, rfl⟩ := hcs
      exact ⟨⟨0, 0, fun _ => 0, .inl rfl, fun h => by omega, fun i hi => by omega, fun i => z8⟩, Nat.zero_le _⟩
    · simp [Value.cells] at hcs
      obtain ⟨rfl, rfl, rfl⟩ := hcs
      exact ⟨isU8_of hl (by simpa using hz) hcell hwz, by omega⟩
  clear hA0 hval0
  refine (walk a0 a1 len0 cap0 len1 cap1 W w0.1 w0.2 w1.1 w1.2).mono fun e W' ⟨he, bel⟩ => ?_
  subst he
  exact ⟨_, rfl, _, _, _, [], _, [], hW', trodAll_mk1 (shut_bool Yba.underlying4 _), (trodAll_cons_mk (Below.trod laidOut (by kernel_rfl) (of_decide_eq_true (by kernel_rfl)) k0 bel lt0) (trodAll_cons_mk (Below.trod laidOut (by kernel_rfl) (of_decide_eq_true (by kernel_rfl)) k1 bel lt1) trodAll_mk0)), rfl, bel.frame _, fun h => by cases h⟩

theorem over : Rows.lawS0820CStateRow.holds Yba.pinned (OpenSpec.ofChange Rows.lawS0820CStateSpec) :=
  OpenClaim.holds_of_wide 4 Yba.f4 rfl rfl rfl rfl rfl rfl rfl ⟨rfl, rfl, rfl, rfl, rfl⟩ rfl rfl rfl rfl rfl (by kernel_rfl) Yba.func4 (by kernel_rfl)
    (of_decide_eq_true (by kernel_rfl)) (by unfold Func.isWrapper; first | (rw [if_pos (by decide +kernel)]; kernel_rfl) | (rw [if_neg (by decide +kernel)]; exact ⟨rfl, rfl⟩))
    (fun os started H enc _ => lifted os started H enc)

/-- THE STATEMENT -/
theorem proved : Rows.LawS0820CStateSaid := over
end Go.Proofs.Ybulkpyo.lawS0820CState
