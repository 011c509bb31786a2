/- slices.DeleteFunc: the walk. -/
import Derived.Test.YbulkptsDel2
namespace Go.Proofs.Ybulkpts
open Go.RowKit
set_option linter.unusedVariables false

theorem Row2.isSome {w : World} {g cap n : Nat} {D : Nat → Lock} (h : Row2 w g cap n D) {o : Nat} (ho : o < cap * 2) : (w.cell? ⟨g, o, none⟩).isSome = true := by
  obtain ⟨cur, hb, hs, _, _⟩ := h
  simp [World.cell?, hb, show o < cur.size by omega]

theorem fnOf_lt {ls : List Lock} {t : Nat} (h : t < ls.length) : fnOf ls t = ls[t] := by simp [fnOf, h]

theorem kept_snoc_keep {ls : List Lock} {j : Nat} (hj : j < ls.length) (h : (fnOf ls j).2 ≠ 1) :
    (ls.take (j + 1)).filter keepB = (ls.take j).filter keepB ++ [fnOf ls j] := by
  rw [List.take_succ_eq_append_getElem hj, List.filter_append, fnOf_lt hj]
  rw [fnOf_lt hj] at h
  simp [keepB, h]

theorem kept_snoc_drop {ls : List Lock} {j : Nat} (hj : j < ls.length) (h : (fnOf ls j).2 = 1) :
    (ls.take (j + 1)).filter keepB = (ls.take j).filter keepB := by
  rw [List.take_succ_eq_append_getElem hj, List.filter_append]
  rw [fnOf_lt hj] at h
  simp [keepB, h]

theorem kept_all {ls : List Lock} {j : Nat} (hj : j ≤ ls.length) (h : ∀ t, t < j → (fnOf ls t).2 ≠ 1) : (ls.take j).filter keepB = ls.take j := by
  rw [List.filter_eq_self]
  intro e he
  obtain ⟨t, ht, rfl⟩ := List.getElem_of_mem he
  have ht' : t < j := by simp at ht; omega
  have := h t ht'
  rw [fnOf_lt (by omega)] at this
  simpa [keepB] using this

/-- The state of the loop: j read, i kept. -/
def DelAt (w : World) (g cap : Nat) (ls : List Lock) (i j : Nat) (wr : World) : Prop :=
  ∃ D' : Nat → Lock, j ≤ ls.length ∧ i < j ∧ i = ((ls.take j).filter keepB).length ∧ (∀ t, t < i → D' t = fnOf ((ls.take j).filter keepB) t) ∧ (∀ t, j ≤ t → t < ls.length → D' t = fnOf ls t) ∧ Row2 wr g cap ls.length D' ∧ w.grownBy wr (some g)

theorem DelAt.start {w w1 : World} {g cap k0 : Nat} {ls : List Lock} (hr : Row2 w g cap ls.length (fnOf ls)) (hk0 : k0 < ls.length) (hk1 : (fnOf ls k0).2 = 1) (hk2 : ∀ t, t < k0 → (fnOf ls t).2 ≠ 1) (hg : w.grownBy w1 none) : DelAt w g cap ls k0 (k0 + 1) w1 := by
  have e : (ls.take (k0 + 1)).filter keepB = ls.take k0 := by rw [kept_snoc_drop hk0 hk1, kept_all (by omega) hk2]
  refine ⟨fnOf ls, by omega, by omega, by rw [e]; simp; omega, fun t ht => ?_, fun _ _ _ => rfl, hr.kept (hg.block g hr.lt (by simp)), ⟨hg.os, hg.tape, hg.output, hg.size, fun i hi _ => hg.block i hi (by simp)⟩⟩
  rw [e]
  simp [fnOf, ht]

theorem DelAt.keep {w wr : World} {g cap i j : Nat} {ls : List Lock} (h : DelAt w g cap ls i j wr) (hlt : j < ls.length) (hq : (fnOf ls j).2 ≠ 1) (a b : Obj) :
    DelAt w g cap ls (i + 1) (j + 1) ((((wr.setCell ⟨g, i * 2, none⟩ (.string (fnOf ls j).1)).setCell ⟨g, i * 2 + 1, none⟩ (.int .u8 (fnOf ls j).2)).alloc a).alloc b) := by
  obtain ⟨D', hj, hij, hi, hlo, hhi, hr, hg⟩ := h
  have e := kept_snoc_keep hlt hq
  refine ⟨fun t => if t = i then fnOf ls j else D' t, by omega, by omega, by rw [e]; simp; omega, fun t ht => ?_, fun t h1 h2 => ?_, ((hr.put (by omega) _ _).alloc _).alloc _, ((hg.trans (grown_put _ _ _ _ _ _)).trans (World.grownBy_alloc _ _ _)).trans (World.grownBy_alloc _ _ _)⟩
  · rw [e]
    by_cases et : t = i
    · subst et
      simp [fnOf, hi]
    · have : t < ((ls.take j).filter keepB).length := by omega
      show (if t = i then _ else _) = _
      rw [if_neg et, hlo t (by omega)]
      simp [fnOf, List.getElem?_append_left this]
  · show (if t = i then _ else _) = _
    rw [if_neg (by omega)]
    exact hhi t (by omega) h2

theorem DelAt.drop {w wr : World} {g cap i j : Nat} {ls : List Lock} (h : DelAt w g cap ls i j wr) (hlt : j < ls.length) (hq : (fnOf ls j).2 = 1) (a b : Obj) :
    DelAt w g cap ls i (j + 1) ((wr.alloc a).alloc b) := by
  obtain ⟨D', hj, hij, hi, hlo, hhi, hr, hg⟩ := h
  have e := kept_snoc_drop hlt hq
  refine ⟨D', by omega, by omega, by rw [e]; exact hi, fun t ht => ?_, fun t h1 h2 => hhi t (by omega) h2, (hr.alloc _).alloc _, (hg.trans (World.grownBy_alloc _ _ _)).trans (World.grownBy_alloc _ _ _)⟩
  rw [e]; exact hlo t ht

theorem DelAt.done {w wr : World} {g cap i j : Nat} {ls : List Lock} (h : DelAt w g cap ls i j wr) (hj : j = ls.length) (vs : List Value) :
    i = (ls.filter keepB).length ∧ Row2 (wr.setCells g (i * 2) vs) g cap (ls.filter keepB).length (fnOf (ls.filter keepB)) ∧ w.grownBy (wr.setCells g (i * 2) vs) (some g) := by
  obtain ⟨D', _, hij, hi, hlo, hhi, hr, hg⟩ := h
  subst hj
  rw [List.take_length] at hi hlo
  refine ⟨hi, ?_, hg.trans (grown_setCells _ _ _ _)⟩
  refine ((hr.fewer (n' := (ls.filter keepB).length) (by omega)).setCells vs (i * 2) (by omega)).congr ?_
  intro t ht
  exact hlo t (by omega)

set_option maxHeartbeats 1000000 in
theorem delete_some (g cap : Nat) (ls : List Lock) (w : World) (k0 : Nat) (hn : ls.length ≤ 300) (hcap : cap ≤ maxLen) (hr : Row2 w g cap ls.length (fnOf ls)) (hk0 : k0 < ls.length) (hk1 : (fnOf ls k0).2 = 1) (hk2 : ∀ t, t < k0 → (fnOf ls t).2 ≠ 1) 
    (hix : Calls Yba.prog 13 #[.slice (some ⟨g, 0, none⟩) ls.length cap, .func (.func 10) #[] #[]] w fun e w' => e = .returned (.int .i64 k0) ∧ w.grownBy w' none) :
    Calls Yba.prog 9 #[.slice (some ⟨g, 0, none⟩) ls.length cap, .func (.func 10) #[] #[]] w fun e w' => e = .returned (.slice (some ⟨g, 0, none⟩) (ls.filter keepB).length cap) ∧
      Row2 w' g cap (ls.filter keepB).length (fnOf (ls.filter keepB)) ∧ w.grownBy w' (some g) := by
  have HR : Hid (Row2 w g cap ls.length (fnOf ls) ∧ (fnOf ls k0).2 = 1 ∧ ∀ t, t < k0 → (fnOf ls t).2 ≠ 1) := ⟨hr, hk1, hk2⟩
  have hcl : ls.length ≤ cap := by obtain ⟨_, _, _, h, _⟩ := hr; exact h
  clear hr hk1 hk2
  unfold maxLen at hcap
  have hne1 : ((k0 : Int) == -1) = false := beq_eq_false_iff_ne.2 (by omega)
  go_enter Yba.func9, Yba.ntmps9
  go_wp2_with (go_at_call 13; refine hix.mono ?_; rintro e w1 ⟨rfl, hg1⟩)
  have HG : Hid (w.grownBy w1 none) := hg1
  clear hg1 hix
  go_loopw [5, 6, 7] (fun s5 s6 _ wr => ∃ (i j : Nat), s5 = .int .i64 i ∧ s6 = .int .i64 j ∧ DelAt w g cap ls i j wr) (fun _ s6 _ _ => ls.length - (intOf s6).toNat)
  case atStart => exact ⟨k0, k0 + 1, rfl, by go_num, DelAt.start HR.out.1 hk0 HR.out.2.1 HR.out.2.2 HG.out⟩
  case round =>
    obtain ⟨i, j, rfl, rfl, hst⟩ := hrel
    have hst2 := hst
    obtain ⟨D', hj, hij, -, -, hhi, hrw, -⟩ := hst2
    have hgl := hrw.lt
    have HST : Hid (DelAt w g cap ls i j wr) := hst
    clear hst
    by_cases hlt : j < ls.length
    · have c0 := hrw.cell0 hlt
      have c1 := hrw.cell1 hlt
      rw [hhi j (Nat.le_refl _) hlt] at c0 c1
      have d0 := hrw.cell0 (show i < ls.length by omega)
      have d1 := hrw.cell1 (show i < ls.length by omega)
      have f0 := hrw.free (i * 2)
      have f1 := hrw.free (i * 2 + 1)
      clear hhi hrw
      cases hq : ((fnOf ls j).2 == 1)
      · have H2 : Hid ((fnOf ls j).2 ≠ 1) := (by simpa using hq : (fnOf ls j).2 ≠ 1)
        go_wp2_with (go_at_call 10; refine (shared_any _ _ _).mono ?_; rintro e w' ⟨rfl, rfl⟩)
        go_roundw
        case rel => exact ⟨i + 1, j + 1, by go_num, by go_num, DelAt.keep HST.out hlt H2.out _ _⟩
        case measure => simp [intOf]; omega
      · have H2 : Hid ((fnOf ls j).2 = 1) := (by simpa using hq : (fnOf ls j).2 = 1)
        go_wp2_with (go_at_call 10; refine (shared_any _ _ _).mono ?_; rintro e w' ⟨rfl, rfl⟩)
        go_roundw
        case rel => exact ⟨i, j + 1, rfl, by go_num, DelAt.drop HST.out hlt H2.out _ _⟩
        case measure => simp [intOf]; omega
    · have hjl : j = ls.length := by omega
      obtain ⟨vs, hcl2⟩ := run_clear_locks wr 0 g (i * 2) (ls.length - i) (cap - i) (by omega) (fun o ho => hrw.isSome (by omega)) hrw.free
      have HJ : Hid (j = ls.length) := hjl
      clear hhi hrw hjl
      go_wp2
      go_ret
      obtain ⟨e, r1, r2⟩ := DelAt.done HST.out HJ.out vs
      exact ⟨by rw [← e]; rfl, r1, r2⟩

set_option maxHeartbeats 400000 in
theorem delete_none (v : Value) (w : World) (hix : Calls Yba.prog 13 #[v, .func (.func 10) #[] #[]] w fun e w' => e = .returned (.int .i64 (-1)) ∧ w.grownBy w' none) :
    Calls Yba.prog 9 #[v, .func (.func 10) #[] #[]] w fun e w' => e = .returned v ∧ w.grownBy w' none := by
  go_enter Yba.func9, Yba.ntmps9
  go_wp2_with (go_at_call 13; refine hix.mono ?_; rintro e w1 ⟨rfl, hg1⟩)
  go_ret
  exact ⟨rfl, hg1⟩

/-- The cells of a row of locks. -/
def flat (ls : List Lock) : List Value := ls.flatMap fun e => [.string e.1, .int .u8 e.2]

theorem flat_length : ∀ ls : List Lock, (flat ls).length = ls.length * 2
  | [] => rfl
  | e :: r => by simp [flat] at *; have := flat_length r; simp [flat] at this; omega

theorem flat_get : ∀ (ls : List Lock) (t : Nat), t < ls.length → (flat ls)[t * 2]? = some (.string (fnOf ls t).1) ∧ (flat ls)[t * 2 + 1]? = some (.int .u8 (fnOf ls t).2)
  | [], _, h => absurd h (Nat.not_lt_zero _)
  | e :: r, 0, _ => by simp [flat, fnOf]
  | e :: r, t + 1, h => by
    have := flat_get r t (by simpa using h)
    have e1 : flat (e :: r) = .string e.1 :: .int .u8 e.2 :: flat r := rfl
    rw [e1, show (t + 1) * 2 = t * 2 + 1 + 1 by omega]
    simpa [fnOf] using this

theorem row2_of_owns {w : World} {base g cap n : Nat} {ls : List Lock} (hn : ls.length = n) (h : w.ownsRow base 37 2 (.slice (some ⟨g, 0, none⟩) n cap) n (flat ls)) : base ≤ g ∧ cap ≤ maxLen ∧ Row2 w g cap ls.length (fnOf ls) := by
  subst hn
  rcases h.2 with ⟨h', _⟩ | ⟨g', cap', cur, h', hb, hg, hnc, hcm, hcs, htake⟩
  · cases h'
  · cases h'
    refine ⟨hb, hcm, cur, hg, hcs, hnc, fun t ht => ?_⟩
    obtain ⟨a, b⟩ := flat_get ls t ht
    rw [← htake, List.getElem?_take_of_lt (by omega)] at a b
    exact ⟨by simpa using a, by simpa using b⟩

theorem owns_of_row2 {w : World} {base g cap : Nat} {ls : List Lock} (hb : base ≤ g) (hcm : cap ≤ maxLen) (h : Row2 w g cap ls.length (fnOf ls)) : w.ownsRow base 37 2 (.slice (some ⟨g, 0, none⟩) ls.length cap) ls.length (flat ls) := by
  obtain ⟨cur, hg, hcs, hnc, hD⟩ := h
  refine ⟨flat_length ls, .inr ⟨g, cap, cur, rfl, hb, hg, hnc, hcm, hcs, ?_⟩⟩
  apply List.ext_getElem?
  intro o
  by_cases ho : o < ls.length * 2
  · rw [List.getElem?_take_of_lt ho]
    have ht : o / 2 < ls.length := by omega
    obtain ⟨a, b⟩ := flat_get ls (o / 2) ht
    obtain ⟨c, d⟩ := hD (o / 2) ht
    rcases (show o = o / 2 * 2 ∨ o = o / 2 * 2 + 1 by omega) with e | e
    · rw [e, a, ← c]; simp
    · rw [e, b, ← d]; simp
  · rw [List.getElem?_eq_none (by simp; omega), List.getElem?_eq_none (by rw [flat_length]; omega)]

/-- slices.DeleteFunc(locks, shared): the locks that are not shared, in the same row. -/
theorem delete_any (base : Nat) (v : Value) (ls : List Lock) (w : World) (hn : ls.length ≤ 300) (hown : w.ownsRow base 37 2 v ls.length (flat ls)) :
    Calls Yba.prog 9 #[v, .func (.func 10) #[] #[]] w fun e w' => ∃ v', e = .returned v' ∧ w'.ownsRow base 37 2 v' (ls.filter keepB).length (flat (ls.filter keepB)) ∧ w.grownBy w' v.ownBlock ∧ v'.ownBlock = v.ownBlock ∧ (v' = v ∨ ∃ g m c, v' = .slice (some ⟨g, 0, none⟩) m c) := by
  rcases hown.2 with ⟨rfl, h0⟩ | ⟨g, cap, cur, rfl, hb, hg, hnc, hcm, hcs, htake⟩
  · have e : ls = [] := List.length_eq_zero_iff.1 h0
    subst e
    refine (delete_none _ w ((index_nil w).mono fun e w' ⟨h1, h2⟩ => ⟨h1, by rw [h2]; exact World.grownBy.refl _ _⟩)).mono fun e w' ⟨h1, h2⟩ => ?_
    exact ⟨_, h1, World.ownsRow_nil _ _ _ _, h2, rfl, .inl rfl⟩
  · obtain ⟨_, _, hr⟩ := row2_of_owns rfl hown
    by_cases hall : ∀ t, t < ls.length → (fnOf ls t).2 ≠ 1
    · have hkeep : ls.filter keepB = ls := by have := kept_all (Nat.le_refl _) hall; rwa [List.take_length] at this
      rw [hkeep]
      refine (delete_none _ w ((index_any g cap _ _ w hn hr).mono ?_)).mono fun e w' ⟨h1, h2⟩ => ⟨_, h1, hown.kept h2 (.inr (by simp [Value.ownBlock])), ⟨h2.os, h2.tape, h2.output, h2.size, fun i hi _ => h2.block i hi (by simp)⟩, rfl, .inl rfl⟩
      rintro e w' ⟨r, he, ⟨h, _⟩ | ⟨k, h, hk, h1, _⟩, hg⟩
      · exact ⟨by rw [he, h], hg⟩
      · exact absurd h1 (hall k hk)
    · obtain ⟨k0, hk0, hk1, hk2⟩ : ∃ k0, k0 < ls.length ∧ (fnOf ls k0).2 = 1 ∧ ∀ t, t < k0 → (fnOf ls t).2 ≠ 1 := by
        have : ∀ m, m ≤ ls.length → (∀ t, t < m → (fnOf ls t).2 ≠ 1) ∨ ∃ k0, k0 < ls.length ∧ (fnOf ls k0).2 = 1 ∧ ∀ t, t < k0 → (fnOf ls t).2 ≠ 1 := by
          intro m
          induction m with
          | zero => intro _; exact .inl fun t ht => absurd ht (Nat.not_lt_zero _)
          | succ m ih =>
            intro hm
            rcases ih (by omega) with h | h
            · by_cases e : (fnOf ls m).2 = 1
              · exact .inr ⟨m, by omega, e, h⟩
              · refine .inl fun t ht => ?_
                by_cases et : t = m
                · subst et; exact e
                · exact h t (by omega)
            · exact .inr h
        rcases this ls.length (Nat.le_refl _) with h | h
        · exact absurd h hall
        · exact h
      refine (delete_some g cap ls w k0 hn hcm hr hk0 hk1 hk2 ((index_any g cap _ _ w hn hr).mono ?_)).mono fun e w' ⟨h1, h2, h3⟩ => ⟨_, h1, owns_of_row2 hb hcm h2, h3, rfl, .inr ⟨_, _, _, rfl⟩⟩
      rintro e w' ⟨r, he, ⟨h, hno⟩ | ⟨k, h, hk, h1, hl⟩, hg⟩
      · exact absurd hk1 (hno k0 hk0)
      · refine ⟨?_, hg⟩
        rw [he, h]
        rcases Nat.lt_trichotomy k k0 with h' | h' | h'
        · exact absurd h1 (hk2 k h')
        · rw [h']
        · exact absurd hk1 (hl k0 h')
end Go.Proofs.Ybulkpts
