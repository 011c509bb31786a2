/- What the map 'held' reads as: plain laws on a map's views. No walk. -/
import Derived.Test.YbulkptsKey
import Derived.Maps.OwnSet
import Derived.Sort.KeysCollected
namespace Go.Proofs.Ybulkpts
open Go.RowKit Go.Maps
set_option linter.unusedVariables false

/-- A lock: its key's number, its mode. -/
abbrev Lk := Nat × Int

def K (i : Nat) : Lit := .string (kb i)

theorem K_inj {i j : Nat} (hi : i < 676) (hj : j < 676) (h : K i = K j) : i = j := kb_inj hi hj (by simpa [K] using h)
theorem K_ne {i j : Nat} (hi : i < 676) (hj : j < 676) (h : i ≠ j) : K i ≠ K j := fun e => h (K_inj hi hj e)
theorem K_key (i : Nat) : WideAt.IsKeyLit (K i) := trivial

/-- Keys ascend; none too great; not too many. -/
def Good (ls : List Lk) : Prop := ls.Pairwise (fun a b => a.1 < b.1) ∧ (∀ e ∈ ls, e.1 < 676) ∧ ls.length ≤ 300

theorem Good.at {ls : List Lk} (h : Good ls) {j : Nat} {e : Lk} (he : ls[j]? = some e) : e.1 < 676 := h.2.1 e (List.mem_of_getElem? he)

theorem Good.same {ls : List Lk} (h : Good ls) {j j' : Nat} {e e' : Lk} (he : ls[j]? = some e) (he' : ls[j']? = some e') (hk : e.1 = e'.1) : j = j' := by
  obtain ⟨h1, rfl⟩ := List.getElem?_eq_some_iff.1 he
  obtain ⟨h2, rfl⟩ := List.getElem?_eq_some_iff.1 he'
  have hp := List.pairwise_iff_getElem.1 h.1
  rcases Nat.lt_trichotomy j j' with a | a | a
  · have := hp j j' h1 h2 a; omega
  · exact a
  · have := hp j' j h2 h1 a; omega

theorem Good.filter {ls : List Lk} (h : Good ls) (p : Lk → Bool) : Good (ls.filter p) :=
  ⟨h.1.filter p, fun e he => h.2.1 e (List.mem_filter.1 he).1, Nat.le_trans (List.length_filter_le _ _) h.2.2⟩

/-- THE MAP AS READ, of the locks ls and the marks h: at the key of each lock that is held its place. -/
def Held {H : Type} (D : DataW H) (ls : List Lk) (h : Nat → Bool) : Prop :=
  (∀ kl, has D kl = true ↔ ∃ (j : Nat) (e : Lk), ls[j]? = some e ∧ h e.1 = true ∧ kl = K e.1) ∧
  (∀ (j : Nat) (e : Lk), ls[j]? = some e → h e.1 = true → ∀ z, D.atKey (K e.1) z = .lit (.int .i64 j)) ∧
  size D = (ls.filter fun e => h e.1).length

theorem Held.start {H : Type} (h : Nat → Bool) : Held (.map [] : DataW H) [] h := by
  refine ⟨fun kl => ?_, fun j e he => by simp at he, rfl⟩
  simp [has]

theorem Held.hasK {H : Type} {D : DataW H} {ls : List Lk} {h : Nat → Bool} (hd : Held D ls h) (g : Good ls) {j : Nat} {e : Lk} (he : ls[j]? = some e) : has D (K e.1) = h e.1 := by
  cases hq : h e.1
  · cases hh : has D (K e.1)
    · rfl
    · obtain ⟨j', e', h1, h2, h3⟩ := (hd.1 _).1 hh
      have := K_inj (g.at he) (g.at h1) h3
      rw [← this, hq] at h2
      cases h2
  · exact (hd.1 _).2 ⟨j, e, he, hq, rfl⟩

/-- One lock more, held. -/
theorem Held.push {H : Type} {D : DataW H} {ls : List Lk} {h : Nat → Bool} (hd : Held D ls h) (ht : Tidy D) (k : Nat) (m : Int) (hk : k < 676) (hlen : ls.length = k) (hlt : ∀ e ∈ ls, e.1 < k) (hh : h k = true) :
    Held (D.put (K k) (.lit (.int .i64 k))) (ls ++ [(k, m)]) h := by
  have hnot : has D (K k) = false := by
    cases hq : has D (K k)
    · rfl
    · obtain ⟨j', e', h1, h2, h3⟩ := (hd.1 _).1 hq
      have a := hlt e' (List.mem_of_getElem? h1)
      have := K_inj hk (by omega) h3
      omega
  refine ⟨fun kl => ?_, fun j e he hhe z => ?_, ?_⟩
  · by_cases e : kl = K k
    · subst e
      rw [has_put_same ht.isMap (K_key k)]
      refine ⟨fun _ => ⟨ls.length, (k, m), by simp, hh, rfl⟩, fun _ => rfl⟩
    · rw [has_put_other e, hd.1 kl]
      constructor
      · rintro ⟨j, e', h1, h2, h3⟩
        have := (List.getElem?_eq_some_iff.1 h1).1
        exact ⟨j, e', by rw [List.getElem?_append_left this]; exact h1, h2, h3⟩
      · rintro ⟨j, e', h1, h2, h3⟩
        by_cases hj : j < ls.length
        · rw [List.getElem?_append_left hj] at h1
          exact ⟨j, e', h1, h2, h3⟩
        · rw [List.getElem?_append_right (by omega)] at h1
          rcases Nat.lt_or_ge (j - ls.length) 1 with hz | hz
          · rw [show j - ls.length = 0 by omega] at h1
            simp at h1
            subst h1
            exact absurd h3 e
          · rw [List.getElem?_eq_none (by simpa using hz)] at h1
            cases h1
  · by_cases hj : j < ls.length
    · rw [List.getElem?_append_left hj] at he
      have a := hlt e (List.mem_of_getElem? he)
      rw [atKey_put_other (K_ne (by omega) hk (by omega))]
      exact hd.2.1 j e he hhe z
    · rw [List.getElem?_append_right (by omega)] at he
      rcases Nat.lt_or_ge (j - ls.length) 1 with hz | hz
      · rw [show j - ls.length = 0 by omega] at he
        simp at he
        subst he
        rw [atKey_put_same ht.isMap (K_key _), show j = k by omega]
      · rw [List.getElem?_eq_none (by simpa using hz)] at he
        cases he
  · rw [size_put ht, hnot, hd.2.2]
    simp [List.filter_append, hh]

/-- One lock more, not held. -/
theorem Held.skip {H : Type} {D : DataW H} {ls : List Lk} {h : Nat → Bool} (hd : Held D ls h) (k : Nat) (m : Int) (hh : h k = false) :
    Held D (ls ++ [(k, m)]) h := by
  refine ⟨fun kl => ?_, fun j e he hhe z => ?_, by rw [hd.2.2]; simp [List.filter_append, hh]⟩
  · rw [hd.1 kl]
    constructor
    · rintro ⟨j, e', h1, h2, h3⟩
      have := (List.getElem?_eq_some_iff.1 h1).1
      exact ⟨j, e', by rw [List.getElem?_append_left this]; exact h1, h2, h3⟩
    · rintro ⟨j, e', h1, h2, h3⟩
      by_cases hj : j < ls.length
      · rw [List.getElem?_append_left hj] at h1
        exact ⟨j, e', h1, h2, h3⟩
      · rw [List.getElem?_append_right (by omega)] at h1
        rcases Nat.lt_or_ge (j - ls.length) 1 with hz | hz
        · rw [show j - ls.length = 0 by omega] at h1
          simp at h1
          subst h1
          rw [hh] at h2; cases h2
        · rw [List.getElem?_eq_none (by simpa using hz)] at h1
          cases h1
  · by_cases hj : j < ls.length
    · rw [List.getElem?_append_left hj] at he
      exact hd.2.1 j e he hhe z
    · rw [List.getElem?_append_right (by omega)] at he
      rcases Nat.lt_or_ge (j - ls.length) 1 with hz | hz
      · rw [show j - ls.length = 0 by omega] at he
        simp at he
        subst he
        rw [hh] at hhe; cases hhe
      · rw [List.getElem?_eq_none (by simpa using hz)] at he
        cases he

/-! ### The first loop: the shared keys are struck, in whatever order -/

/-- Is kl the key of a lock in shared mode? -/
def shB (ls : List Lk) (kl : Lit) : Bool := ls.any fun e => e.2 == 1 && kl.sameKey (K e.1)

/-- What holds when the keys outside 'left' have been met: D0 the map at the start, D as it stands, ss what was collected. -/
def Struck {H : Type} (D0 : DataW H) (ls : List Lk) (left : Lit → Bool) (D : DataW H) (ss : List (List UInt8)) : Prop :=
  (∀ kl, has D kl = (has D0 kl && (left kl || !shB ls kl))) ∧ (∀ kl, has D kl = true → ∀ z, D.atKey kl z = D0.atKey kl z) ∧ size D + ss.length = size D0 ∧
  ss.Nodup ∧ ∀ x, x ∈ ss ↔ (has D0 (.string x) = true ∧ shB ls (.string x) = true ∧ left (.string x) = false)

theorem Struck.start {H : Type} (D0 : DataW H) (ls : List Lk) : Struck D0 ls (has D0) D0 [] := by
  refine ⟨fun kl => ?_, fun _ _ _ => rfl, rfl, List.nodup_nil, fun x => ?_⟩
  · cases has D0 kl <;> simp
  · cases has D0 (.string x) <;> simp

theorem Struck.stays {H : Type} {D0 D : DataW H} {ls : List Lk} {left : Lit → Bool} {ss : List (List UInt8)} (h : Struck D0 ls left D ss) {x : List UInt8} (hn : shB ls (.string x) = false) :
    Struck D0 ls (fun z => left z && !z.sameKey (.string x)) D ss := by
  have key : ∀ kl : Lit, kl.sameKey (.string x) = true → kl = .string x := by
    intro kl hk
    cases kl <;> simp [Lit.sameKey] at hk ⊢
    exact hk
  refine ⟨fun kl => ?_, h.2.1, h.2.2.1, h.2.2.2.1, fun y => ?_⟩
  · rw [h.1 kl]
    show _ = (has D0 kl && (left kl && !kl.sameKey (.string x) || !shB ls kl))
    cases hs : kl.sameKey (.string x)
    · simp
    · rw [key kl hs, hn]; simp
  · rw [h.2.2.2.2 y]
    constructor
    · rintro ⟨a, b, c⟩; exact ⟨a, b, by simp [c]⟩
    · rintro ⟨a, b, c⟩
      refine ⟨a, b, ?_⟩
      simp at c
      cases hl : left (.string y)
      · rfl
      · have := key _ (c hl)
        rw [this, hn] at b; cases b

theorem Struck.struck {H : Type} {D0 D : DataW H} {ls : List Lk} {left : Lit → Bool} {ss : List (List UInt8)} (h : Struck D0 ls left D ss) (ht : Tidy D) {x : List UInt8} (hx : has D (.string x) = true) (hl : left (.string x) = true) (hs : shB ls (.string x) = true) :
    Struck D0 ls (fun z => left z && !z.sameKey (.string x)) (D.del (.string x)) (ss ++ [x]) := by
  have key : ∀ kl : Lit, kl.sameKey (.string x) = true → kl = .string x := by
    intro kl hk
    cases kl <;> simp [Lit.sameKey] at hk ⊢
    exact hk
  have self : (Lit.string x).sameKey (.string x) = true := by simp [Lit.sameKey]
  have hx0 : has D0 (.string x) = true := by rw [h.1] at hx; simp at hx; exact hx.1
  have hnx : x ∉ ss := fun hm => by have := ((h.2.2.2.2 x).1 hm).2.2; rw [hl] at this; cases this
  refine ⟨fun kl => ?_, fun kl hk z => ?_, ?_, ?_, fun y => ?_⟩
  · by_cases e : kl = .string x
    · subst e
      rw [has_del_same]
      show false = (has D0 (.string x) && (left (.string x) && !(Lit.string x).sameKey (.string x) || !shB ls (.string x)))
      rw [self, hs]; simp
    · rw [has_del_other e, h.1 kl]
      have : kl.sameKey (.string x) = false := by
        cases hq : kl.sameKey (.string x)
        · rfl
        · exact absurd (key kl hq) e
      show _ = (has D0 kl && (left kl && !kl.sameKey (.string x) || !shB ls kl))
      rw [this]; simp
  · by_cases e : kl = .string x
    · subst e; rw [has_del_same] at hk; cases hk
    · rw [has_del_other e] at hk
      rw [atKey_del_other e]
      exact h.2.1 kl hk z
  · have := size_del (k := .string x) ht
    rw [hx] at this
    have h3 := h.2.2.1
    simp at this ⊢
    omega
  · rw [List.nodup_append]
    refine ⟨h.2.2.2.1, by simp, ?_⟩
    intro a ha b hb
    simp at hb
    subst hb
    intro e; subst e; exact hnx ha
  · rw [List.mem_append, h.2.2.2.2 y]
    by_cases e : y = x
    · subst e
      simp [hx0, hs, self]
    · have : (Lit.string y).sameKey (.string x) = false := by
        cases hq : (Lit.string y).sameKey (.string x)
        · rfl
        · have := key _ hq; simp at this; exact absurd this e
      simp [e, this]

theorem sameKey_K {kl : Lit} {i : Nat} : kl.sameKey (K i) = true ↔ kl = K i := by
  unfold K
  cases kl <;> simp [Lit.sameKey]

theorem shB_iff {ls : List Lk} {kl : Lit} : shB ls kl = true ↔ ∃ e, e ∈ ls ∧ e.2 = 1 ∧ kl = K e.1 := by
  unfold shB
  rw [List.any_eq_true]
  constructor
  · rintro ⟨e, he, h⟩
    simp only [Bool.and_eq_true, beq_iff_eq] at h
    exact ⟨e, he, h.1, sameKey_K.1 h.2⟩
  · rintro ⟨e, he, h1, h2⟩
    exact ⟨e, he, by simp only [Bool.and_eq_true, beq_iff_eq]; exact ⟨h1, sameKey_K.2 h2⟩⟩

/-- A lock's key is a shared one just if its own mode is. -/
theorem shB_at {ls : List Lk} (g : Good ls) {j : Nat} {e : Lk} (he : ls[j]? = some e) : shB ls (K e.1) = (e.2 == 1) := by
  rw [Bool.eq_iff_iff, shB_iff, beq_iff_eq]
  constructor
  · rintro ⟨e', h1, h2, h3⟩
    obtain ⟨j', hj', rfl⟩ := List.getElem_of_mem h1
    have h1' : ls[j']? = some ls[j'] := List.getElem?_eq_getElem hj'
    have hk := K_inj (g.at he) (g.at h1') h3
    have := g.same he h1' hk
    subst this
    rw [h1'] at he
    cases he
    exact h2
  · intro h; exact ⟨e, List.mem_of_getElem? he, h, rfl⟩

def isSh (e : Lk) : Bool := e.2 == 1
def notSh (e : Lk) : Bool := e.2 != 1
/-- What releaseShared hands back. -/
def want (ls : List Lk) (h : Nat → Bool) : List (List UInt8) := (ls.filter fun e => isSh e && h e.1).map fun e => kb e.1

theorem want_sorted {ls : List Lk} (g : Good ls) (h : Nat → Bool) : (want ls h).Pairwise (fun a b => a < b) := by
  unfold want
  rw [List.pairwise_map]
  refine List.Pairwise.imp_of_mem ?_ (g.1.filter _)
  intro a b ha hb hab
  exact kb_lt (g.2.1 b (List.mem_filter.1 hb).1) hab

theorem want_nodup {ls : List Lk} (g : Good ls) (h : Nat → Bool) : (want ls h).Nodup := by
  refine (want_sorted g h).imp ?_
  intro a b hab e
  subst e
  exact List.lt_irrefl _ hab

theorem mem_want {ls : List Lk} {h : Nat → Bool} {x : List UInt8} : x ∈ want ls h ↔ ∃ e, e ∈ ls ∧ e.2 = 1 ∧ h e.1 = true ∧ kb e.1 = x := by
  unfold want isSh
  simp only [List.mem_map, List.mem_filter, Bool.and_eq_true, beq_iff_eq]
  constructor
  · rintro ⟨e, ⟨h1, h2, h3⟩, h4⟩; exact ⟨e, h1, h2, h3, h4⟩
  · rintro ⟨e, h1, h2, h3, h4⟩; exact ⟨e, ⟨h1, h2, h3⟩, h4⟩

theorem Struck.perm {H : Type} {D0 D : DataW H} {ls : List Lk} {h : Nat → Bool} {left : Lit → Bool} {ss : List (List UInt8)} (hs : Struck D0 ls left D ss) (hd : Held D0 ls h) (g : Good ls) (hl : ∀ kl, left kl = false) : ss.Perm (want ls h) := by
  refine (List.perm_ext_iff_of_nodup hs.2.2.2.1 (want_nodup g h)).2 fun x => ?_
  rw [hs.2.2.2.2 x, mem_want]
  constructor
  · rintro ⟨h1, h2, _⟩
    obtain ⟨j, e, he, hh, hk⟩ := (hd.1 _).1 h1
    rw [hk, shB_at g he, beq_iff_eq] at h2
    exact ⟨e, List.mem_of_getElem? he, h2, hh, by simpa [K] using hk.symm⟩
  · rintro ⟨e, he, h1, h2, h3⟩
    obtain ⟨j, hj, rfl⟩ := List.getElem_of_mem he
    have he' : ls[j]? = some ls[j] := List.getElem?_eq_getElem hj
    subst h3
    refine ⟨(hd.1 _).2 ⟨j, _, he', h2, rfl⟩, ?_, hl _⟩
    show shB ls (K ls[j].1) = true
    rw [shB_at g he', h1]; rfl

theorem Struck.sorted {H : Type} {D0 D : DataW H} {ls : List Lk} {h : Nat → Bool} {left : Lit → Bool} {ss : List (List UInt8)} (hs : Struck D0 ls left D ss) (hd : Held D0 ls h) (g : Good ls) (hl : ∀ kl, left kl = false) : ss.mergeSort (fun x y => decide (x ≤ y)) = want ls h := by
  have := mergeSort_of_perm (hs.perm hd g hl)
  show ss.mergeSort leB = _
  rw [this]
  refine List.mergeSort_of_pairwise ((want_sorted g h).imp ?_)
  intro a b hab
  simp only [leB, decide_eq_true_eq]
  exact List.le_of_lt hab

/-- The map behind the first loop, in the words of the locks that are kept. -/
def Kept {H : Type} (D : DataW H) (ls' : List Lk) (h : Nat → Bool) (k : Nat) : Prop :=
  (∀ kl, has D kl = true ↔ ∃ (j : Nat) (e : Lk), ls'[j]? = some e ∧ h e.1 = true ∧ kl = K e.1) ∧
  (∀ (j : Nat) (e : Lk), j < k → ls'[j]? = some e → h e.1 = true → ∀ z, D.atKey (K e.1) z = .lit (.int .i64 j)) ∧
  size D = (ls'.filter fun e => h e.1).length

theorem count_parts (p q : Lk → Bool) : ∀ ls : List Lk, (ls.filter q).length = (ls.filter fun e => p e && q e).length + ((ls.filter fun e => !p e).filter q).length
  | [] => rfl
  | e :: r => by
    have := count_parts p q r
    rw [List.filter_filter] at this ⊢
    simp only [List.filter_cons]
    cases hp : p e <;> cases hq : q e <;> simp <;> omega

theorem Struck.done {H : Type} {D0 D : DataW H} {ls : List Lk} {h : Nat → Bool} {left : Lit → Bool} {ss : List (List UInt8)} (hs : Struck D0 ls left D ss) (hd : Held D0 ls h) (g : Good ls) (hl : ∀ kl, left kl = false) : Kept D (ls.filter notSh) h 0 := by
  refine ⟨fun kl => ?_, fun j e hj => absurd hj (Nat.not_lt_zero _), ?_⟩
  · rw [hs.1 kl, hl kl]
    simp only [Bool.false_or, Bool.and_eq_true, Bool.not_eq_true']
    rw [hd.1 kl]
    constructor
    · rintro ⟨⟨j, e, he, hh, rfl⟩, hn⟩
      rw [shB_at g he] at hn
      have hm : e ∈ ls.filter notSh := List.mem_filter.2 ⟨List.mem_of_getElem? he, by simp at hn; simp [notSh, hn]⟩
      obtain ⟨j', hj', hje⟩ := List.getElem_of_mem hm
      exact ⟨j', e, by rw [List.getElem?_eq_getElem hj', hje], hh, rfl⟩
    · rintro ⟨j, e, he, hh, rfl⟩
      obtain ⟨hm, hn⟩ := List.mem_filter.1 (List.mem_of_getElem? he)
      obtain ⟨j', hj', hje⟩ := List.getElem_of_mem hm
      have he' : ls[j']? = some e := by rw [List.getElem?_eq_getElem hj', hje]
      refine ⟨⟨j', e, he', hh, rfl⟩, ?_⟩
      rw [shB_at g he']
      simpa [notSh] using hn
  · have h1 := hs.2.2.1
    rw [hd.2.2, (hs.perm hd g hl).length_eq, count_parts isSh] at h1
    unfold want at h1
    rw [List.length_map] at h1
    have e : (fun e : Lk => !isSh e) = notSh := by funext e; simp [isSh, notSh, bne]
    rw [e] at h1
    omega

theorem Kept.hasK {H : Type} {D : DataW H} {ls : List Lk} {h : Nat → Bool} {k : Nat} (hd : Kept D ls h k) (g : Good ls) {j : Nat} {e : Lk} (he : ls[j]? = some e) : has D (K e.1) = h e.1 := by
  cases hq : h e.1
  · cases hh : has D (K e.1)
    · rfl
    · obtain ⟨j', e', h1, h2, h3⟩ := (hd.1 _).1 hh
      have := K_inj (g.at he) (g.at h1) h3
      rw [← this, hq] at h2
      cases h2
  · exact (hd.1 _).2 ⟨j, e, he, hq, rfl⟩

theorem Kept.pass {H : Type} {D : DataW H} {ls : List Lk} {h : Nat → Bool} {k : Nat} {e : Lk} (hd : Kept D ls h k) (he : ls[k]? = some e) (hh : h e.1 = false) : Kept D ls h (k + 1) := by
  refine ⟨hd.1, fun j e' hj he' hh' z => ?_, hd.2.2⟩
  by_cases e1 : j = k
  · subst e1; rw [he] at he'; cases he'; rw [hh] at hh'; cases hh'
  · exact hd.2.1 j e' (by omega) he' hh' z

theorem Kept.move {H : Type} {D : DataW H} {ls : List Lk} {h : Nat → Bool} {k : Nat} {e : Lk} (hd : Kept D ls h k) (g : Good ls) (ht : Tidy D) (he : ls[k]? = some e) (hh : h e.1 = true) : Kept (D.put (K e.1) (.lit (.int .i64 k))) ls h (k + 1) := by
  have hhas : has D (K e.1) = true := (hd.1 _).2 ⟨k, e, he, hh, rfl⟩
  refine ⟨fun kl => ?_, fun j e' hj he' hh' z => ?_, by rw [size_put ht, hhas]; exact hd.2.2⟩
  · by_cases e1 : kl = K e.1
    · subst e1
      exact ⟨fun _ => (hd.1 _).1 hhas, fun _ => has_put_same ht.isMap (K_key _) _⟩
    · rw [has_put_other e1]; exact hd.1 kl
  · by_cases e1 : j = k
    · subst e1
      rw [he] at he'
      cases he'
      rw [atKey_put_same ht.isMap (K_key _)]
    · rw [atKey_put_other (fun e2 => e1 (g.same he' he (K_inj (g.at he') (g.at he) e2)))]
      exact hd.2.1 j e' (by omega) he' hh' z

theorem Kept.held {H : Type} {D : DataW H} {ls : List Lk} {h : Nat → Bool} {k : Nat} (hd : Kept D ls h k) (hk : ls.length ≤ k) : Held D ls h :=
  ⟨hd.1, fun j e he hh z => hd.2.1 j e (by have := (List.getElem?_eq_some_iff.1 he).1; omega) he hh z, hd.2.2⟩

end Go.Proofs.Ybulkpts
