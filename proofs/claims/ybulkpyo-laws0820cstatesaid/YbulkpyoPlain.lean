/- The plain functions of LawS0820CState: no Go in sight. -/
import Derived.Below
namespace Go.Proofs.Ybulkpyo
set_option linter.unusedVariables false

/-- The program's instructions as the law lays them out: n of them, and the match at the end. -/
structure Ins where
  n : Nat
  K : Nat → Nat
  O : Nat → Nat
  a : Nat → Nat
  L : Nat → Int

/-- The code of an instruction of kind k. -/
def opc : Nat → Int
  | 0 => 4 | 1 => 3 | 2 => 8 | 3 => 6 | 4 => 2 | 5 => 0 | _ => 5
def argc : Nat → Int
  | 0 => 8 | 1 => 4 | 2 => 12 | 3 => 10 | _ => 0
def endc : Nat → Bool
  | 0 => true | 4 => true | _ => false

structure Ins.Ok (I : Ins) : Prop where
  hn : I.n ≤ 256
  hK : ∀ i, i ≤ I.n → I.K i < 7
  hKn : I.K I.n = 0
  hO : ∀ i, i < I.n → i < I.O i ∧ I.O i ≤ I.n
  hOn : I.O I.n = I.n
  ha : ∀ i, I.a i < 5

/-- Does a thread at j reach the end, in fewer than f steps? -/
def ends (I : Ins) : Nat → Nat → Bool
  | 0, _ => false
  | f + 1, j => match I.K j with
    | 0 => true
    | 1 => endc (I.a j) && ends I f (I.O j)
    | 3 => ends I f (I.O j)
    | 4 => ends I f (I.O j)
    | _ => false

theorem ends_stable (I : Ins) (ok : I.Ok) : ∀ (f g j : Nat), j ≤ I.n → I.n + 1 - j ≤ f → I.n + 1 - j ≤ g → ends I f j = ends I g j := by
  intro f
  induction f with
  | zero => intro g j hj hf; omega
  | succ f ih =>
    intro g j hj hf hg
    obtain ⟨g', rfl⟩ : ∃ g', g = g' + 1 := ⟨g - 1, by omega⟩
    have step : I.K j ≠ 0 → ends I f (I.O j) = ends I g' (I.O j) := by
      intro hk
      have hjn : j < I.n := by
        rcases Nat.lt_or_ge j I.n with h | h
        · exact h
        · obtain rfl : j = I.n := by omega
          exact absurd ok.hKn hk
      have := ok.hO j hjn
      exact ih g' (I.O j) this.2 (by omega) (by omega)
    unfold ends
    split
    · rfl
    · rw [step (by omega)]
    · rw [step (by omega)]
    · rw [step (by omega)]
    · rfl

/-- Does a thread at j reach the end? -/
def endsB (I : Ins) (j : Nat) : Bool := ends I (I.n + 1) j

theorem endsB_eq (I : Ins) (ok : I.Ok) {j : Nat} (hj : j ≤ I.n) : endsB I j = match I.K j with
    | 0 => true
    | 1 => endc (I.a j) && endsB I (I.O j)
    | 3 => endsB I (I.O j)
    | 4 => endsB I (I.O j)
    | _ => false := by
  have step : I.K j ≠ 0 → ends I I.n (I.O j) = endsB I (I.O j) := by
    intro hk
    have hjn : j < I.n := by
      rcases Nat.lt_or_ge j I.n with h | h
      · exact h
      · obtain rfl : j = I.n := by omega
        exact absurd ok.hKn hk
    have := ok.hO j hjn
    exact ends_stable I ok _ _ _ this.2 (by omega) (by omega)
  show ends I (I.n + 1) j = _
  unfold ends
  split
  · rfl
  · rw [step (by omega)]
  · rw [step (by omega)]
  · rw [step (by omega)]
  · rfl

theorem endsB_0 (I : Ins) (ok : I.Ok) {j : Nat} (hj : j ≤ I.n) (hk : I.K j = 0) : endsB I j = true := by rw [endsB_eq I ok hj]; simp [hk]
theorem endsB_1 (I : Ins) (ok : I.Ok) {j : Nat} (hj : j ≤ I.n) (hk : I.K j = 1) : endsB I j = (endc (I.a j) && endsB I (I.O j)) := by rw [endsB_eq I ok hj]; simp [hk]
theorem endsB_go (I : Ins) (ok : I.Ok) {j : Nat} (hj : j ≤ I.n) (hk : I.K j = 3 ∨ I.K j = 4) : endsB I j = endsB I (I.O j) := by
  rw [endsB_eq I ok hj]; rcases hk with hk | hk <;> simp [hk]
theorem endsB_no (I : Ins) (ok : I.Ok) {j : Nat} (hj : j ≤ I.n) (hk : I.K j = 2 ∨ I.K j = 5 ∨ I.K j = 6) : endsB I j = false := by
  rw [endsB_eq I ok hj]; rcases hk with hk | hk | hk <;> simp [hk]
theorem ends_0 (I : Ins) {f j : Nat} (hk : I.K j = 0) : ends I (f + 1) j = true := by simp [ends, hk]
theorem ends_1 (I : Ins) {f j : Nat} (hk : I.K j = 1) : ends I (f + 1) j = (endc (I.a j) && ends I f (I.O j)) := by simp [ends, hk]
theorem ends_go (I : Ins) {f j : Nat} (hk : I.K j = 3 ∨ I.K j = 4) : ends I (f + 1) j = ends I f (I.O j) := by rcases hk with hk | hk <;> simp [ends, hk]
theorem ends_no (I : Ins) {f j : Nat} (hk : I.K j = 2 ∨ I.K j = 5 ∨ I.K j = 6) : ends I (f + 1) j = false := by rcases hk with hk | hk | hk <;> simp [ends, hk]

theorem ends_more (I : Ins) (ok : I.Ok) {j : Nat} (hj : j ≤ I.n) : ends I (I.n + 2) j = endsB I j := ends_stable I ok _ _ _ hj (by omega) (by omega)

theorem lt_of_kind (I : Ins) (ok : I.Ok) {j : Nat} (hj : j ≤ I.n) (hk : I.K j ≠ 0) : j < I.n := by
  rcases Nat.lt_or_ge j I.n with h | h
  · exact h
  · obtain rfl : j = I.n := by omega
    exact absurd ok.hKn hk

/-- Does a path match that ends with a thread at j? -/
def mt (I : Ins) (j : Nat) : Bool := I.K j == 0 || (I.K j == 1 && endsB I (I.O j))
def ld (I : Ins) (j : Nat) : Bool := I.K j != 0 && I.K j != 1

/-- The three answers over the first k waits. -/
def mtTo (I : Ins) (W : Nat → Nat) : Nat → Bool
  | 0 => false
  | k + 1 => mtTo I W k || mt I (W k)
def ldTo (I : Ins) (W : Nat → Nat) : Nat → Bool
  | 0 => false
  | k + 1 => ldTo I W k || ld I (W k)
def need (I : Ins) (W : Nat → Nat) : Nat → Int
  | 0 => 9223372036854775807
  | k + 1 => if I.L (W k) < need I W k then I.L (W k) else need I W k

theorem mtTo_hit {I : Ins} {W : Nat → Nat} : ∀ {k m : Nat}, k < m → mt I (W k) = true → mtTo I W m = true := by
  intro k m hk h
  induction m with
  | zero => omega
  | succ m ih =>
    unfold mtTo
    by_cases e : k = m
    · subst e; rw [h]; simp
    · rw [ih (by omega)]; rfl
theorem mtTo_none {I : Ins} {W : Nat → Nat} {m : Nat} (h : ∀ k, k < m → mt I (W k) = false) : mtTo I W m = false := by
  induction m with
  | zero => rfl
  | succ m ih => unfold mtTo; rw [ih (fun k hk => h k (by omega)), h m (by omega)]; rfl
end Go.Proofs.Ybulkpyo
