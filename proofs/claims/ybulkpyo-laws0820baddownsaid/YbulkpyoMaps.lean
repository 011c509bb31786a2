/- The maps of LawS0820BAddOwn: keyed by strings, of whatever elements. -/
import Derived.Test.YbulkpyoRows
import Derived.Maps.OwnSet
import Derived.WalkKit
import Derived.Laws.StructEq
import Derived.StringKeys
import Derived.WalkSpells
namespace Go.Proofs.Ybulkpyo.AddOwn
open Go.RowKit Go.Maps
set_option linter.unusedVariables false

/-- An element reads as itself. -/
def rdr (v : Value) : Option (DataW Value × List MemPlace) := some (.held v, [])

theorem law9 : Keyed Yba.prog 9 := string_keyed Yba.underlying9

/-- The map in block b, as a function of the key's bytes. -/
def MapIs (w : World) (b n : Nat) (F : List UInt8 → Option Value) : Prop :=
  ∃ D : DataW Value, w.ownsMap Yba.prog 9 rdr b n D ∧ ∀ s : List UInt8, Maps.has D (.string s) = (F s).isSome ∧ ∀ z, D.atKey (.string s) (.held z) = .held ((F s).getD z)

def upd (F : List UInt8 → Option Value) (s : List UInt8) (v : Value) : List UInt8 → Option Value := fun s' => if s' = s then some v else F s'

theorem MapIs.made (w : World) : MapIs (w.alloc (.map #[] 0)) w.heap.size 0 (fun _ => none) :=
  ⟨.map [], World.ownsMap_made w Yba.prog 9 rdr, fun s => ⟨rfl, fun z => rfl⟩⟩

theorem MapIs.kept {w w' : World} {b n : Nat} {F : List UInt8 → Option Value} (h : MapIs w b n F) (he : w'.heap[b]? = w.heap[b]?) : MapIs w' b n F := by
  obtain ⟨D, ⟨es, clock, hb, r⟩, hF⟩ := h
  exact ⟨D, ⟨es, clock, he.trans hb, r⟩, hF⟩

theorem MapIs.lt {w : World} {b n : Nat} {F : List UInt8 → Option Value} (h : MapIs w b n F) : b < w.heap.size := by
  obtain ⟨D, h, _⟩ := h
  exact h.lt

theorem MapIs.no_cells {w : World} {b n : Nat} {F : List UInt8 → Option Value} (h : MapIs w b n F) {c : Array Value} {t : TypeId} {f : Nat × Nat} : w.heap[b]? ≠ some (.cells c t f) := by
  obtain ⟨D, ⟨es, clock, hb, r⟩, hF⟩ := h
  rw [hb]; simp

theorem MapIs.look {w : World} {b n : Nat} {F : List UInt8 → Option Value} (h : MapIs w b n F) {t e : TypeId} (ht : Yba.prog.underlying t = some (.map 9 e)) {z : Value} (hz : (zeroValue e).run Yba.prog w = .ok z w) {s : ByteArray} (hs : s.size ≤ maxLen) :
    (Instr.lookup t (.map (some b)) (.string s) false).run Yba.prog w = .ok ((F s.data.toList).getD z) w := by
  obtain ⟨D, hown, hF⟩ := h
  obtain ⟨v, ps, hrun, hv⟩ := hown.lookup law9 ht hz (zd := .held z) (zp := []) rfl (WideMaps.keyOf_string_mk Yba.underlying9 hs)
  rw [(hF _).2] at hv
  simp [rdr] at hv
  rw [hrun, hv.1]

theorem MapIs.look_ok {w : World} {b n : Nat} {F : List UInt8 → Option Value} (h : MapIs w b n F) {t e : TypeId} (ht : Yba.prog.underlying t = some (.map 9 e)) {z : Value} (hz : (zeroValue e).run Yba.prog w = .ok z w) {s : ByteArray} (hs : s.size ≤ maxLen) :
    (Instr.lookup t (.map (some b)) (.string s) true).run Yba.prog w = .ok (.tuple #[(F s.data.toList).getD z, .bool (F s.data.toList).isSome]) w := by
  obtain ⟨D, hown, hF⟩ := h
  obtain ⟨v, ps, hrun, hv⟩ := hown.look_ok law9 ht hz (zd := .held z) (zp := []) rfl (WideMaps.keyOf_string_mk Yba.underlying9 hs)
  rw [(hF _).2] at hv
  simp [rdr] at hv
  rw [hrun, hv.1, (hF _).1]

theorem MapIs.put {w : World} {b n : Nat} {F : List UInt8 → Option Value} (h : MapIs w b n F) {t e : TypeId} (ht : Yba.prog.underlying t = some (.map 9 e)) (hn : n < maxLen) {s : ByteArray} (hs : s.size ≤ maxLen) (v : Value) :
    ∃ w', (Instr.mapUpdate t (.map (some b)) (.string s) v).run Yba.prog w = .ok () w' ∧ MapIs w' b (n + 1) (upd F s.data.toList v) ∧ w.grownBy w' (some b) := by
  obtain ⟨D, hown, hF⟩ := h
  obtain ⟨w', hrun, hown', hg⟩ := hown.update law9 ht hn (WideMaps.keyOf_string_mk Yba.underlying9 hs) (val := v) (d := .held v) (ps := []) rfl
  refine ⟨w', hrun, ⟨_, hown', fun s' => ?_⟩, hg⟩
  by_cases e : s' = s.data.toList
  · subst e
    have hk : WideAt.IsKeyLit (.string s.data.toList) := by simp [WideAt.IsKeyLit]
    refine ⟨?_, fun z => ?_⟩
    · rw [Maps.has_put_same hown.isMap hk]; simp [upd]
    · rw [Maps.atKey_put_same hown.isMap hk]; simp [upd]
  · have hne : Lit.string s' ≠ Lit.string s.data.toList := fun h => e (by simpa using h)
    refine ⟨?_, fun z => ?_⟩
    · rw [Maps.has_put_other hne]; simp [upd, e, (hF s').1]
    · rw [Maps.atKey_put_other hne]; simp [upd, e, (hF s').2]

theorem look_none {w : World} {t e : TypeId} (c : Bool) (ht : Yba.prog.underlying t = some (.map 9 e)) {z : Value} (hz : (zeroValue e).run Yba.prog w = .ok z w) {s : ByteArray} (hs : s.size ≤ maxLen) :
    (Instr.lookup t (.map none) (.string s) c).run Yba.prog w = .ok (if c then .tuple #[z, .bool false] else z) w := Maps.look_nil c law9 ht hz (WideMaps.keyOf_string_mk Yba.underlying9 hs)

/-- The store, at the operation. -/
theorem wpList_put (w : World) {ops : Array Oper} {rest : List Oper} {o : Oper} {a : Act} {Q : Exit → Act → World → Prop}
    (hg : o.guard = none) (m x v : Operand) (t : TypeId) (hop : o.op = Op.mapUpdate t m x v ∨ o.op = Op.insert t m x v) (e : TypeId) (ht : Yba.prog.underlying t = some (.map 9 e)) (b n : Nat) (F : List UInt8 → Option Value)
    (hm : a.eval m = .map (some b)) (hown : MapIs w b n F) (hn : n < maxLen) (s : ByteArray) (val : Value) (hx : a.eval x = .string s) (hs : s.size ≤ maxLen) (hv : a.eval v = val)
    (hK : ∀ w', MapIs w' b (n + 1) (upd F s.data.toList val) → w.grownBy w' (some b) → wpList Yba.prog ops Q rest (a.put o.dst undef) w') :
    wpList Yba.prog ops Q (o :: rest) a w := by
  refine wpList_plain hg fun K' hK' => ?_
  obtain ⟨w', hrun, r1, r2⟩ := hown.put ht hn hs val
  unfold Oper.wp
  rcases hop with hop | hop
  all_goals
    simp [execOp, hop, hm, hx, hv, hrun, Result.andThen]
    exact hK' _ _ (hK w' r1 r2)

theorem f34 : Yba.prog.fieldsOf 34 = #[⟨"kind", 31, 0, false, "", "example.com/orrery/orrery/value", 0⟩, ⟨"dynamic", 4, 1, false, "", "example.com/orrery/orrery/value", 1⟩, ⟨"namesMark", 25, 2, false, "", "example.com/orrery/orrery/value", 2⟩, ⟨"holdsSensitiveNames", 4, 3, false, "", "example.com/orrery/orrery/value", 3⟩, ⟨"node", 32, 4, false, "", "example.com/orrery/orrery/value", 8⟩] := by
  unfold Program.fieldsOf; rw [Yba.underlying34]
theorem f36 : Yba.prog.fieldsOf 36 = #[⟨"ty", 34, 0, false, "", "example.com/orrery/orrery/value", 0⟩, ⟨"v", 20, 5, false, "", "example.com/orrery/orrery/value", 16⟩, ⟨"mark", 25, 6, false, "", "example.com/orrery/orrery/value", 32⟩] := by
  unfold Program.fieldsOf; rw [Yba.underlying36]
theorem c34 : Yba.prog.cellsOf 34 = 5 := by kernel_rfl
theorem part34 (w : World) (xs : Array Value) (o : Nat) : (part 34 xs o).run Yba.prog w = .ok (.agg (xs.extract o (o + 5))) w := by
  have := c34
  simp [part, isAgg, run_underlying Yba.underlying34]
theorem part1 {t : TypeId} {d : TypeDesc} (ht : Yba.prog.underlying t = some d) (h1 : ∀ fs, d ≠ .struct fs) (h2 : ∀ n e, d ≠ .array n e) (w : World) (xs : Array Value) (o : Nat) (v : Value) (hv : xs[o]? = some v) : (part t xs o).run Yba.prog w = .ok v w := by
  simp [part, isAgg, run_underlying ht, hv]
theorem u31 : Yba.prog.underlying 31 = some (.int .u8) := Yba.underlying31
theorem eqptr (w : World) (d : Nat) : (Op.equalIn (d + 1) 32 (.pointer none) (.pointer none)).run Yba.prog w = .ok true w := by
  simp [Op.equalIn, run_underlying Yba.underlying32]
theorem eqif (w : World) (d : Nat) (s : ByteArray) : (Op.equalIn (d + 2) 20 (.iface 9 (.string s)) (.iface 9 (.string s))).run Yba.prog w = .ok true w := by
  have hc : (Yba.prog.info? 9).map (·.comparable) = some true := by kernel_rfl
  cases hi : Yba.prog.info? 9 with
  | none => simp [hi] at hc
  | some i =>
    have hcc : i.comparable = true := by simpa [hi] using hc
    simp [Op.equalIn, run_underlying Yba.underlying20, run_underlying Yba.underlying9, typeInfo, hi, hcc]
    rw [beq_toListBytes]
    simp
theorem eqF {w : World} {d : Nat} {f : Field} {fs : List Field} {xs ys : Array Value} (hn : f.name ≠ "_") {a b : Value} (ha : (part f.type xs f.offset).run Yba.prog w = .ok a w) (hb : (part f.type ys f.offset).run Yba.prog w = .ok b w)
    (he : (Op.equalIn d f.type a b).run Yba.prog w = .ok true w) : (Op.eqFields d xs ys (f :: fs)).run Yba.prog w = (Op.eqFields d xs ys fs).run Yba.prog w := by
  simp only [Op.eqFields, hn, ne_eq, not_false_eq_true, if_true, Sem.run_bind, ha, hb, he, Result.andThen_ok, Bool.not_true, Bool.false_eq_true, if_false]
theorem eq34 (w : World) (d : Nat) : (Op.equalIn (d + 2) 34 (.agg #[.int .u8 1, .bool false, .int .u8 0, .bool false, .pointer none]) (.agg #[.int .u8 1, .bool false, .int .u8 0, .bool false, .pointer none])).run Yba.prog w = .ok true w := by
  rw [run_equalIn_struct w (d + 1) 34 _ _ (by rw [f34]; exact Yba.underlying34) (by kernel_rfl), f34]
  have p31 := fun (xs : Array Value) (o : Nat) (v : Value) (hv : xs[o]? = some v) => part1 Yba.underlying31 (by simp) (by simp) w xs o v hv
  have p4 := fun (xs : Array Value) (o : Nat) (v : Value) (hv : xs[o]? = some v) => part1 Yba.underlying4 (by simp) (by simp) w xs o v hv
  have p25 := fun (xs : Array Value) (o : Nat) (v : Value) (hv : xs[o]? = some v) => part1 Yba.underlying25 (by simp) (by simp) w xs o v hv
  have p32 := fun (xs : Array Value) (o : Nat) (v : Value) (hv : xs[o]? = some v) => part1 Yba.underlying32 (by simp) (by simp) w xs o v hv
  refine Eq.trans (eqF (a := .int .u8 1) (b := .int .u8 1) ?_ ?_ ?_ ?_) ?_
  rotate_left 1
  · exact p31 _ _ _ rfl
  · exact p31 _ _ _ rfl
  · exact (run_equalIn_int w d 31 .u8 .u8 1 1 Yba.underlying31)
  rotate_left 1
  · simp
  refine Eq.trans (eqF (a := .bool false) (b := .bool false) ?_ ?_ ?_ ?_) ?_
  rotate_left 1
  · exact p4 _ _ _ rfl
  · exact p4 _ _ _ rfl
  · exact (run_equalIn_bool' w d 4 _ _ Yba.underlying4)
  rotate_left 1
  · simp
  refine Eq.trans (eqF (a := .int .u8 0) (b := .int .u8 0) ?_ ?_ ?_ ?_) ?_
  rotate_left 1
  · exact p25 _ _ _ rfl
  · exact p25 _ _ _ rfl
  · exact (run_equalIn_int w d 25 .u8 .u8 0 0 Yba.underlying25)
  rotate_left 1
  · simp
  refine Eq.trans (eqF (a := .bool false) (b := .bool false) ?_ ?_ ?_ ?_) ?_
  rotate_left 1
  · exact p4 _ _ _ rfl
  · exact p4 _ _ _ rfl
  · exact (run_equalIn_bool' w d 4 _ _ Yba.underlying4)
  rotate_left 1
  · simp
  refine Eq.trans (eqF (a := .pointer none) (b := .pointer none) ?_ ?_ ?_ ?_) ?_
  rotate_left 1
  · exact p32 _ _ _ rfl
  · exact p32 _ _ _ rfl
  · exact (eqptr w d)
  rotate_left 1
  · simp
  rfl

/-- Two values of one string and one mark are the same. -/
theorem neq_same (s : ByteArray) (m : Int) (w : World) : (binOp .neq 36 (.agg #[.int .u8 1, .bool false, .int .u8 0, .bool false, .pointer none, .iface 9 (.string s), .int .u8 m]) (.agg #[.int .u8 1, .bool false, .int .u8 0, .bool false, .pointer none, .iface 9 (.string s), .int .u8 m])).run Yba.prog w = .ok (.bool false) w := by
  have h : (Op.equalIn 10000 36 (.agg #[.int .u8 1, .bool false, .int .u8 0, .bool false, .pointer none, .iface 9 (.string s), .int .u8 m]) (.agg #[.int .u8 1, .bool false, .int .u8 0, .bool false, .pointer none, .iface 9 (.string s), .int .u8 m])).run Yba.prog w = .ok true w := by
    rw [run_equalIn_struct w 9999 36 _ _ (by rw [f36]; exact Yba.underlying36) (by kernel_rfl), f36]
    have p20 := fun (xs : Array Value) (o : Nat) (v : Value) (hv : xs[o]? = some v) => part1 Yba.underlying20 (by simp) (by simp) w xs o v hv
    have p25 := fun (xs : Array Value) (o : Nat) (v : Value) (hv : xs[o]? = some v) => part1 Yba.underlying25 (by simp) (by simp) w xs o v hv
    refine Eq.trans (eqF (a := .agg #[.int .u8 1, .bool false, .int .u8 0, .bool false, .pointer none]) (b := .agg #[.int .u8 1, .bool false, .int .u8 0, .bool false, .pointer none]) ?_ ?_ ?_ ?_) ?_
    rotate_left 1
    · exact part34 w _ 0
    · exact part34 w _ 0
    · exact (eq34 w 9997)
    rotate_left 1
    · simp
    refine Eq.trans (eqF (a := .iface 9 (.string s)) (b := .iface 9 (.string s)) ?_ ?_ ?_ ?_) ?_
    rotate_left 1
    · exact p20 _ _ _ rfl
    · exact p20 _ _ _ rfl
    · exact (eqif w 9997 s)
    rotate_left 1
    · simp
    refine Eq.trans (eqF (a := .int .u8 m) (b := .int .u8 m) ?_ ?_ ?_ ?_) ?_
    rotate_left 1
    · exact p25 _ _ _ rfl
    · exact p25 _ _ _ rfl
    · exact ((run_equalIn_int w 9998 25 .u8 .u8 m m Yba.underlying25).trans (by simp))
    rotate_left 1
    · simp
    rfl
  rw [run_neq_struct, h]
  rfl
end Go.Proofs.Ybulkpyo.AddOwn
