/- newState, at the record that the law lays out. -/
import Derived.Test.YbulkpyoLawC
namespace Go.Proofs.Ybulkpyo
open Go.RowKit
set_option linter.unusedVariables false

/-- The world with the law's two records. -/
def W10 (wr : World) (gP gL gW n mm : Nat) : World :=
  (wr.alloc (.cells #[.pointer (some ⟨gP, 0, none⟩), .slice none 0 0, .string ⟨#[]⟩, .slice (some ⟨gL, 0, none⟩) (n + 1) (n + 1), .int .u64 0, .int .u64 0, .int .u64 0, .int .u64 0, .bool false, .slice none 0 0, .pointer none, .int .i64 0] 80)).alloc (.cells #[.pointer (some ⟨wr.heap.size, 0, none⟩), .pointer none, .pointer none, .map none, .int .i64 0, .int .i64 0, .bool false, .slice none 0 0, .slice none 0 0, .slice none 0 0, .slice none 0 0, .slice (some ⟨gW, 0, none⟩) mm mm, .slice none 0 0, .slice none 0 0, .slice none 0 0, .slice none 0 0, .slice none 0 0] 88)

/-- What stands behind the call. -/
structure Now (w w' : World) (I : Ins) (W : Nat → Nat) (mm gW g gi cap : Nat) : Prop where
  sta : w'.heap[g]? = some (.cells #[.slice (some ⟨gi, 0, none⟩) mm cap, .pointer none, .int .i64 (need I W mm), .bool (mtTo I W mm), .bool (ldTo I W mm)] 93 (0, 0))
  ids : ∀ t, t < mm → w'.cell? ⟨gi, t, none⟩ = some (.int .u32 (W t))
  wts : ∀ t, t < mm → w'.cell? ⟨gW, t, none⟩ = some (.int .u32 (W t))
  blk : Blk w' gW 58 mm
  ne1 : gi ≠ gW
  ne2 : g ≠ gW
  bel : Below w.heap.size w w'

theorem now_any {w wr : World} {gO gE gL gI gP gW mm : Nat} {b : Bl} {I : Ins} {W : Nat → Nat} (ok : I.Ok) (hb : b = ⟨w.heap.size, gO, gE, gL, gI, gP, gP + 1, gP + 1 + 1, gP + 1 + 1 + 1⟩)
    (hF : Full w wr b I) (hW : Wts wr gW mm W mm) (hWn : ∀ t, W t ≤ I.n) (hm : mm ≤ 1024) (hL : ∀ i, -9223372036854775808 ≤ I.L i ∧ I.L i ≤ 9223372036854775807) :
    Calls Yba.prog 8 #[.pointer (some ⟨wr.heap.size + 1, 0, none⟩)] (W10 wr gP gL gW I.n mm) fun e w' => ∃ g gi cap, e = .returned (.pointer (some ⟨g, 0, none⟩)) ∧ Now w w' I W mm gW g gi cap := by
  have hbl : Below wr.heap.size wr (W10 wr gP gL gW I.n mm) := ((Below.refl _ _).alloc (Nat.le_refl _) _).alloc (by simp) _
  have hF' : Full w (W10 wr gP gL gW I.n mm) b I := hF.later hbl
  have hgW : gW < wr.heap.size := by obtain ⟨cur, hh, _⟩ := hW.1; exact lt_of_block hh
  have hM : Mem (W10 wr gP gL gW I.n mm) (wr.heap.size + 1) wr.heap.size b.gP b.gI b.gL I := by
    refine hF'.mem ok.hKn ?_ ?_ ?_
    · simp [W10, go_sem]
    · rw [hb]; simp [W10, go_sem]
    · rw [hb]; simp [W10, go_sem]
  have hsz : (W10 wr gP gL gW I.n mm).heap.size = wr.heap.size + 2 := by simp [W10]
  refine (newState_any (wr.heap.size + 1) wr.heap.size b.gP b.gI b.gL gW mm I ok W hWn _ hM hm (fun t ht => below_cells hbl _ _ (hW.2 t ht)) (by omega) ?_ (fun i _ => hL i)).mono ?_
  · simp [W10, go_sem]
  · rintro e w' ⟨g, gi, cap, rfl, h1, h2, h3, h4⟩
    have hbw : (W10 wr gP gL gW I.n mm).heap.size ≤ gi := by
      rcases h3.2 with ⟨hh, _⟩ | ⟨g', c', cur, hh, hbase, _⟩
      · cases hh
      · cases hh; exact hbase
    have hws : w.heap.size ≤ (W10 wr gP gL gW I.n mm).heap.size := hF'.bel.size
    refine ⟨g, gi, cap, rfl, h2, ?_, ?_, ?_, by omega, by omega, ?_⟩
    · intro t ht
      rw [h3.cellAt t (by omega)]
      exact wcells_get ht
    · intro t ht
      exact below_cells h4 _ _ (below_cells hbl _ _ (hW.2 t ht))
    · exact (hW.1.kept (hbl.block _ hgW)).kept (h4.block _ (by omega))
    · exact hF'.bel.trans (h4.mono hws)

theorem Now.cs {w w' : World} {I : Ins} {W : Nat → Nat} {mm gW g gi cap : Nat} (h : Now w w' I W mm gW g gi cap) :
    w'.cell? ⟨g, 0, none⟩ = some (.slice (some ⟨gi, 0, none⟩) mm cap) ∧ w'.cell? ⟨g, 1, none⟩ = some (.pointer none) ∧ w'.cell? ⟨g, 2, none⟩ = some (.int .i64 (need I W mm)) ∧ w'.cell? ⟨g, 3, none⟩ = some (.bool (mtTo I W mm)) ∧ w'.cell? ⟨g, 4, none⟩ = some (.bool (ldTo I W mm)) := by
  refine ⟨?_, ?_, ?_, ?_, ?_⟩ <;> simp [World.cell?, h.sta]
end Go.Proofs.Ybulkpyo
