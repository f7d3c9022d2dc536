/-
  Seat b6602119a: small notions over worlds that the walks share. No Go function in sight.
-/
import Derived.Test.Qxb6602119aRows
import Derived.WalkKit
import Derived.WalkSpells
import Derived.WalkLawsBesides
namespace Go.Proofs.Qxb6602119a
open Go.RowKit

/-- Some bool comes back. -/
def IsBool (e : Ending) : Prop := ∃ r : Bool, e = .returned (.bool r)
/-- Some int comes back. -/
def IsInt (e : Ending) : Prop := ∃ r : Int, e = .returned (.int .i64 r)

/-- Block g is an own row of cells: just these, none frozen. -/
def Own (w : World) (g : Nat) (e : TypeId) (cs : List Value) : Prop := w.heap[g]? = some (.cells cs.toArray e (0, 0))

theorem Own.lt {w : World} {g : Nat} {e : TypeId} {cs : List Value} (h : Own w g e cs) : g < w.heap.size :=
  (Array.getElem?_eq_some_iff.1 h).1
theorem Own.cell {w : World} {g : Nat} {e : TypeId} {cs : List Value} (h : Own w g e cs) (j : Nat) : w.cell? ⟨g, j, none⟩ = cs[j]? := by
  rw [cell_of_row w g j _ e (0, 0) h]; simp
theorem Own.frozen {w : World} {g : Nat} {e : TypeId} {cs : List Value} (h : Own w g e cs) (j : Nat) : w.frozen? ⟨g, j, none⟩ = false :=
  frozen_of_row w g j _ e h
theorem Own.set {w : World} {g : Nat} {e : TypeId} {cs : List Value} (h : Own w g e cs) (j : Nat) (u : Value) : Own (w.setCell ⟨g, j, none⟩ u) g e (cs.set j u) := by
  have := heap_setCell_same w g j _ e u h
  unfold Own; rw [this]; simp
theorem Own.setOther {w : World} {g : Nat} {e : TypeId} {cs : List Value} (h : Own w g e cs) {p : Addr} (hp : g ≠ p.block) (u : Value) : Own (w.setCell p u) g e cs := by
  unfold Own; rw [Below.heap_setCell _ _ _ _ hp]; exact h
theorem Own.alloc {w : World} {g : Nat} {e : TypeId} {cs : List Value} (h : Own w g e cs) (o : Obj) : Own (w.alloc o) g e cs := by
  unfold Own; rw [Below.heap_alloc _ _ _ h.lt]; exact h
theorem Own.new (w : World) (e : TypeId) (cs : List Value) : Own (w.alloc (.cells cs.toArray e)) w.heap.size e cs := heap_alloc_new w _
theorem Own.newAt {w : World} {g : Nat} (e : TypeId) (cs : List Value) (h : g = w.heap.size) : Own (w.alloc (.cells cs.toArray e)) g e cs := h ▸ Own.new w e cs
theorem Own.below {w w' : World} {g : Nat} {e : TypeId} {cs : List Value} (h : Own w g e cs) {B : Nat} (hb : Below B w w') (hg : g < B) : Own w' g e cs := by
  unfold Own; rw [hb.block g hg]; exact h

/-- A slice value over cells: of n elements, one cell each, element i holds f i. -/
def Row (w : World) (a : Option Addr) (n : Nat) (f : Nat → Value) : Prop :=
  n = 0 ∨ ∃ b off, a = some ⟨b, off, none⟩ ∧ ∀ i, i < n → w.cell? ⟨b, off + i, none⟩ = some (f i)

theorem Row.later {w w' : World} {a : Option Addr} {n : Nat} {f : Nat → Value} (h : Row w a n f) (hb : Below w.heap.size w w') : Row w' a n f := by
  rcases h with h | ⟨b, off, ha, hc⟩
  · exact .inl h
  · refine .inr ⟨b, off, ha, fun i hi => ?_⟩
    have hlt := World.block_lt_of_cell? w _ (hc i hi)
    rw [hb.cell (p := ⟨b, off + i, none⟩) hlt]; exact hc i hi

/-- An own row, read through a slice that begins at its head. -/
theorem Own.row {w : World} {g : Nat} {e : TypeId} {cs : List Value} (h : Own w g e cs) (f : Nat → Value) (n : Nat) (hf : ∀ i, i < n → cs[i]? = some (f i)) : Row w (some ⟨g, 0, none⟩) n f := by
  refine .inr ⟨g, 0, rfl, fun i hi => ?_⟩
  rw [Nat.zero_add, h.cell i]; exact hf i hi

/-- 'make([]T, n)', T of one cell: a new own block of n zeros. -/
theorem wpList_make_one {P : Program} (w : World) {ops : Array Oper} {rest : List Oper} {o : Oper} {a : Act} {Q : Exit → Act → World → Prop}
    (hg : o.guard = none) (l c : Operand) (t : TypeId) (hop : o.op = Op.makeSlice t l c)
    (e : TypeId) (i : TypeInfo) (z : Value) (bytes : Nat) (h1 : P.underlying t = some (.slice e)) (h2 : P.info? e = some i) (h3 : i.zero = some z) (h4 : i.size = 1) (h5 : i.bytes = bytes) (h6 : z.cells = #[z])
    (kl kc : IntKind) (L C : Int) (n : Nat) (hl : a.eval l = .int kl L) (hc : a.eval c = .int kc C) (hL : L = (n : Int)) (hC : C = (n : Int)) (b2 : bytes * n ≤ 281474976710656) (b3 : n ≤ 9223372036854775807)
    (hK : ∀ w', Own w' w.heap.size e (List.replicate n z) → Below w.heap.size w w' → w'.heap.size = w.heap.size + 1 → wpList P ops Q rest (a.put o.dst (.slice (some ⟨w.heap.size, 0, none⟩) n n)) w') :
    wpList P ops Q (o :: rest) a w := by
  refine wpList_plain hg fun K hK' => ?_
  have hb' : (i.bytes : Int) * (n : Int) ≤ 281474976710656 := by
    have h : ((i.bytes * n : Nat) : Int) ≤ 281474976710656 := by rw [h5]; omega
    rwa [Int.natCast_mul] at h
  have hrun := run_make (P := P) w t e i z h1 h2 h3 kl kc n n (by omega) (Int.le_refl _) hb' (by omega)
  simp only [Int.toNat_natCast] at hrun
  subst hL
  subst hC
  unfold Oper.wp
  simp [execOp, hop, hl, hc, hrun, Result.andThen]
  refine hK' _ _ (hK _ ?_ ?_ ?_)
  · have e1 : madeCells z.cells (n * i.size) = (List.replicate n z).toArray := by
      apply Array.ext'
      rw [h6, h4, Nat.mul_one, toList_madeCells_one]
    rw [e1]
    exact Own.new w e _
  · exact (Below.refl _ _).alloc (Nat.le_refl _) _
  · simp

theorem info9 : (Try.prog.info? 9).map (fun i => (i.zero, i.size, i.bytes)) = some (some (.string ⟨#[]⟩), 1, 16) := by kernel_rfl
theorem info3 : (Try.prog.info? 3).map (fun i => (i.zero, i.size, i.bytes)) = some (some (.int .i64 0), 1, 8) := by kernel_rfl

end Go.Proofs.Qxb6602119a
