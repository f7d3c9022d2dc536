/-
  Seat b6600017a: small notions over worlds that the walks share.
-/
import Derived.Test.Qxb6600017aRows
import Derived.WalkKit
import Derived.WalkSpells
import Derived.WalkLawsBesides
namespace Go.Proofs.Qxb6600017a
open Go.RowKit

def IsBool (e : Ending) : Prop := ∃ r : Bool, e = .returned (.bool r)
theorem isBool_mk (r : Bool) : IsBool (.returned (.bool r)) := ⟨r, rfl⟩

/-- Block g is an own row of cells: just these, none frozen. -/
def Own (w : World) (g : Nat) (e : TypeId) (cs : List Value) : Prop := w.heap[g]? = some (.cells cs.toArray e (0, 0))

theorem Own.lt {w : World} {g : Nat} {e : TypeId} {cs : List Value} (h : Own w g e cs) : g < w.heap.size :=
  (Array.getElem?_eq_some_iff.1 h).1
theorem Own.cell {w : World} {g : Nat} {e : TypeId} {cs : List Value} (h : Own w g e cs) (j : Nat) : w.cell? ⟨g, j, none⟩ = cs[j]? := by
  rw [cell_of_row w g j _ e (0, 0) h]; simp
theorem Own.frozen {w : World} {g : Nat} {e : TypeId} {cs : List Value} (h : Own w g e cs) (j : Nat) : w.frozen? ⟨g, j, none⟩ = false :=
  frozen_of_row w g j _ e h
theorem Own.set {w : World} {g : Nat} {e : TypeId} {cs : List Value} (h : Own w g e cs) (j : Nat) (u : Value) : Own (w.setCell ⟨g, j, none⟩ u) g e (cs.set j u) := by
  have := heap_setCell_same w g j _ e u h
  unfold Own; rw [this]; simp
theorem Own.setOther {w : World} {g : Nat} {e : TypeId} {cs : List Value} (h : Own w g e cs) {p : Addr} (hp : g ≠ p.block) (u : Value) : Own (w.setCell p u) g e cs := by
  unfold Own; rw [Below.heap_setCell _ _ _ _ hp]; exact h
theorem Own.alloc {w : World} {g : Nat} {e : TypeId} {cs : List Value} (h : Own w g e cs) (o : Obj) : Own (w.alloc o) g e cs := by
  unfold Own; rw [Below.heap_alloc _ _ _ h.lt]; exact h
theorem Own.drew {w : World} {g : Nat} {e : TypeId} {cs : List Value} (h : Own w g e cs) : Own w.drew g e cs := h
theorem Own.new (w : World) (e : TypeId) (cs : List Value) : Own (w.alloc (.cells cs.toArray e)) w.heap.size e cs := heap_alloc_new w _
theorem Own.newAt {w : World} {g : Nat} (e : TypeId) (cs : List Value) (h : g = w.heap.size) : Own (w.alloc (.cells cs.toArray e)) g e cs := h ▸ Own.new w e cs
theorem Own.below {w w' : World} {g : Nat} {e : TypeId} {cs : List Value} (h : Own w g e cs) {B : Nat} (hb : Below B w w') (hg : g < B) : Own w' g e cs := by
  unfold Own; rw [hb.block g hg]; exact h

/-- A slice over one-cell elements: element i holds f i. -/
def Row (w : World) (a : Option Addr) (n : Nat) (f : Nat → Value) : Prop :=
  n = 0 ∨ ∃ b off, a = some ⟨b, off, none⟩ ∧ ∀ i, i < n → w.cell? ⟨b, off + i, none⟩ = some (f i)

/-- A slice over ZFinger_b1: two cells an element. -/
def Row2 (w : World) (a : Option Addr) (n : Nat) (f : Nat → Int × Bool) : Prop :=
  n = 0 ∨ ∃ b off, a = some ⟨b, off, none⟩ ∧ ∀ i, i < n → w.cell? ⟨b, off + i * 2, none⟩ = some (.int .i32 (f i).1) ∧ w.cell? ⟨b, off + i * 2 + 1, none⟩ = some (.bool (f i).2)

theorem Row.later {w w' : World} {a : Option Addr} {n : Nat} {f : Nat → Value} (h : Row w a n f) (hb : Below w.heap.size w w') : Row w' a n f := by
  rcases h with h | ⟨b, off, ha, hc⟩
  · exact .inl h
  · refine .inr ⟨b, off, ha, fun i hi => ?_⟩
    rw [hb.cell (p := ⟨b, off + i, none⟩) (World.block_lt_of_cell? w _ (hc i hi))]; exact hc i hi

theorem Row2.later {w w' : World} {a : Option Addr} {n : Nat} {f : Nat → Int × Bool} (h : Row2 w a n f) (hb : Below w.heap.size w w') : Row2 w' a n f := by
  rcases h with h | ⟨b, off, ha, hc⟩
  · exact .inl h
  · refine .inr ⟨b, off, ha, fun i hi => ?_⟩
    have hlt : b < w.heap.size := World.block_lt_of_cell? w _ (hc i hi).1
    rw [hb.cell (p := ⟨b, off + i * 2, none⟩) hlt, hb.cell (p := ⟨b, off + i * 2 + 1, none⟩) hlt]; exact hc i hi

/-- One ZTable_b1, as data. -/
structure Tab where
  pred : Int
  succ : Int
  nop : Bool
  quiet : Bool
  fa : Option Addr
  fn : Nat
  fc : Nat
  fol : Nat → Int
  wa : Option Addr
  wn : Nat
  wc : Nat
  fwd : Nat → Int × Bool
  ba : Option Addr
  bn : Nat
  bc : Nat
  bck : Nat → Int × Bool

/-- Its value. -/
def Tab.val (x : Tab) : Value := .agg #[.int .i32 x.pred, .int .i32 x.succ, .bool x.nop, .bool x.quiet, .slice x.fa x.fn x.fc, .slice x.wa x.wn x.wc, .slice x.ba x.bn x.bc]

/-- What its three slices lead to. -/
structure Tab.In (w : World) (x : Tab) : Prop where
  fol : Row w x.fa x.fn fun i => .int .i32 (x.fol i)
  fwd : Row2 w x.wa x.wn x.fwd
  bck : Row2 w x.ba x.bn x.bck
  fnl : x.fn ≤ 9223372036854775807
  wnl : x.wn ≤ 9223372036854775807
  bnl : x.bn ≤ 9223372036854775807

theorem Tab.In.later {w w' : World} {x : Tab} (h : x.In w) (hb : Below w.heap.size w w') : x.In w' :=
  ⟨h.fol.later hb, h.fwd.later hb, h.bck.later hb, h.fnl, h.wnl, h.bnl⟩

/-- The seven cells of table x at ⟨b, o⟩. -/
structure Tab.At (w : World) (b o : Nat) (x : Tab) : Prop where
  c0 : w.cell? ⟨b, o, none⟩ = some (.int .i32 x.pred)
  c1 : w.cell? ⟨b, o + 1, none⟩ = some (.int .i32 x.succ)
  c2 : w.cell? ⟨b, o + 2, none⟩ = some (.bool x.nop)
  c3 : w.cell? ⟨b, o + 3, none⟩ = some (.bool x.quiet)
  c4 : w.cell? ⟨b, o + 4, none⟩ = some (.slice x.fa x.fn x.fc)
  c5 : w.cell? ⟨b, o + 5, none⟩ = some (.slice x.wa x.wn x.wc)
  c6 : w.cell? ⟨b, o + 6, none⟩ = some (.slice x.ba x.bn x.bc)

theorem Tab.At.later {w w' : World} {b o : Nat} {x : Tab} (h : x.At w b o) (hb : Below w.heap.size w w') : x.At w' b o := by
  have hlt : b < w.heap.size := World.block_lt_of_cell? w _ h.c0
  have e : ∀ j, w'.cell? ⟨b, j, none⟩ = w.cell? ⟨b, j, none⟩ := fun j => hb.cell (p := ⟨b, j, none⟩) hlt
  exact ⟨(e _).trans h.c0, (e _).trans h.c1, (e _).trans h.c2, (e _).trans h.c3, (e _).trans h.c4, (e _).trans h.c5, (e _).trans h.c6⟩

/-- The tables that came in. -/
def Tabs (w : World) (a : Option Addr) (n : Nat) (x : Nat → Tab) : Prop :=
  (n = 0 ∨ ∃ b off, a = some ⟨b, off, none⟩ ∧ ∀ i, i < n → (x i).At w b (off + i * 7)) ∧ ∀ i, i < n → (x i).In w

theorem Tabs.later {w w' : World} {a : Option Addr} {n : Nat} {x : Nat → Tab} (h : Tabs w a n x) (hb : Below w.heap.size w w') : Tabs w' a n x := by
  refine ⟨?_, fun i hi => (h.2 i hi).later hb⟩
  rcases h.1 with h | ⟨b, off, ha, hc⟩
  · exact .inl h
  · exact .inr ⟨b, off, ha, fun i hi => (hc i hi).later hb⟩

theorem Below.allocL {B : Nat} {a w : World} (h : Below B a w) (hB : B ≤ a.heap.size) (o : Obj) : Below B a (w.alloc o) := h.alloc (Nat.le_trans hB h.size) o

theorem Below.setAt {B : Nat} {a w : World} (h : Below B a w) (g o : Nat) (u : Value) (hg : B ≤ g) : Below B a (w.setCell ⟨g, o, none⟩ u) := h.setCell (p := ⟨g, o, none⟩) hg u

/-- The world at hand, known by Φ alone from here on. -/
theorem bodyPost_via {P : Program} {fn : Func} {R : Ending → World → Prop} {x : Exit} {a : Act} {W : World} (Φ : World → Prop) (hΦ : Φ W) (h : ∀ W', Φ W' → bodyPost P fn R x a W') : bodyPost P fn R x a W := h W hΦ
theorem exit_via {E : Exit → Act → World → Prop} {x : Exit} {a : Act} {W : World} (Φ : World → Prop) (hΦ : Φ W) (h : ∀ W', Φ W' → E x a W') : E x a W := h W hΦ
theorem wp_via {P : Program} {c : Code} {Q : Exit → Act → World → Prop} {a : Act} {W : World} (Φ : World → Prop) (hΦ : Φ W) (h : ∀ W', Φ W' → Code.wp P c Q a W') : Code.wp P c Q a W := h W hΦ

/-- 'make([]T, n)': a new own block of n * size cells. -/
theorem wpList_make_cells {P : Program} (w : World) {ops : Array Oper} {rest : List Oper} {o : Oper} {a : Act} {Q : Exit → Act → World → Prop}
    (hg : o.guard = none) (l c : Operand) (t : TypeId) (hop : o.op = Op.makeSlice t l c)
    (e : TypeId) (i : TypeInfo) (z : Value) (size bytes : Nat) (h1 : P.underlying t = some (.slice e)) (h2 : P.info? e = some i) (h3 : i.zero = some z) (h4 : i.size = size) (h5 : i.bytes = bytes)
    (kl kc : IntKind) (L C : Int) (n : Nat) (hl : a.eval l = .int kl L) (hc : a.eval c = .int kc C) (hL : L = (n : Int)) (hC : C = (n : Int)) (b2 : bytes * n ≤ 281474976710656) (b3 : n ≤ 9223372036854775807)
    (hK : ∀ w' cs, Own w' w.heap.size e cs → cs.length = n * size → Below w.heap.size w w' → w'.heap.size = w.heap.size + 1 → wpList P ops Q rest (a.put o.dst (.slice (some ⟨w.heap.size, 0, none⟩) n n)) w') :
    wpList P ops Q (o :: rest) a w := by
  refine wpList_plain hg fun K hK' => ?_
  have hb' : (i.bytes : Int) * (n : Int) ≤ 281474976710656 := by
    have h : ((i.bytes * n : Nat) : Int) ≤ 281474976710656 := by rw [h5]; omega
    rwa [Int.natCast_mul] at h
  have hrun := run_make (P := P) w t e i z h1 h2 h3 kl kc n n (by omega) (Int.le_refl _) hb' (by omega)
  simp only [Int.toNat_natCast] at hrun
  subst hL
  subst hC
  unfold Oper.wp
  simp [execOp, hop, hl, hc, hrun, Result.andThen]
  refine hK' _ _ (hK _ (madeCells z.cells (n * i.size)).toList ?_ ?_ ?_ ?_)
  · exact Own.new w e _
  · simp [size_madeCells, h4]
  · exact (Below.refl _ _).alloc (Nat.le_refl _) _
  · simp

end Go.Proofs.Qxb6600017a
