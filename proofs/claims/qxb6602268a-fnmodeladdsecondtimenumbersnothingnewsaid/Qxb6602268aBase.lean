/-
  Seat b6602268a: small notions over worlds that the walks share.
-/
import Derived.Test.Qxb6602268aRows
import Derived.WalkKit
import Derived.WalkSpells
import Derived.WalkLawsBesides
import Derived.Maps.RangeWalk
import Derived.Sort.KeysCollected
namespace Go.Proofs.Qxb6602268a
open Go.RowKit Go.Maps

def IsBool (e : Ending) : Prop := ∃ r : Bool, e = .returned (.bool r)
theorem isBool_mk (r : Bool) : IsBool (.returned (.bool r)) := ⟨r, rfl⟩

/-- Block g is an own row of cells: just these, none frozen. -/
def Own (w : World) (g : Nat) (e : TypeId) (cs : List Value) : Prop := w.heap[g]? = some (.cells cs.toArray e (0, 0))

theorem Own.lt {w : World} {g : Nat} {e : TypeId} {cs : List Value} (h : Own w g e cs) : g < w.heap.size :=
  (Array.getElem?_eq_some_iff.1 h).1
theorem Own.cell {w : World} {g : Nat} {e : TypeId} {cs : List Value} (h : Own w g e cs) (j : Nat) : w.cell? ⟨g, j, none⟩ = cs[j]? := by
  rw [cell_of_row w g j _ e (0, 0) h]; simp
theorem Own.frozen {w : World} {g : Nat} {e : TypeId} {cs : List Value} (h : Own w g e cs) (j : Nat) : w.frozen? ⟨g, j, none⟩ = false :=
  frozen_of_row w g j _ e h
theorem Own.set {w : World} {g : Nat} {e : TypeId} {cs : List Value} (h : Own w g e cs) (j : Nat) (u : Value) : Own (w.setCell ⟨g, j, none⟩ u) g e (cs.set j u) := by
  have := heap_setCell_same w g j _ e u h
  unfold Own; rw [this]; simp
theorem Own.setOther {w : World} {g : Nat} {e : TypeId} {cs : List Value} (h : Own w g e cs) {p : Addr} (hp : g ≠ p.block) (u : Value) : Own (w.setCell p u) g e cs := by
  unfold Own; rw [Below.heap_setCell _ _ _ _ hp]; exact h
theorem Own.alloc {w : World} {g : Nat} {e : TypeId} {cs : List Value} (h : Own w g e cs) (o : Obj) : Own (w.alloc o) g e cs := by
  unfold Own; rw [Below.heap_alloc _ _ _ h.lt]; exact h
theorem Own.drew {w : World} {g : Nat} {e : TypeId} {cs : List Value} (h : Own w g e cs) : Own w.drew g e cs := h
theorem Own.new (w : World) (e : TypeId) (cs : List Value) : Own (w.alloc (.cells cs.toArray e)) w.heap.size e cs := heap_alloc_new w _
theorem Own.newAt {w : World} {g : Nat} (e : TypeId) (cs : List Value) (h : g = w.heap.size) : Own (w.alloc (.cells cs.toArray e)) g e cs := h ▸ Own.new w e cs
theorem Own.below {w w' : World} {g : Nat} {e : TypeId} {cs : List Value} (h : Own w g e cs) {B : Nat} (hb : Below B w w') (hg : g < B) : Own w' g e cs := by
  unfold Own; rw [hb.block g hg]; exact h

/-- A slice over one-cell elements: element i holds f i. -/
def Row (w : World) (a : Option Addr) (n : Nat) (f : Nat → Value) : Prop :=
  n = 0 ∨ ∃ b off, a = some ⟨b, off, none⟩ ∧ ∀ i, i < n → w.cell? ⟨b, off + i, none⟩ = some (f i)

theorem Row.later {w w' : World} {a : Option Addr} {n : Nat} {f : Nat → Value} (h : Row w a n f) (hb : Below w.heap.size w w') : Row w' a n f := by
  rcases h with h | ⟨b, off, ha, hc⟩
  · exact .inl h
  · refine .inr ⟨b, off, ha, fun i hi => ?_⟩
    rw [hb.cell (p := ⟨b, off + i, none⟩) (World.block_lt_of_cell? w _ (hc i hi))]; exact hc i hi

theorem Below.allocL {B : Nat} {a w : World} (h : Below B a w) (hB : B ≤ a.heap.size) (o : Obj) : Below B a (w.alloc o) := h.alloc (Nat.le_trans hB h.size) o

theorem Below.setAt {B : Nat} {a w : World} (h : Below B a w) (g o : Nat) (u : Value) (hg : B ≤ g) : Below B a (w.setCell ⟨g, o, none⟩ u) := h.setCell (p := ⟨g, o, none⟩) hg u

/-- The world at hand, known by Φ alone from here on. -/
theorem bodyPost_via {P : Program} {fn : Func} {R : Ending → World → Prop} {x : Exit} {a : Act} {W : World} (Φ : World → Prop) (hΦ : Φ W) (h : ∀ W', Φ W' → bodyPost P fn R x a W') : bodyPost P fn R x a W := h W hΦ
theorem exit_via {E : Exit → Act → World → Prop} {x : Exit} {a : Act} {W : World} (Φ : World → Prop) (hΦ : Φ W) (h : ∀ W', Φ W' → E x a W') : E x a W := h W hΦ
theorem wp_via {P : Program} {c : Code} {Q : Exit → Act → World → Prop} {a : Act} {W : World} (Φ : World → Prop) (hΦ : Φ W) (h : ∀ W', Φ W' → Code.wp P c Q a W') : Code.wp P c Q a W := h W hΦ

/-- 'make([]T, n)': a new own block of n * size cells. -/
theorem wpList_make_cells {P : Program} (w : World) {ops : Array Oper} {rest : List Oper} {o : Oper} {a : Act} {Q : Exit → Act → World → Prop}
    (hg : o.guard = none) (l c : Operand) (t : TypeId) (hop : o.op = Op.makeSlice t l c)
    (e : TypeId) (i : TypeInfo) (z : Value) (size bytes : Nat) (h1 : P.underlying t = some (.slice e)) (h2 : P.info? e = some i) (h3 : i.zero = some z) (h4 : i.size = size) (h5 : i.bytes = bytes)
    (kl kc : IntKind) (L C : Int) (n : Nat) (hl : a.eval l = .int kl L) (hc : a.eval c = .int kc C) (hL : L = (n : Int)) (hC : C = (n : Int)) (b2 : bytes * n ≤ 281474976710656) (b3 : n ≤ 9223372036854775807)
    (hK : ∀ w' cs, Own w' w.heap.size e cs → cs.length = n * size → Below w.heap.size w w' → w'.heap.size = w.heap.size + 1 → wpList P ops Q rest (a.put o.dst (.slice (some ⟨w.heap.size, 0, none⟩) n n)) w') :
    wpList P ops Q (o :: rest) a w := by
  refine wpList_plain hg fun K hK' => ?_
  have hb' : (i.bytes : Int) * (n : Int) ≤ 281474976710656 := by
    have h : ((i.bytes * n : Nat) : Int) ≤ 281474976710656 := by rw [h5]; omega
    rwa [Int.natCast_mul] at h
  have hrun := run_make (P := P) w t e i z h1 h2 h3 kl kc n n (by omega) (Int.le_refl _) hb' (by omega)
  simp only [Int.toNat_natCast] at hrun
  subst hL
  subst hC
  unfold Oper.wp
  simp [execOp, hop, hl, hc, hrun, Result.andThen]
  refine hK' _ _ (hK _ (madeCells z.cells (n * i.size)).toList ?_ ?_ ?_ ?_)
  · exact Own.new w e _
  · simp [size_madeCells, h4]
  · exact (Below.refl _ _).alloc (Nat.le_refl _) _
  · simp

/-- Of what was there in w only the blocks ga and go may have turned. -/
structure Kept (ga go : Nat) (w w' : World) : Prop where
  os : w'.os = w.os
  tape : w'.tape = w.tape
  output : w'.output = w.output
  size : w.heap.size ≤ w'.heap.size
  block : ∀ k, k < w.heap.size → k ≠ ga → k ≠ go → w'.heap[k]? = w.heap[k]?

theorem Kept.refl (ga go : Nat) (w : World) : Kept ga go w w := ⟨rfl, rfl, rfl, Nat.le_refl _, fun _ _ _ _ => rfl⟩
theorem Kept.trans {ga go : Nat} {a b c : World} (h : Kept ga go a b) (k : Kept ga go b c) : Kept ga go a c :=
  ⟨k.os.trans h.os, k.tape.trans h.tape, k.output.trans h.output, Nat.le_trans h.size k.size, fun i hi h1 h2 => (k.block i (Nat.lt_of_lt_of_le hi h.size) h1 h2).trans (h.block i hi h1 h2)⟩
theorem Kept.drew {ga go : Nat} {a w : World} (h : Kept ga go a w) : Kept ga go a w.drew := ⟨h.os, h.tape, h.output, h.size, h.block⟩
theorem Kept.drewN {ga go : Nat} {a w : World} (h : Kept ga go a w) (n : Nat) : Kept ga go a (w.drewN n) := ⟨h.os, h.tape, h.output, h.size, h.block⟩
theorem Kept.alloc {ga go : Nat} {a w : World} (h : Kept ga go a w) (o : Obj) : Kept ga go a (w.alloc o) :=
  h.trans ⟨rfl, rfl, rfl, by simp, fun k hk _ _ => Below.heap_alloc _ _ _ hk⟩
theorem Kept.seta {ga go : Nat} {a w : World} (h : Kept ga go a w) (o : Nat) (u : Value) : Kept ga go a (w.setCell ⟨ga, o, none⟩ u) :=
  h.trans ⟨rfl, rfl, rfl, by simp [World.setCell], fun _ _ h1 _ => Below.heap_setCell _ _ _ _ h1⟩
theorem Kept.seto {ga go : Nat} {a w : World} (h : Kept ga go a w) (o : Nat) (u : Value) : Kept ga go a (w.setCell ⟨go, o, none⟩ u) :=
  h.trans ⟨rfl, rfl, rfl, by simp [World.setCell], fun _ _ _ h2 => Below.heap_setCell _ _ _ _ h2⟩
theorem Kept.of_below {ga go : Nat} {w w' : World} (h : Below w.heap.size w w') : Kept ga go w w' := ⟨h.os, h.tape, h.output, h.size, fun k hk _ _ => h.block k hk⟩
theorem Kept.below {ga go B : Nat} {w w' : World} (h : Kept ga go w w') (hB : B ≤ w.heap.size) (ha : B ≤ ga) (ho : B ≤ go) : Below B w w' :=
  ⟨h.os, h.tape, h.output, h.size, fun k hk => h.block k (by omega) (by omega) (by omega)⟩


end Go.Proofs.Qxb6602268a
