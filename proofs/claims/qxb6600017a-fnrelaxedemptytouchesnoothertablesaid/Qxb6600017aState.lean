/-
  Seat b6600017a: what zzRelaxedTablesShared_b1 has laid so far: a state, and its steps.
-/
import Derived.Test.Qxb6600017aPeer
import Derived.Test.Qxb6600017aFlat
namespace Go.Proofs.Qxb6600017a
open Go.RowKit

/-- Of what was there in w only the blocks ga and go may have turned. -/
structure Kept (ga go : Nat) (w w' : World) : Prop where
  os : w'.os = w.os
  tape : w'.tape = w.tape
  output : w'.output = w.output
  size : w.heap.size ≤ w'.heap.size
  block : ∀ k, k < w.heap.size → k ≠ ga → k ≠ go → w'.heap[k]? = w.heap[k]?

theorem Kept.refl (ga go : Nat) (w : World) : Kept ga go w w := ⟨rfl, rfl, rfl, Nat.le_refl _, fun _ _ _ _ => rfl⟩
theorem Kept.trans {ga go : Nat} {a b c : World} (h : Kept ga go a b) (k : Kept ga go b c) : Kept ga go a c :=
  ⟨k.os.trans h.os, k.tape.trans h.tape, k.output.trans h.output, Nat.le_trans h.size k.size, fun i hi h1 h2 => (k.block i (Nat.lt_of_lt_of_le hi h.size) h1 h2).trans (h.block i hi h1 h2)⟩
theorem Kept.drew {ga go : Nat} {a w : World} (h : Kept ga go a w) : Kept ga go a w.drew := ⟨h.os, h.tape, h.output, h.size, h.block⟩
theorem Kept.drewN {ga go : Nat} {a w : World} (h : Kept ga go a w) (n : Nat) : Kept ga go a (w.drewN n) := ⟨h.os, h.tape, h.output, h.size, h.block⟩
theorem Kept.alloc {ga go : Nat} {a w : World} (h : Kept ga go a w) (o : Obj) : Kept ga go a (w.alloc o) :=
  h.trans ⟨rfl, rfl, rfl, by simp, fun k hk _ _ => Below.heap_alloc _ _ _ hk⟩
theorem Kept.seta {ga go : Nat} {a w : World} (h : Kept ga go a w) (o : Nat) (u : Value) : Kept ga go a (w.setCell ⟨ga, o, none⟩ u) :=
  h.trans ⟨rfl, rfl, rfl, by simp [World.setCell], fun _ _ h1 _ => Below.heap_setCell _ _ _ _ h1⟩
theorem Kept.seto {ga go : Nat} {a w : World} (h : Kept ga go a w) (o : Nat) (u : Value) : Kept ga go a (w.setCell ⟨go, o, none⟩ u) :=
  h.trans ⟨rfl, rfl, rfl, by simp [World.setCell], fun _ _ _ h2 => Below.heap_setCell _ _ _ _ h2⟩
theorem Kept.of_below {ga go : Nat} {w w' : World} (h : Below w.heap.size w w') : Kept ga go w w' := ⟨h.os, h.tape, h.output, h.size, fun k hk _ _ => h.block k hk⟩
theorem Kept.below {ga go B : Nat} {w w' : World} (h : Kept ga go w w') (hB : B ≤ w.heap.size) (ha : B ≤ ga) (ho : B ≤ go) : Below B w w' :=
  ⟨h.os, h.tape, h.output, h.size, fun k hk => h.block k (by omega) (by omega) (by omega)⟩

theorem Row4.keptTwo {ga go B : Nat} {w w' : World} {a : Option Addr} {n : Nat} {f : Nat → Int} (h : Row4 B w a n f) (hk : Kept ga go w w') (ha : ga < B) (ho : go < B) : Row4 B w' a n f := by
  rcases h with h | ⟨g, hg, e, hc⟩
  · exact .inl h
  · refine .inr ⟨g, hg, e, fun i hi => ?_⟩
    rw [World.cell?_of_block (w := w) (a := ⟨g, i * 4 + 3, none⟩) (hk.block g (World.block_lt_of_cell? w _ (hc i hi)) (by omega) (by omega))]
    exact hc i hi

/-- Table t of the row 'out', as zzRelaxedTablesShared_b1 lays it. -/
structure OutOK (x : Nat → Tab) (ga go : Nat) (w : World) (os : List Value) (t : Nat) : Prop where
  pred : os[t * 16 + 6]? = some (.int .i32 (x t).pred)
  succ : os[t * 16 + 10]? = some (.int .i32 (x t).succ)
  nop : os[t * 16 + 11]? = some (.bool (x t).nop)
  quiet : os[t * 16 + 12]? = some (.bool (x t).quiet)
  fol : ∃ a c, os[t * 16 + 13]? = some (.slice a (x t).fn c) ∧ Row4 (go + 1) w a (x t).fn (x t).fol
  fwd : ∃ a c, os[t * 16 + 14]? = some (.slice a (x t).wn c) ∧ ((x t).wn = 0 ∨ a = some ⟨ga, (offs x t) * 5, none⟩)
  bck : ∃ a c, os[t * 16 + 15]? = some (.slice a (x t).bn c) ∧ ((x t).bn = 0 ∨ a = some ⟨ga, (offs x t + (x t).wn) * 5, none⟩)

/-- The first m fingers lie in the array. -/
def ArrOK (x : Nat → Tab) (n : Nat) (ys : List Value) (m : Nat) : Prop :=
  ∀ q, q < m → ys[q * 5 + 3]? = some (.int .i32 (G x n q).1) ∧ ys[q * 5 + 4]? = some (.bool (G x n q).2)

/-- So far: m fingers, i tables. -/
structure Sh (x : Nat → Tab) (n N ga go : Nat) (w0 wr : World) (m i : Nat) : Prop where
  bel : Below w0.heap.size w0 wr
  arr : ∃ ys, Own wr ga 70 ys ∧ ys.length = N * 5 ∧ ArrOK x n ys m
  out : ∃ os, Own wr go 60 os ∧ os.length = n * 16 ∧ ∀ t, t < i → OutOK x ga go wr os t

theorem OutOK.kept {x : Nat → Tab} {ga go t : Nat} {w w' : World} {os : List Value} (h : OutOK x ga go w os t) (hk : Kept ga go w w') (hlt : ga < go) : OutOK x ga go w' os t := by
  obtain ⟨a, c, h1, h2⟩ := h.fol
  exact ⟨h.pred, h.succ, h.nop, h.quiet, ⟨a, c, h1, h2.keptTwo hk (by omega) (by omega)⟩, h.fwd, h.bck⟩

theorem Sh.drewN {x : Nat → Tab} {n N ga go m i : Nat} {w0 wr : World} (h : Sh x n N ga go w0 wr m i) (d : Nat) : Sh x n N ga go w0 (wr.drewN d) m i := by
  obtain ⟨ys, a1, a2, a3⟩ := h.arr
  obtain ⟨os, o1, o2, o3⟩ := h.out
  refine ⟨below_drewN h.bel d, ⟨ys, a1, a2, a3⟩, ⟨os, o1, o2, fun t ht => ?_⟩⟩
  obtain ⟨a, c, h1, h2⟩ := (o3 t ht).fol
  exact ⟨(o3 t ht).pred, (o3 t ht).succ, (o3 t ht).nop, (o3 t ht).quiet, ⟨a, c, h1, h2⟩, (o3 t ht).fwd, (o3 t ht).bck⟩

theorem set5_get {x : Nat → Tab} {n N m : Nat} {ys : List Value} (hlen : ys.length = N * 5) (hm : m < N) (h : ArrOK x n ys m) (a b c : Value) :
    ArrOK x n (((((ys.set (m * 5) a).set (m * 5 + 1) b).set (m * 5 + 2) c).set (m * 5 + 3) (.int .i32 (G x n m).1)).set (m * 5 + 4) (.bool (G x n m).2)) (m + 1) := by
  intro q hq
  by_cases e : m = q
  · subst e
    constructor
    · rw [List.getElem?_set, if_neg (by omega), List.getElem?_set, if_pos rfl, if_pos (by simp; omega)]
    · rw [List.getElem?_set, if_pos rfl, if_pos (by simp; omega)]
  · constructor
    · rw [List.getElem?_set, if_neg (by omega), List.getElem?_set, if_neg (by omega), List.getElem?_set, if_neg (by omega), List.getElem?_set, if_neg (by omega), List.getElem?_set, if_neg (by omega)]
      exact (h q (by omega)).1
    · rw [List.getElem?_set, if_neg (by omega), List.getElem?_set, if_neg (by omega), List.getElem?_set, if_neg (by omega), List.getElem?_set, if_neg (by omega), List.getElem?_set, if_neg (by omega)]
      exact (h q (by omega)).2

/-- One finger more. -/
theorem Sh.finger {x : Nat → Tab} {n N ga go m i : Nat} {w0 wr : World} (h : Sh x n N ga go w0 wr m i) (hlt : ga < go) (hw : w0.heap.size ≤ ga) (hm : m < N) (f : Int × Bool) (hf : G x n m = f) (a b c : Value) (o : Obj) :
    Sh x n N ga go w0 ((((((wr.setCell ⟨ga, m * 5, none⟩ a).setCell ⟨ga, m * 5 + 1, none⟩ b).setCell ⟨ga, m * 5 + 2, none⟩ c).setCell ⟨ga, m * 5 + 3, none⟩ (.int .i32 f.1)).setCell ⟨ga, m * 5 + 4, none⟩ (.bool f.2)).alloc o).drew (m + 1) i := by
  subst hf
  obtain ⟨ys, a1, a2, a3⟩ := h.arr
  obtain ⟨os, o1, o2, o3⟩ := h.out
  have hk : Kept ga go wr ((((((wr.setCell ⟨ga, m * 5, none⟩ a).setCell ⟨ga, m * 5 + 1, none⟩ b).setCell ⟨ga, m * 5 + 2, none⟩ c).setCell ⟨ga, m * 5 + 3, none⟩ (.int .i32 (G x n m).1)).setCell ⟨ga, m * 5 + 4, none⟩ (.bool (G x n m).2)).alloc o).drew :=
    ((((((((Kept.refl ga go wr).seta _ a).seta _ b).seta _ c).seta _ _).seta _ _)).alloc o).drew
  refine ⟨h.bel.trans (hk.below h.bel.size hw (by omega)), ⟨_, ((((((a1.set _ _).set _ _).set _ _).set _ _).set _ _).alloc o).drew, by simpa using a2, set5_get a2 hm a3 a b c⟩, ⟨os, ?_, o2, fun t ht => (o3 t ht).kept hk hlt⟩⟩
  exact ((((((o1.setOther (by show go ≠ ga; omega) _).setOther (by show go ≠ ga; omega) _).setOther (by show go ≠ ga; omega) _).setOther (by show go ≠ ga; omega) _).setOther (by show go ≠ ga; omega) _).alloc o).drew

/-- The list behind stores from place o on. -/
def putRow (os : List Value) : Nat → List Value → List Value
  | _, [] => os
  | o, v :: vs => putRow (os.set o v) (o + 1) vs

theorem putRow_length : ∀ (vs : List Value) (os : List Value) (o : Nat), (putRow os o vs).length = os.length
  | [], _, _ => rfl
  | v :: vs, os, o => by rw [putRow, putRow_length vs]; simp

theorem putRow_out : ∀ (vs : List Value) (os : List Value) (o i : Nat), i < o ∨ o + vs.length ≤ i → (putRow os o vs)[i]? = os[i]?
  | [], _, _, _, _ => rfl
  | v :: vs, os, o, i, h => by
    rw [putRow, putRow_out vs _ _ _ (by simp at h; omega), List.getElem?_set, if_neg (by simp at h; omega)]

theorem putRow_in : ∀ (vs : List Value) (os : List Value) (o j : Nat), o + j < os.length → j < vs.length → (putRow os o vs)[o + j]? = vs[j]?
  | [], _, _, _, _, h => by simp at h
  | v :: vs, os, o, 0, h, _ => by
    rw [putRow, putRow_out vs _ _ _ (by omega), Nat.add_zero, List.getElem?_set, if_pos rfl, if_pos (by omega)]
    rfl
  | v :: vs, os, o, j + 1, h, hj => by
    rw [putRow, show o + (j + 1) = (o + 1) + j from by omega, putRow_in vs _ _ _ (by simp; omega) (by simpa using hj)]
    simp

theorem Own.sets {g : Nat} {e : TypeId} : ∀ (vs : List Value) {w : World} {cs : List Value} (_ : Own w g e cs) (o : Nat), Own (w.setCells g o vs) g e (putRow cs o vs)
  | [], _, _, h, _ => h
  | v :: vs, _, _, h, o => (h.set o v).sets vs (o + 1)
theorem Own.setsOther {g g' : Nat} {e : TypeId} (hg : g ≠ g') : ∀ (vs : List Value) {w : World} {cs : List Value} (_ : Own w g e cs) (o : Nat), Own (w.setCells g' o vs) g e cs
  | [], _, _, h, _ => h
  | v :: vs, _, _, h, o => (h.setOther hg v : Own (World.setCell _ ⟨g', o, none⟩ v) g e _).setsOther hg vs (o + 1)
theorem Kept.setsa {ga go : Nat} : ∀ (vs : List Value) {a w : World} (_ : Kept ga go a w) (o : Nat), Kept ga go a (w.setCells ga o vs)
  | [], _, _, h, _ => h
  | v :: vs, _, _, h, o => Kept.setsa vs (h.seta o v) (o + 1)
theorem Kept.setso {ga go : Nat} : ∀ (vs : List Value) {a w : World} (_ : Kept ga go a w) (o : Nat), Kept ga go a (w.setCells go o vs)
  | [], _, _, h, _ => h
  | v :: vs, _, _, h, o => Kept.setso vs (h.seto o v) (o + 1)

/-- The sixteen cells of a table of the row 'out'. -/
def outCells (t : Tab) (f w b : Value) : List Value := [.int .u64 0, .int .u64 0, .int .u64 0, .int .u64 0, .int .u64 0, .int .u64 0, .int .i32 t.pred, .int .u64 0, .int .u64 0, .int .u64 0, .int .i32 t.succ, .bool t.nop, .bool t.quiet, f, w, b]

theorem Row4.mono {B B' : Nat} {w : World} {a : Option Addr} {n : Nat} {f : Nat → Int} (h : Row4 B w a n f) (hB : B' ≤ B) : Row4 B' w a n f := by
  rcases h with h | ⟨g, hg, ha, hc⟩
  · exact .inl h
  · exact .inr ⟨g, by omega, ha, hc⟩

/-- One table more. -/
theorem Sh.table {x : Nat → Tab} {n N ga go m k : Nat} {w0 wr w3 : World} (h : Sh x n N ga go w0 wr m k) (hb3 : Below wr.heap.size wr w3) (hlt : ga < go) (hw : w0.heap.size ≤ ga) (hk : k < n)
    {a4 a14 a15 : Option Addr} {c4 c14 c15 : Nat} (h4 : Row4 wr.heap.size w3 a4 (x k).fn (x k).fol) (h14 : (x k).wn = 0 ∨ a14 = some ⟨ga, (offs x k) * 5, none⟩) (h15 : (x k).bn = 0 ∨ a15 = some ⟨ga, (offs x k + (x k).wn) * 5, none⟩) :
    Sh x n N ga go w0 (w3.setCells go (k * 16) (outCells (x k) (.slice a4 (x k).fn c4) (.slice a14 (x k).wn c14) (.slice a15 (x k).bn c15))) m (k + 1) := by
  obtain ⟨ys, a1, a2, a3⟩ := h.arr
  obtain ⟨os, o1, o2, o3⟩ := h.out
  have hgo := o1.lt
  have hk3 : Kept ga go wr w3 := Kept.of_below hb3
  generalize hvs : outCells (x k) (.slice a4 (x k).fn c4) (.slice a14 (x k).wn c14) (.slice a15 (x k).bn c15) = vs
  have hvl : vs.length = 16 := by rw [← hvs]; rfl
  have hkk : Kept ga go w3 (w3.setCells go (k * 16) vs) := (Kept.refl ga go w3).setso vs _
  have hin : ∀ j, j < 16 → (putRow os (k * 16) vs)[k * 16 + j]? = vs[j]? := fun j hj => putRow_in vs os (k * 16) j (by omega) (by omega)
  refine ⟨h.bel.trans ((hk3.trans hkk).below h.bel.size hw (by omega)), ⟨ys, (a1.below hb3 a1.lt).setsOther (by omega) vs _, a2, a3⟩, ⟨_, (o1.below hb3 o1.lt).sets vs _, by rw [putRow_length]; exact o2, fun t ht => ?_⟩⟩
  by_cases e : t = k
  · subst e
    refine ⟨?_, ?_, ?_, ?_, ⟨a4, c4, ?_, (h4.mono (by omega)).keptTwo hkk (by omega) (by omega)⟩, ⟨a14, c14, ?_, h14⟩, ⟨a15, c15, ?_, h15⟩⟩
    all_goals (rw [hin _ (by omega), ← hvs]; rfl)
  · have ho := (o3 t (by omega)).kept (hk3.trans hkk) hlt
    have hout : ∀ j, j < 16 → (putRow os (k * 16) vs)[t * 16 + j]? = os[t * 16 + j]? := fun j hj => putRow_out vs os (k * 16) _ (by omega)
    obtain ⟨fa, fc, f1, f2⟩ := ho.fol
    obtain ⟨wa, wc, w1, w2⟩ := ho.fwd
    obtain ⟨ba, bc, b1, b2⟩ := ho.bck
    exact ⟨(hout _ (by omega)).trans ho.pred, (hout _ (by omega)).trans ho.succ, (hout _ (by omega)).trans ho.nop, (hout _ (by omega)).trans ho.quiet, ⟨fa, fc, (hout _ (by omega)).trans f1, f2⟩, ⟨wa, wc, (hout _ (by omega)).trans w1, w2⟩, ⟨ba, bc, (hout _ (by omega)).trans b1, b2⟩⟩

end Go.Proofs.Qxb6600017a
