/-
  Seat b6600017a: what lies in memory behind the emptying, of every other table.
-/
import Derived.Test.Qxb6600017aTable
import Derived.Test.Qxb6600017aEmpty
namespace Go.Proofs.Qxb6600017a
open Go.RowKit

/-- Table t of the row 'out', ready to be read: its sixteen cells, and what its slices lead to. -/
def Ready (x : Nat → Tab) (go t : Nat) (w : World) : Prop :=
  ∃ (u0 u1 u2 u3 u4 u5 u7 u8 u9 : Value) (a13 a14 a15 : Option Addr) (c13 c14 c15 : Nat),
    (w.cell? ⟨go, t * 16, none⟩ = some u0 ∧ w.cell? ⟨go, t * 16 + 1, none⟩ = some u1 ∧ w.cell? ⟨go, t * 16 + 2, none⟩ = some u2 ∧ w.cell? ⟨go, t * 16 + 3, none⟩ = some u3 ∧ w.cell? ⟨go, t * 16 + 4, none⟩ = some u4 ∧ w.cell? ⟨go, t * 16 + 5, none⟩ = some u5 ∧ w.cell? ⟨go, t * 16 + 6, none⟩ = some (.int .i32 (x t).pred) ∧ w.cell? ⟨go, t * 16 + 7, none⟩ = some u7 ∧ w.cell? ⟨go, t * 16 + 8, none⟩ = some u8 ∧ w.cell? ⟨go, t * 16 + 9, none⟩ = some u9 ∧ w.cell? ⟨go, t * 16 + 10, none⟩ = some (.int .i32 (x t).succ) ∧ w.cell? ⟨go, t * 16 + 11, none⟩ = some (.bool (x t).nop) ∧ w.cell? ⟨go, t * 16 + 12, none⟩ = some (.bool (x t).quiet) ∧ w.cell? ⟨go, t * 16 + 13, none⟩ = some (.slice a13 (x t).fn c13) ∧ w.cell? ⟨go, t * 16 + 14, none⟩ = some (.slice a14 (x t).wn c14) ∧ w.cell? ⟨go, t * 16 + 15, none⟩ = some (.slice a15 (x t).bn c15)) ∧ Row4 (go + 1) w a13 (x t).fn (x t).fol ∧ Row5 w a14 (x t).wn (x t).fwd ∧ Row5 w a15 (x t).bn (x t).bck

theorem row5_of {ga : Nat} {w : World} {ys : List Value} {p cnt : Nat} {f : Nat → Int × Bool} {a : Option Addr} (hw : Own w ga 70 ys) (ha : cnt = 0 ∨ a = some ⟨ga, p * 5, none⟩)
    (hc : ∀ i, i < cnt → ys[(p + i) * 5 + 3]? = some (.int .i32 (f i).1) ∧ ys[(p + i) * 5 + 4]? = some (.bool (f i).2)) : Row5 w a cnt f := by
  rcases ha with h | h
  · exact .inl h
  · refine .inr ⟨ga, p * 5, h, fun i hi => ?_⟩
    rw [hw.cell, hw.cell]
    have := hc i hi
    rw [show p * 5 + i * 5 + 3 = (p + i) * 5 + 3 from by omega, show p * 5 + i * 5 + 4 = (p + i) * 5 + 4 from by omega]
    exact this

theorem ready {x : Nat → Tab} {n ga go k : Nat} {w w' : World} (hlt : ga < go) (ys os : List Value) (hok : ArrOK x n ys (offs x n))
    (ho3 : ∀ t, t < n → OutOK x ga go w os t) (hol : os.length = n * 16) (hem : Emptied ga go k (x k).wn (x k).bn (offs x k * 5) ((offs x k + (x k).wn) * 5) ys os w w') (t : Nat) (ht : t < n) (htk : t ≠ k) : Ready x go t w' := by
  obtain ⟨zs1, zs2, l1, l2, hA, hO, hK⟩ := hem
  have hoo := (ho3 t ht).kept hK hlt
  have hos' : ∀ j, j < 16 → (os.set (k * 16 + 13) (Value.slice none 0 0))[t * 16 + j]? = os[t * 16 + j]? := fun j hj => by
    rw [List.getElem?_set, if_neg (by omega)]
  have hcell : ∀ j, j < 16 → w'.cell? ⟨go, t * 16 + j, none⟩ = os[t * 16 + j]? := fun j hj => (hO.cell _).trans (hos' j hj)
  have hex : ∀ j, j < 16 → ∃ v, w'.cell? ⟨go, t * 16 + j, none⟩ = some v := fun j hj => ⟨os[t * 16 + j]'(by omega), by rw [hcell j hj]; simp⟩
  have harr : ∀ q, q < offs x n → (q < offs x k ∨ offs x (k + 1) ≤ q) → (putRow (putRow ys (offs x k * 5) zs1) ((offs x k + (x k).wn) * 5) zs2)[q * 5 + 3]? = some (.int .i32 (G x n q).1) ∧ (putRow (putRow ys (offs x k * 5) zs1) ((offs x k + (x k).wn) * 5) zs2)[q * 5 + 4]? = some (.bool (G x n q).2) := by
    intro q hq ho
    simp only [offs] at ho
    rw [putRow_out zs2 _ _ _ (by omega), putRow_out zs1 _ _ _ (by omega), putRow_out zs2 _ _ _ (by omega), putRow_out zs1 _ _ _ (by omega)]
    exact hok q hq
  have hin : ∀ q, offs x t ≤ q → q < offs x (t + 1) → q < offs x n ∧ (q < offs x k ∨ offs x (k + 1) ≤ q) := fun q h1 h2 =>
    ⟨by have := offs_mono x (show t + 1 ≤ n from ht); omega, offs_apart x htk h1 h2⟩
  have hsucc : offs x (t + 1) = offs x t + ((x t).wn + (x t).bn) := rfl
  obtain ⟨u0, e0⟩ := hex 0 (by omega)
  obtain ⟨u1, e1⟩ := hex 1 (by omega)
  obtain ⟨u2, e2⟩ := hex 2 (by omega)
  obtain ⟨u3, e3⟩ := hex 3 (by omega)
  obtain ⟨u4, e4⟩ := hex 4 (by omega)
  obtain ⟨u5, e5⟩ := hex 5 (by omega)
  obtain ⟨u7, e7⟩ := hex 7 (by omega)
  obtain ⟨u8, e8⟩ := hex 8 (by omega)
  obtain ⟨u9, e9⟩ := hex 9 (by omega)
  obtain ⟨a13, c13, p1, p2⟩ := hoo.fol
  obtain ⟨a14, c14, q1, q2⟩ := hoo.fwd
  obtain ⟨a15, c15, r1, r2⟩ := hoo.bck
  refine ⟨u0, u1, u2, u3, u4, u5, u7, u8, u9, a13, a14, a15, c13, c14, c15, ⟨e0, e1, e2, e3, e4, e5, (hcell 6 (by omega)).trans hoo.pred, e7, e8, e9, (hcell 10 (by omega)).trans hoo.succ, (hcell 11 (by omega)).trans hoo.nop, (hcell 12 (by omega)).trans hoo.quiet, (hcell 13 (by omega)).trans p1, (hcell 14 (by omega)).trans q1, (hcell 15 (by omega)).trans r1⟩, p2, ?_, ?_⟩
  · refine row5_of hA q2 fun i hi => ?_
    have h := hin (offs x t + i) (by omega) (by omega)
    have := harr _ h.1 h.2
    rw [G_fwd x ht hi] at this
    exact this
  · refine row5_of hA r2 fun i hi => ?_
    have h := hin (offs x t + (x t).wn + i) (by omega) (by omega)
    have := harr _ h.1 h.2
    rw [G_bck x ht hi] at this
    exact this

theorem Ready.later {x : Nat → Tab} {go t : Nat} {w w' : World} (h : Ready x go t w) (hb : Below w.heap.size w w') : Ready x go t w' := by
  obtain ⟨u0, u1, u2, u3, u4, u5, u7, u8, u9, a13, a14, a15, c13, c14, c15, ⟨e0, e1, e2, e3, e4, e5, e6, e7, e8, e9, e10, e11, e12, e13, e14, e15⟩, h1, h2, h3⟩ := h
  have hgo : go < w.heap.size := World.block_lt_of_cell? w _ e0
  have e : ∀ j, w'.cell? ⟨go, j, none⟩ = w.cell? ⟨go, j, none⟩ := fun j => hb.cell (p := ⟨go, j, none⟩) hgo
  exact ⟨u0, u1, u2, u3, u4, u5, u7, u8, u9, a13, a14, a15, c13, c14, c15, ⟨(e _).trans e0, (e _).trans e1, (e _).trans e2, (e _).trans e3, (e _).trans e4, (e _).trans e5, (e _).trans e6, (e _).trans e7, (e _).trans e8, (e _).trans e9, (e _).trans e10, (e _).trans e11, (e _).trans e12, (e _).trans e13, (e _).trans e14, (e _).trans e15⟩, h1.later hb, h2.later hb, h3.later hb⟩

end Go.Proofs.Qxb6600017a
