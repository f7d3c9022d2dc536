/-
  Seat b6602268a: zzUnpack: the keys' and the values' numbers apart.
-/
import Derived.Test.Qxb6602268aAdd
namespace Go.Proofs.Qxb6602268a
open Go.RowKit Go.Maps

theorem info21 : (Try.prog.info? 21).map (fun i => (i.zero, i.size, i.bytes)) = some (some (.int .i32 0), 1, 4) := by kernel_rfl

/-- A new row of int32, n of them, of which the first k are f. -/
def Half (w : World) (g n k : Nat) (f : Nat → Int) : Prop := ∃ cs, Own w g 21 cs ∧ cs.length = n ∧ ∀ i, i < k → cs[i]? = some (.int .i32 (f i))
theorem Half.set {w : World} {g n k : Nat} {f : Nat → Int} (h : Half w g n k f) (hk : k < n) : Half (w.setCell ⟨g, k, none⟩ (.int .i32 (f k))) g n (k + 1) f := by
  obtain ⟨cs, h1, h2, h3⟩ := h
  refine ⟨cs.set k (.int .i32 (f k)), h1.set k _, by simpa using h2, fun i hi => ?_⟩
  rw [List.getElem?_set]
  by_cases h : k = i
  · subst h; simp; omega
  · rw [if_neg h]; exact h3 i (by omega)
theorem Half.setOther {w : World} {g n k : Nat} {f : Nat → Int} (h : Half w g n k f) {p : Addr} (hp : g ≠ p.block) (u : Value) : Half (w.setCell p u) g n k f := by
  obtain ⟨cs, h1, h2, h3⟩ := h
  exact ⟨cs, h1.setOther hp u, h2, h3⟩
theorem Half.row {w : World} {g n : Nat} {f : Nat → Int} (h : Half w g n n f) : Row w (some ⟨g, 0, none⟩) n fun i => .int .i32 (f i) := by
  obtain ⟨cs, h1, h2, h3⟩ := h
  exact .inr ⟨g, 0, rfl, fun i hi => by simpa using (h1.cell i).trans (h3 i hi)⟩

theorem Half.open {w : World} {g n k j : Nat} {f : Nat → Int} (h : Half w g n k f) (hj : j < n) : ∃ u, w.cell? ⟨g, j, none⟩ = some u ∧ w.frozen? ⟨g, j, none⟩ = false := by
  obtain ⟨cs, h1, h2, h3⟩ := h
  exact ⟨cs[j], (h1.cell j).trans (List.getElem?_eq_getElem (by omega)), h1.frozen j⟩

/-- The pair at i. -/
def at2 (l : List (Int × Int)) (i : Nat) : Int × Int := l.getD i (0, 0)

theorem cells2_at {l : List (Int × Int)} : ∀ {i : Nat}, i < l.length → (cells2 l)[i * 2]? = some (.int .i32 (at2 l i).1) ∧ (cells2 l)[i * 2 + 1]? = some (.int .i32 (at2 l i).2) := by
  induction l with
  | nil => intro i h; simp at h
  | cons p l ih =>
    intro i h
    cases i with
    | zero => simp [cells2, at2]
    | succ i =>
      have h' := ih (i := i) (by simpa using h)
      have e1 : (i + 1) * 2 = i * 2 + 1 + 1 := by omega
      constructor
      · rw [e1]; simpa [cells2, at2] using h'.1
      · rw [e1]; simpa [cells2, at2] using h'.2

set_option maxHeartbeats 1000000 in
set_option maxRecDepth 100000 in
theorem unpack43 (B : Nat) (v : Value) (l : List (Int × Int)) (w : World) (hl : l.length ≤ 1048576) (hrow : w.ownsRow B 91 2 v l.length (cells2 l)) :
    Calls Try.prog 43 #[v] w fun e w' => ∃ a1 a2, e = .returned (.tuple #[.slice a1 l.length l.length, .slice a2 l.length l.length]) ∧ Row w' a1 l.length (fun i => .int .i32 (at2 l i).1) ∧ Row w' a2 l.length (fun i => .int .i32 (at2 l i).2) ∧ Below w.heap.size w w' := by
  obtain ⟨i2, hi, hz0, hz1, hz2⟩ := info_parts info21
  obtain ⟨a, cp, rfl⟩ := ownsRow_shape hrow
  have HR : Hid (w.ownsRow B 91 2 (.slice a l.length cp) l.length (cells2 l)) := hrow
  clear hrow
  generalize hn : l.length = n at *
  go_enter Try.func43, Try.ntmps43
  go_wp2_with (first
    | (at_make; refine wpList_make_cells _ rfl _ _ 24 rfl 21 i2 _ 1 4 Try.underlying24 hi hz0 hz1 hz2 _ _ _ _ n rfl rfl rfl rfl (by omega) (by omega) ?_; intro w1 cs1 ho1 hc1 hb1 hs1))
  rename_i wa csa hoa hca hba hsa Kx hKx
  have hg2 : wa.heap.size = w.heap.size + 1 := hsa
  have hH1 : Half w1 w.heap.size n 0 (fun i => (at2 l i).1) := ⟨csa, hoa.below hb1 (by omega), by omega, fun i hi => by omega⟩
  have hH2 : Half w1 (w.heap.size + 1) n 0 (fun i => (at2 l i).2) := ⟨cs1, by rw [← hg2]; exact ho1, by omega, fun i hi => by omega⟩
  have hbW : Below w.heap.size w w1 := hba.trans (hb1.mono hba.size)
  clear hsa hs1 hca hc1 hoa ho1 hba hb1
  clear hg2
  go_loopw [6] (fun i wr => ∃ k : Nat, k ≤ n ∧ i = .int .i64 k ∧ Half wr w.heap.size n k (fun i => (at2 l i).1) ∧ Half wr (w.heap.size + 1) n k (fun i => (at2 l i).2) ∧ Below w.heap.size w wr) (fun i _ => n - (intOf i).toNat)
  case atStart => exact ⟨0, Nat.zero_le _, rfl, hH1, hH2, hbW⟩
  case round =>
    clear hH1 hH2 hbW
    obtain ⟨k, hk, rfl, hA, hB, hbel⟩ := hrel
    by_cases hlt : k < n
    · rcases HR.out.2 with ⟨_, h0⟩ | ⟨g, cap, cur, hv, _⟩
      · omega
      cases hv
      have hc2 := cells2_at (l := l) (i := k) (by omega)
      have e1 : wr.cell? ⟨g, k * 2, none⟩ = some (.int .i32 (at2 l k).1) := Below.cellA hbel ((HR.out.cellAt (k * 2) (by omega)).trans hc2.1)
      have e2 : wr.cell? ⟨g, k * 2 + 1, none⟩ = some (.int .i32 (at2 l k).2) := Below.cellA hbel ((HR.out.cellAt (k * 2 + 1) (by omega)).trans hc2.2)
      have hgl : g < w.heap.size := (HR.out.lt g rfl).2
      obtain ⟨u1, p1, f1⟩ := hA.open hlt
      obtain ⟨u2, p2, f2⟩ := hB.open hlt
      clear hc2
      have hg0 : g ≠ w.heap.size := by omega
      go_wp2
      go_roundw
      case rel =>
        refine ⟨k + 1, by omega, by go_num, ?_, ?_, ?_⟩
        · exact (hA.set hlt).setOther (p := ⟨_, _, _⟩) (by simp) _
        · exact (hB.setOther (p := ⟨_, _, _⟩) (by simp) _).set hlt
        · exact (hbel.setCell (p := ⟨w.heap.size, k, none⟩) (Nat.le_refl _) _).setCell (p := ⟨w.heap.size + 1, k, none⟩) (Nat.le_succ _) _
      case measure => simp [intOf]; omega
    · have hkn : k = n := by omega
      subst hkn
      go_wp2
      go_ret2
      exact ⟨_, _, rfl, hA.row, hB.row, hbel⟩
end Go.Proofs.Qxb6602268a
