/-
  Seat b6600017a: a slice of tables that came in, as the walks want it.
-/
import Derived.Test.Qxb6600017aBase
import Derived.ProofKit
import Derived.OpenShut
import Derived.ChangeOld
import Derived.Deep.Slices
namespace Go.Proofs.Qxb6600017a
open Go.ChangeShapes Go.WideShapes Go.ChangeAt Go.RowKit

theorem own : ownKnob Try.prog.godebug = none := by kernel_rfl
theorem laidOut : laidOutB Try.prog = true := by kernel_rfl
theorem cells33 : Try.prog.cellsOf 33 = 7 := by kernel_rfl
theorem cells21 : Try.prog.cellsOf 21 = 1 := by kernel_rfl
theorem cells4 : Try.prog.cellsOf 4 = 1 := by kernel_rfl
theorem cells30 : Try.prog.cellsOf 30 = 1 := by kernel_rfl
theorem cells31 : Try.prog.cellsOf 31 = 1 := by kernel_rfl
theorem cells81 : Try.prog.cellsOf 81 = 2 := by kernel_rfl

section
variable {H : Type} {enc : TypeId × Value → H} {w : World} {sp : Nat → Bool} {held : Bool} {fuel : Nat}

theorem choose_from {α : Type} (d : α) {n : Nat} {p : Nat → α → Prop} (h : ∀ i, i < n → ∃ x, p i x) : ∃ f : Nat → α, ∀ i, i < n → p i (f i) := by
  classical
  refine ⟨fun i => if hi : i < n then Classical.choose (h i hi) else d, fun i hi => ?_⟩
  simp only [dif_pos hi]
  exact Classical.choose_spec (h i hi)

theorem fol_in {c : Value} {y : DataW H × List MemPlace} (h : DataW.trod enc Try.prog w 0 sp held fuel 30 [c] = some y) :
    ∃ (a : Option Addr) (n cp : Nat) (f : Nat → Int), c = .slice a n cp ∧ n ≤ 9223372036854775807 ∧ Row w a n fun i => .int .i32 (f i) := by
  rcases open_ints Try.underlying30 Try.underlying21 cells21 h with ⟨hcs, _⟩ | ⟨a, len, cap, zs, hcs, _, hl, hm, hz, _, hcell, _⟩
  · simp at hcs
    exact ⟨none, 0, 0, fun _ => 0, hcs, by omega, .inl rfl⟩
  · simp at hcs
    unfold maxLen at hm
    refine ⟨some a, len, cap, fun i => zs.getD i 0, hcs, by omega, ?_⟩
    have hzl : len ≤ zs.length := by rw [hz]; split <;> omega
    by_cases h0 : len = 0
    · exact .inl h0
    · obtain ⟨b, off, spot⟩ := a
      have hspot : spot = none := by simpa [Addr.add] using World.cell?_spot (hcell 0 (by omega))
      subst hspot
      exact .inr ⟨b, off, rfl, fun i hi => by rw [← add_plain]; exact hcell i (by omega)⟩

theorem fing_in {c : Value} {y : DataW H × List MemPlace} (h : DataW.trod enc Try.prog w 0 sp held fuel 31 [c] = some y) :
    ∃ (a : Option Addr) (n cp : Nat) (f : Nat → Int × Bool), c = .slice a n cp ∧ n ≤ 9223372036854775807 ∧ Row2 w a n f := by
  rcases Deep.open_slice Try.underlying31 h with ⟨hcs, _⟩ | ⟨a, len, cap, m, n, D, Pl, hcs, _, hl, hm, hmm, _, hx⟩
  · simp at hcs
    exact ⟨none, 0, 0, fun _ => (0, false), hcs, by omega, .inl rfl⟩
  · simp at hcs
    unfold maxLen at hm
    have hlm : len ≤ m := by rw [hmm]; split <;> omega
    have each : ∀ i, i < len → ∃ f : Int × Bool, w.cell? (a.add (i * 2)) = some (.int .i32 f.1) ∧ w.cell? ((a.add (i * 2)).add 1) = some (.bool f.2) := by
      intro i hi
      obtain ⟨cs', h1, h2⟩ := hx i (by omega)
      rw [cells81] at h1
      obtain ⟨_, hlen, hc⟩ := World.cells?_some h1
      match cs', hlen with
      | [v0, v1], _ =>
        obtain ⟨y0, y1, n', _, _, hy0, hy1⟩ := trod_struct2 Try.underlying81 h2
        simp [cells21, cells4] at hy0 hy1
        obtain ⟨z, e0, _, _⟩ := DataW.trod_int Try.underlying21 hy0
        obtain ⟨b, e1, _⟩ := DataW.trod_bool Try.underlying4 hy1
        simp at e0 e1
        have c0 := hc 0 (by omega)
        have c1 := hc 1 (by omega)
        simp [e0, e1] at c0 c1
        refine ⟨(z, b), ?_, c1⟩
        have e : (a.add (i * 2)).add 0 = a.add (i * 2) := by unfold Addr.add; split <;> simp_all
        rw [← e]; exact c0
    obtain ⟨f, hf⟩ := choose_from (0, false) each
    refine ⟨some a, len, cap, f, hcs, by omega, ?_⟩
    by_cases h0 : len = 0
    · exact .inl h0
    · obtain ⟨b, off, spot⟩ := a
      have hspot : spot = none := by simpa [Addr.add] using World.cell?_spot (hf 0 (by omega)).1
      subst hspot
      refine .inr ⟨b, off, rfl, fun i hi => ?_⟩
      have := hf i hi
      rw [add_plain, add_plain] at this
      exact this

theorem tab_in {cs : List Value} {y : DataW H × List MemPlace} (h : DataW.trod enc Try.prog w 0 sp held fuel 33 cs = some y) :
    ∃ x : Tab, x.In w ∧ cs = [.int .i32 x.pred, .int .i32 x.succ, .bool x.nop, .bool x.quiet, .slice x.fa x.fn x.fc, .slice x.wa x.wn x.wc, .slice x.ba x.bn x.bc] := by
  obtain ⟨xs, n, _, _, hl, hlen, hf⟩ := DataW.trod_struct Try.underlying33 h
  rw [cells33] at hl
  match cs, hl with
  | [v0, v1, v2, v3, v4, v5, v6], _ =>
    match xs, hlen with
    | [y0, y1, y2, y3, y4, y5, y6], _ =>
      have f0 := hf 0 _ rfl
      have f1 := hf 1 _ rfl
      have f2 := hf 2 _ rfl
      have f3 := hf 3 _ rfl
      have f4 := hf 4 _ rfl
      have f5 := hf 5 _ rfl
      have f6 := hf 6 _ rfl
      simp [cells21, cells4, cells30, cells31] at f0 f1 f2 f3 f4 f5 f6
      obtain ⟨p, e0, _, _⟩ := DataW.trod_int Try.underlying21 f0
      obtain ⟨q, e1, _, _⟩ := DataW.trod_int Try.underlying21 f1
      obtain ⟨r, e2, _⟩ := DataW.trod_bool Try.underlying4 f2
      obtain ⟨s, e3, _⟩ := DataW.trod_bool Try.underlying4 f3
      obtain ⟨fa, fn, fc, fol, e4, l4, r4⟩ := fol_in f4
      obtain ⟨wa, wn, wc, fwd, e5, l5, r5⟩ := fing_in f5
      obtain ⟨ba, bn, bc, bck, e6, l6, r6⟩ := fing_in f6
      simp at e0 e1 e2 e3
      subst e0 e1 e2 e3 e4 e5 e6
      exact ⟨⟨p, q, r, s, fa, fn, fc, fol, wa, wn, wc, fwd, ba, bn, bc, bck⟩, ⟨r4, r5, r6, l4, l5, l6⟩, rfl⟩

theorem tabs_in {base : Nat} {v : Value} {d : DataW H} {p : List MemPlace} (hv : Value.okWide Try.prog w .any base 22 v) (h : DataW.Trod enc Try.prog w 0 sp held 22 v d p) :
    ∃ (a : Option Addr) (n c : Nat) (x : Nat → Tab), v = .slice a n c ∧ n ≤ 9223372036854775807 ∧ Tabs w a n x := by
  obtain ⟨a0, len0, cap0, rfl⟩ := okWide_slice Try.underlying22 hv
  obtain ⟨fuel, hf⟩ := h
  have tab0 : Tab := ⟨0, 0, false, false, none, 0, 0, fun _ => 0, none, 0, 0, fun _ => (0, false), none, 0, 0, fun _ => (0, false)⟩
  rcases Deep.open_slice Try.underlying22 hf with ⟨hcs, _⟩ | ⟨a, len, cap, m, n, D, Pl, hcs, _, hl, hm, hmm, _, hx⟩
  · simp [Value.cells] at hcs
    obtain ⟨rfl, rfl, rfl⟩ := hcs
    exact ⟨none, 0, 0, fun _ => tab0, rfl, by omega, .inl rfl, fun i hi => by omega⟩
  · simp [Value.cells] at hcs
    obtain ⟨rfl, rfl, rfl⟩ := hcs
    unfold maxLen at hm
    have hlm : len0 ≤ m := by rw [hmm]; split <;> omega
    have each : ∀ i, i < len0 → ∃ x : Tab, x.In w ∧ ∀ j, j < 7 → w.cell? ((a.add (i * 7)).add j) = [Value.int .i32 x.pred, .int .i32 x.succ, .bool x.nop, .bool x.quiet, .slice x.fa x.fn x.fc, .slice x.wa x.wn x.wc, .slice x.ba x.bn x.bc][j]? := by
      intro i hi
      obtain ⟨cs', h1, h2⟩ := hx i (by omega)
      rw [cells33] at h1
      obtain ⟨_, _, hc⟩ := World.cells?_some h1
      obtain ⟨x, hin, rfl⟩ := tab_in h2
      exact ⟨x, hin, hc⟩
    obtain ⟨x, hxs⟩ := choose_from tab0 each
    refine ⟨some a, len0, cap0, x, rfl, by omega, ?_, fun i hi => (hxs i hi).1⟩
    by_cases h0 : len0 = 0
    · exact .inl h0
    · obtain ⟨b, off, spot⟩ := a
      have hspot : spot = none := by
        have h00 : w.cell? ((Addr.add ⟨b, off, spot⟩ (0 * 7)).add 0) = some _ := (hxs 0 (by omega)).2 0 (by omega)
        simpa [Addr.add] using World.cell?_spot h00
      subst hspot
      refine .inr ⟨b, off, rfl, fun i hi => ?_⟩
      have hc := (hxs i hi).2
      have e : ∀ j, ((⟨b, off, none⟩ : Addr).add (i * 7)).add j = ⟨b, off + i * 7 + j, none⟩ := fun j => by rw [add_plain, add_plain]
      exact ⟨(e 0) ▸ hc 0 (by omega), (e 1) ▸ hc 1 (by omega), (e 2) ▸ hc 2 (by omega), (e 3) ▸ hc 3 (by omega), (e 4) ▸ hc 4 (by omega), (e 5) ▸ hc 5 (by omega), (e 6) ▸ hc 6 (by omega)⟩

theorem trod_lts {v : Value} {d : DataW H} {p : List MemPlace} {t : TypeId} (k : DataW.Trod enc Try.prog w 0 sp held t v d p) : ∀ x ∈ p, x.block < w.heap.size := by
  obtain ⟨m, hm⟩ := k; exact DataW.trod_lt m _ _ _ hm
end
end Go.Proofs.Qxb6600017a
