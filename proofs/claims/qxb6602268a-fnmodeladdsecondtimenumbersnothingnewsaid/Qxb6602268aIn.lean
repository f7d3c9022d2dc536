/-
  Seat b6602268a: the arguments that came in, as the walks want them.
-/
import Derived.Test.Qxb6602268aTxn
import Derived.ProofKit
import Derived.ShutString
import Derived.ChangeOld
import Derived.SliceStrings
import Derived.Deep.Slices
namespace Go.Proofs.Qxb6602268a
open Go.ChangeShapes Go.WideShapes Go.ChangeAt Go.RowKit

theorem own : ownKnob Try.prog.godebug = none := by kernel_rfl
theorem laidOut : laidOutB Try.prog = true := by kernel_rfl

theorem strs_in {H : Type} {enc : TypeId × Value → H} {W : World} {base : Nat} {v : Value} {d : DataW H} {p : List MemPlace} (hv : Value.okWide Try.prog W .any base 40 v)
    (h : DataW.Trod enc Try.prog W 0 (fun _ => true) true 40 v d p) :
    ∃ (a : Option Addr) (n c : Nat) (ss : Nat → ByteArray), v = .slice a n c ∧ n ≤ 9223372036854775807 ∧ (∀ i, (ss i).size ≤ 9223372036854775807) ∧ Row W a n fun i => .string (ss i) := by
  obtain ⟨a0, len, cap, rfl⟩ := okWide_slice Try.underlying40 hv
  obtain ⟨fuel, hf⟩ := h
  rcases open_strings Try.underlying40 Try.underlying9 (by kernel_rfl) hf with ⟨hcs, hx⟩ | ⟨a, len', cap', ss, hcs, _, hl, hm, hz, hx, hcell, hws⟩
  · simp [Value.cells] at hcs
    obtain ⟨rfl, rfl, rfl⟩ := hcs
    exact ⟨_, _, _, fun _ => ByteArray.empty, rfl, by omega, fun _ => by simp, .inl rfl⟩
  · simp [Value.cells] at hcs
    obtain ⟨rfl, rfl, rfl⟩ := hcs
    simp only [if_true] at hz
    unfold maxLen at hm hws
    refine ⟨_, _, _, fun i => ss.getD i ByteArray.empty, rfl, by omega, fun i => ?_, ?_⟩
    · by_cases hi : i < ss.length
      · have := hws ss[i] (List.getElem_mem hi)
        simp [hi]; omega
      · simp [hi]
    · by_cases h0 : len = 0
      · exact .inl h0
      · obtain ⟨b, off, spot⟩ := a
        have hspot : spot = none := by simpa [Addr.add] using World.cell?_spot (hcell 0 (by omega))
        subst hspot
        refine .inr ⟨b, off, rfl, fun i hi => ?_⟩
        rw [← add_plain]; exact hcell i (by omega)

/-- The address that a pointer's value holds. -/
def ptrOf : Value → Option Addr
  | .pointer p => p
  | _ => none

theorem ptr_in {H : Type} {enc : TypeId × Value → H} {W : World} {n : Nat} {v : Value} {y : DataW H × List MemPlace} (h : DataW.trod enc Try.prog W 0 (fun _ => true) true n 81 [v] = some y) :
    v = .pointer (ptrOf v) ∧ GoodP W (ptrOf v) := by
  rcases DataW.trod_pointer Try.underlying81 h with ⟨h0, _⟩ | ⟨a, cs, z, m, _, h0, _, hcells, hy⟩
  · simp at h0
    subst h0
    exact ⟨rfl, .inl rfl⟩
  · simp at h0
    subst h0
    obtain ⟨s, rfl, _, hs⟩ := DataW.trod_string Try.underlying9 hy
    obtain ⟨_, hlen, hcell⟩ := World.cells?_some hcells
    have h1 : W.cell? (a.add 0) = some (.string s) := hcell 0 (by rw [← hlen]; simp)
    obtain ⟨b, off, spot⟩ := a
    have hspot : spot = none := by simpa [Addr.add] using World.cell?_spot h1
    subst hspot
    rw [add_plain] at h1
    exact ⟨rfl, .inr ⟨_, s, rfl, h1, hs⟩⟩

theorem ptrs_in {H : Type} {enc : TypeId × Value → H} {W : World} {base : Nat} {v : Value} {d : DataW H} {p : List MemPlace} (hv : Value.okWide Try.prog W .any base 41 v)
    (h : DataW.Trod enc Try.prog W 0 (fun _ => true) true 41 v d p) :
    ∃ (a : Option Addr) (n c : Nat) (ps : Nat → Option Addr), v = .slice a n c ∧ n ≤ 9223372036854775807 ∧ (∀ i, i < n → GoodP W (ps i)) ∧ Row W a n fun i => .pointer (ps i) := by
  obtain ⟨a0, len, cap, rfl⟩ := okWide_slice Try.underlying41 hv
  obtain ⟨fuel, hf⟩ := h
  rcases Deep.open_slice1 Try.underlying41 (by kernel_rfl) hf with ⟨hcs, hx⟩ | ⟨a, len', cap', m, n, V, D, Pl, hcs, _, hl, hm, hz, hx, hel⟩
  · simp [Value.cells] at hcs
    obtain ⟨rfl, rfl, rfl⟩ := hcs
    exact ⟨_, _, _, fun _ => none, rfl, by omega, fun i hi => by omega, .inl rfl⟩
  · simp [Value.cells] at hcs
    obtain ⟨rfl, rfl, rfl⟩ := hcs
    simp only [if_true] at hz
    unfold maxLen at hm
    refine ⟨_, _, _, fun i => ptrOf (V i), rfl, by omega, fun i hi => (ptr_in (hel i (by omega)).2).2, ?_⟩
    by_cases h0 : len = 0
    · exact .inl h0
    · obtain ⟨b, off, spot⟩ := a
      have hspot : spot = none := by simpa [Addr.add] using World.cell?_spot (hel 0 (by omega)).1
      subst hspot
      refine .inr ⟨b, off, rfl, fun i hi => ?_⟩
      have := hel i (by omega)
      show W.cell? ⟨b, off + i, none⟩ = some (.pointer (ptrOf (V i)))
      rw [← (ptr_in this.2).1, ← add_plain]; exact this.1

theorem trod_lts {H : Type} {enc : TypeId × Value → H} {W : World} {v : Value} {d : DataW H} {p : List MemPlace} {t : TypeId} (k : DataW.Trod enc Try.prog W 0 (fun _ => true) true t v d p) : ∀ x ∈ p, x.block < W.heap.size := by
  obtain ⟨m, hm⟩ := k; exact DataW.trod_lt m _ _ _ hm
end Go.Proofs.Qxb6602268a
