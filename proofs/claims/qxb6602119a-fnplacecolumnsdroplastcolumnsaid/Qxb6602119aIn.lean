/-
  Seat b6602119a: a slice of strings that came in, as the walks want it.
-/
import Derived.Test.Qxb6602119aBase
import Derived.ProofKit
import Derived.ShutString
import Derived.ChangeOld
import Derived.SliceStrings
namespace Go.Proofs.Qxb6602119a
open Go.ChangeShapes Go.WideShapes Go.ChangeAt Go.RowKit

theorem own : ownKnob Try.prog.godebug = none := by kernel_rfl
theorem laidOut : laidOutB Try.prog = true := by kernel_rfl

theorem strs_in {H : Type} {enc : TypeId × Value → H} {W : World} {base : Nat} {v : Value} {d : DataW H} {p : List MemPlace} (hv : Value.okWide Try.prog W .any base 22 v)
    (h : DataW.Trod enc Try.prog W 0 (fun _ => true) true 22 v d p) :
    ∃ (a : Option Addr) (n c : Nat) (ss : Nat → ByteArray), v = .slice a n c ∧ n ≤ 9223372036854775807 ∧ (∀ i, (ss i).size ≤ 9223372036854775807) ∧ Row W a n fun i => .string (ss i) := by
  obtain ⟨a0, len, cap, rfl⟩ := okWide_slice Try.underlying22 hv
  obtain ⟨fuel, hf⟩ := h
  rcases open_strings Try.underlying22 Try.underlying9 (by kernel_rfl) hf with ⟨hcs, hx⟩ | ⟨a, len', cap', ss, hcs, _, hl, hm, hz, hx, hcell, hws⟩
  · simp [Value.cells] at hcs
    obtain ⟨rfl, rfl, rfl⟩ := hcs
    exact ⟨_, _, _, fun _ => ByteArray.empty, rfl, by omega, fun _ => by simp, .inl rfl⟩
  · simp [Value.cells] at hcs
    obtain ⟨rfl, rfl, rfl⟩ := hcs
    simp only [if_true] at hz
    unfold maxLen at hm hws
    refine ⟨_, _, _, fun i => ss.getD i ByteArray.empty, rfl, by omega, fun i => ?_, ?_⟩
    · by_cases hi : i < ss.length
      · have := hws ss[i] (List.getElem_mem hi)
        simp [hi]; omega
      · simp [hi]
    · by_cases h0 : len = 0
      · exact .inl h0
      · obtain ⟨b, off, spot⟩ := a
        have hspot : spot = none := by simpa [Addr.add] using World.cell?_spot (hcell 0 (by omega))
        subst hspot
        refine .inr ⟨b, off, rfl, fun i hi => ?_⟩
        rw [← add_plain]; exact hcell i (by omega)

theorem trod_lts {H : Type} {enc : TypeId × Value → H} {W : World} {v : Value} {d : DataW H} {p : List MemPlace} {t : TypeId} (k : DataW.Trod enc Try.prog W 0 (fun _ => true) true t v d p) : ∀ x ∈ p, x.block < W.heap.size := by
  obtain ⟨m, hm⟩ := k; exact DataW.trod_lt m _ _ _ hm
end Go.Proofs.Qxb6602119a
