/-
  Seat b6000875a: the functions that make memory: zzCloneB1, zzFieldsB1.
-/
import Derived.Test.Qxb6000875aBytes
import Derived.Lib.SliceRun
namespace Go.Proofs.Qxb6000875a
open Go.RowKit

theorem get_set_step {α : Type} {cs : List α} {k n : Nat} {f : Nat → α} (hlen : cs.length = n) (hk : k < n) (h : ∀ i, i < k → cs[i]? = some (f i)) :
    ∀ i, i < k + 1 → (cs.set k (f k))[i]? = some (f i) := by
  intro i hi
  rw [List.getElem?_set]
  by_cases e : k = i
  · subst e; simp; omega
  · rw [if_neg e]; exact h i (by omega)

set_option maxHeartbeats 400000 in
theorem clone_pos (b off n c : Nat) (ss : Nat → ByteArray) (w : World) (hn : n ≤ 65536)
    (hc : ∀ i, i < n → w.cell? ⟨b, off + i, none⟩ = some (.string (ss i))) (hb : b < w.heap.size) :
    Calls Try.prog 11 #[.slice (some ⟨b, off, none⟩) n c] w fun e w' => ∃ a' c', e = .returned (.slice a' n c') ∧ Row w' a' n (fun i => .string (ss i)) ∧ Below w.heap.size w w' := by
  obtain ⟨i0, hi, hz0, hz1, hz2⟩ := info_parts info9
  have hnil := fun w a n c => Lib.run_eql_slice_nil (P := Try.prog) w 22 9 a n c 0 0 Try.underlying22
  go_enter Try.func11, Try.ntmps11
  go_wp2_with (at_make; refine wpList_make_one _ rfl _ _ 22 rfl 9 i0 (.string ⟨#[]⟩) 16 Try.underlying22 hi hz0 hz1 hz2 rfl _ _ _ _ n rfl rfl rfl rfl (by omega) (by omega) ?_; intro w1 hown1 hbel1 hsz1)
  clear hnil hi hz0 hz1 hz2
  go_loopw [4] (fun i wr => ∃ k : Nat, k ≤ n ∧ i = .int .i64 k ∧ ∃ cs, Own wr w.heap.size 9 cs ∧ cs.length = n ∧ (∀ i, i < k → cs[i]? = some (.string (ss i))) ∧ Below w.heap.size w wr) (fun i _ => n - (intOf i).toNat)
  case atStart => exact ⟨0, Nat.zero_le _, rfl, _, hown1, by simp, fun i hi => by omega, hbel1⟩
  case round =>
    obtain ⟨k, hk, rfl, cs, hown, hlen, hcs, hbel⟩ := hrel
    have hcx : k < n → wr.cell? ⟨b, off + k, none⟩ = some (.string (ss k)) := fun h => (hbel.cell (p := ⟨b, off + k, none⟩) hb).trans (hc k h)
    have hcg := hown.cell k
    have hfg := hown.frozen k
    clear hown1 hbel1 hsz1 hc
    go_wp2
    · have hlt : k < n := by assumption
      go_roundw
      case rel => exact ⟨k + 1, by omega, by go_num, _, hown.set k _, by simpa using hlen, get_set_step hlen hlt hcs, hbel.setCell (Nat.le_refl _) _⟩
      case measure => simp [intOf]; omega
    · have hge : ¬ k < n := by assumption
      go_ret
      exact ⟨_, _, rfl, hown.row _ _ fun i hi => hcs i (by omega), hbel⟩

set_option maxHeartbeats 400000 in
theorem clone_nil (c : Nat) (w : World) :
    Calls Try.prog 11 #[.slice none 0 c] w fun e w' => e = .returned (.slice none 0 0) ∧ w' = w := by
  have hnil := fun w a n c => Lib.run_eql_slice_nil (P := Try.prog) w 22 9 a n c 0 0 Try.underlying22
  go_enter Try.func11, Try.ntmps11
  go_wp2
  go_ret
  exact ⟨rfl, rfl⟩

set_option maxHeartbeats 400000 in
theorem clone_empty (x : Addr) (c : Nat) (w : World) :
    Calls Try.prog 11 #[.slice (some x) 0 c] w fun e w' => e = .returned (.slice (some ⟨w.heap.size, 0, none⟩) 0 0) ∧ Below w.heap.size w w' := by
  obtain ⟨i0, hi, hz0, hz1, hz2⟩ := info_parts info9
  have hnil := fun w a n c => Lib.run_eql_slice_nil (P := Try.prog) w 22 9 a n c 0 0 Try.underlying22
  go_enter Try.func11, Try.ntmps11
  go_wp2_with (at_make; refine wpList_make_one _ rfl _ _ 22 rfl 9 i0 (.string ⟨#[]⟩) 16 Try.underlying22 hi hz0 hz1 hz2 rfl _ _ _ _ 0 rfl rfl rfl rfl (by omega) (by omega) ?_; intro w1 hown1 hbel1 hsz1)
  clear hnil hi hz0 hz1 hz2
  refine wp_loop_rounds 1 ?_
  rw [rounds_succ]
  go_wp2
  go_ret
  exact ⟨rfl, hbel1⟩

/-- zzCloneB1. -/
theorem clone11 (a : Option Addr) (n c : Nat) (ss : Nat → ByteArray) (w : World) (hn : n ≤ 65536) (hr : Row w a n fun i => .string (ss i)) :
    Calls Try.prog 11 #[.slice a n c] w fun e w' => ∃ a' c', e = .returned (.slice a' n c') ∧ Row w' a' n (fun i => .string (ss i)) ∧ Below w.heap.size w w' := by
  by_cases h0 : n = 0
  · subst h0
    cases a with
    | none => exact (clone_nil c w).mono fun e w' ⟨he, hw⟩ => ⟨_, _, he, .inl rfl, hw ▸ Below.refl _ _⟩
    | some x => exact (clone_empty x c w).mono fun e w' ⟨he, hw⟩ => ⟨_, _, he, .inl rfl, hw⟩
  · rcases hr with h | ⟨b, off, rfl, hc⟩
    · exact absurd h h0
    · exact clone_pos b off n c ss w hn hc (World.block_lt_of_cell? w _ (hc 0 (by omega)))

/-- The pointer to the head of block p. -/
def ptr (p : Nat) : Value := .pointer (some ⟨p, 0, none⟩)

/-- The blocks ps are fields: each has a Type, a string. -/
def Flds (w : World) (B : Nat) (ps : List Nat) : Prop := ∀ p, p ∈ ps → B ≤ p ∧ ∃ t, w.cell? ⟨p, 1, none⟩ = some (.string t)

theorem set_ptrs (ps : List Nat) (n k p : Nat) (hlen : ps.length = k) (hk : k < n) (z : Value) :
    (ps.map ptr ++ List.replicate (n - k) z).set k (ptr p) = (ps ++ [p]).map ptr ++ List.replicate (n - (k + 1)) z := by
  obtain ⟨m, rfl⟩ : ∃ m, n = k + 1 + m := ⟨n - (k + 1), by omega⟩
  rw [show k + 1 + m - k = m + 1 from by omega, show k + 1 + m - (k + 1) = m from by omega, List.replicate_succ]
  rw [List.set_append_right _ _ (by simp [hlen])]
  simp [hlen]

theorem flds_step {w w' : World} {B : Nat} {ps : List Nat} {p : Nat} (h : Flds w B ps) (hb : Below w.heap.size w w' ∨ ∀ q, q ∈ ps → w'.cell? ⟨q, 1, none⟩ = w.cell? ⟨q, 1, none⟩) (hp : B ≤ p) (hc : ∃ t, w'.cell? ⟨p, 1, none⟩ = some (.string t)) : Flds w' B (ps ++ [p]) := by
  intro q hq
  rcases List.mem_append.1 hq with hq | hq
  · obtain ⟨h1, t, ht⟩ := h q hq
    refine ⟨h1, t, ?_⟩
    rcases hb with hb | hb
    · rw [hb.cell (p := ⟨q, 1, none⟩) (World.block_lt_of_cell? w _ ht)]; exact ht
    · rw [hb q hq]; exact ht
  · simp at hq; subst hq; exact ⟨hp, hc⟩

theorem fld_cell (w : World) (g k : Nat) (u : Value) (o : Obj) (q : Nat) (hq : g < q) (t : ByteArray) (h : w.cell? ⟨q, 1, none⟩ = some (.string t)) : ((w.setCell ⟨g, k, none⟩ u).alloc o).cell? ⟨q, 1, none⟩ = w.cell? ⟨q, 1, none⟩ := by
  have hlt := World.block_lt_of_cell? w _ h
  refine World.cell?_of_block (w := w) (a := ⟨q, 1, none⟩) ?_
  rw [Below.heap_alloc _ _ _ (by simpa [World.setCell] using hlt), Below.heap_setCell _ _ _ _ (by show q ≠ g; omega)]

set_option maxHeartbeats 400000 in
theorem fields_pos (b off n c : Nat) (ss : Nat → ByteArray) (w : World) (hn : n ≤ 65536)
    (hc : ∀ i, i < n → w.cell? ⟨b, off + i, none⟩ = some (.string (ss i))) (hb : b < w.heap.size) :
    Calls Try.prog 20 #[.slice (some ⟨b, off, none⟩) n c] w fun e w' => ∃ ps : List Nat, e = .returned (.slice (some ⟨w.heap.size, 0, none⟩) n n) ∧ Own w' w.heap.size 43 (ps.map ptr) ∧ ps.length = n ∧ Flds w' (w.heap.size + 1) ps ∧ Below w.heap.size w w' := by
  obtain ⟨i0, hi, hz0, hz1, hz2⟩ := info_parts info43
  go_enter Try.func20, Try.ntmps20
  go_wp2_with (at_make; refine wpList_make_one _ rfl _ _ 34 rfl 43 i0 (.pointer none) 8 Try.underlying34 hi hz0 hz1 hz2 rfl _ _ _ _ n rfl rfl rfl rfl (by omega) (by omega) ?_; intro w1 hown1 hbel1 hsz1)
  clear hi hz0 hz1 hz2
  go_loopw [4] (fun i wr => ∃ k : Nat, k ≤ n ∧ i = .int .i64 k ∧ ∃ ps : List Nat, Own wr w.heap.size 43 ((ps.map ptr) ++ List.replicate (n - k) (.pointer none)) ∧ ps.length = k ∧ Flds wr (w.heap.size + 1) ps ∧ Below w.heap.size w wr) (fun i _ => n - (intOf i).toNat)
  case atStart => exact ⟨0, Nat.zero_le _, rfl, [], by simpa using hown1, rfl, fun p hp => by simp at hp, hbel1⟩
  case round =>
    obtain ⟨k, hk, rfl, ps, hown, hlen, hps, hbel⟩ := hrel
    have hcx : k < n → wr.cell? ⟨b, off + k, none⟩ = some (.string (ss k)) := fun h => (hbel.cell (p := ⟨b, off + k, none⟩) hb).trans (hc k h)
    have hcg : k < n → wr.cell? ⟨w.heap.size, k, none⟩ = some (.pointer none) := fun h => by
      rw [hown.cell k, List.getElem?_append_right (by simp [hlen]), List.getElem?_replicate, if_pos (by simp [hlen]; omega)]
    have hfg := hown.frozen k
    have hlt0 := hown.lt
    clear hown1 hbel1 hsz1 hc
    have HL : Hid (ps.length = k) := hlen
    clear hlen
    go_wp2
    · have hlt : k < n := by assumption
      go_roundw
      case rel =>
        refine ⟨k + 1, by omega, by go_num, ps ++ [wr.heap.size], ?_, by simp [HL.out], ?_, ?_⟩
        · rw [← set_ptrs ps n k wr.heap.size HL.out hlt]
          exact (hown.set k _).alloc _
        · refine flds_step hps (.inr fun q hq => ?_) (by omega) ⟨ss k, ?_⟩
          · obtain ⟨h1, t, ht⟩ := hps q hq
            exact fld_cell _ _ _ _ _ _ (by omega) t ht
          · rw [Own.cell (e := 49) (Own.newAt _ _ (by simp [World.setCell]))]; rfl
        · exact (hbel.setCell (Nat.le_refl _) _).alloc (by simp [World.setCell]; omega) _
      case measure => simp [intOf]; omega
    · have hge : ¬ k < n := by assumption
      have hkn : k = n := by omega
      go_ret
      subst hkn
      exact ⟨ps, rfl, by simpa using hown, HL.out, hps, hbel⟩

set_option maxHeartbeats 400000 in
theorem fields_nil (a : Option Addr) (c : Nat) (w : World) :
    Calls Try.prog 20 #[.slice a 0 c] w fun e w' => e = .returned (.slice (some ⟨w.heap.size, 0, none⟩) 0 0) ∧ Own w' w.heap.size 43 [] ∧ Below w.heap.size w w' := by
  obtain ⟨i0, hi, hz0, hz1, hz2⟩ := info_parts info43
  go_enter Try.func20, Try.ntmps20
  go_wp2_with (at_make; refine wpList_make_one _ rfl _ _ 34 rfl 43 i0 (.pointer none) 8 Try.underlying34 hi hz0 hz1 hz2 rfl _ _ _ _ 0 rfl rfl rfl rfl (by omega) (by omega) ?_; intro w1 hown1 hbel1 hsz1)
  clear hi hz0 hz1 hz2
  refine wp_loop_rounds 1 ?_
  rw [rounds_succ]
  go_wp2
  go_ret
  exact ⟨rfl, hown1, hbel1⟩

/-- zzFieldsB1: a new row of pointers to new fields. -/
theorem fields20 (a : Option Addr) (n c : Nat) (ss : Nat → ByteArray) (w : World) (hn : n ≤ 65536) (hr : Row w a n fun i => .string (ss i)) :
    Calls Try.prog 20 #[.slice a n c] w fun e w' => ∃ ps : List Nat, e = .returned (.slice (some ⟨w.heap.size, 0, none⟩) n n) ∧ Own w' w.heap.size 43 (ps.map ptr) ∧ ps.length = n ∧ Flds w' (w.heap.size + 1) ps ∧ Below w.heap.size w w' := by
  by_cases h0 : n = 0
  · subst h0
    exact (fields_nil a c w).mono fun e w' ⟨he, ho, hw⟩ => ⟨[], he, ho, rfl, fun p hp => by simp at hp, hw⟩
  · rcases hr with h | ⟨b, off, rfl, hc⟩
    · exact absurd h h0
    · exact fields_pos b off n c ss w hn hc (World.block_lt_of_cell? w _ (hc 0 (by omega)))

end Go.Proofs.Qxb6000875a
