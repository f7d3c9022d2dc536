/-
  Seat b6602268a: zzTxnMap makes a map of the transaction's entries (nil of nil).
-/
import Derived.Test.Qxb6602268aNumber
import Derived.Lib.SliceRun
namespace Go.Proofs.Qxb6602268a
open Go.RowKit Go.Maps

/-- How a *string that came in reads: nil, or the text that lies there in the first world. -/
def Rp (W0 : World) : Value → Option (DataW Unit × List MemPlace)
  | .pointer none => some (.nil, [])
  | .pointer (some a) => match W0.cell? a with
    | some (.string s) => if s.size ≤ maxLen then some (.lit (.string s.data.toList), []) else none
    | _ => none
  | _ => none

/-- A *string that can be read. -/
def GoodP (W0 : World) (p : Option Addr) : Prop := p = none ∨ ∃ a s, p = some a ∧ W0.cell? a = some (.string s) ∧ s.size ≤ maxLen

theorem rp_mk {W0 : World} {p : Option Addr} (h : GoodP W0 p) : ∃ d, Rp W0 (.pointer p) = some (d, []) := by
  rcases h with rfl | ⟨a, s, rfl, hc, hs⟩
  · exact ⟨_, rfl⟩
  · exact ⟨.lit (.string s.data.toList), by simp [Rp, hc, hs]⟩

theorem rp_inv {W0 : World} {v : Value} {y : DataW Unit × List MemPlace} (h : Rp W0 v = some y) :
    (v = .pointer none ∧ y = (.nil, [])) ∨ ∃ a s, v = .pointer (some a) ∧ W0.cell? a = some (.string s) ∧ s.size ≤ maxLen ∧ y = (.lit (.string s.data.toList), []) := by
  unfold Rp at h
  split at h
  · cases h; exact .inl ⟨rfl, rfl⟩
  · rename_i a
    split at h
    · rename_i s hc
      split at h
      · rename_i hs
        cases h
        exact .inr ⟨a, s, rfl, hc, hs, rfl⟩
      · cases h
    · cases h
  · cases h

/-- A transaction's reads or writes, as the walk holds them: nil, or a map. -/
def KV (W0 w : World) (kv : Value) (B n : Nat) (D : DataW Unit) : Prop :=
  (kv = .map none ∧ D = .map []) ∨ ∃ b, kv = .map (some b) ∧ B ≤ b ∧ w.ownsMap Try.prog 9 (Rp W0) b n D

/-- 'make(map[K]V, n)': the hint turns nothing. -/
theorem run_makeMap_hint {P : Program} {t k e : TypeId} (h : P.underlying t = some (.map k e)) (q : IntKind) (i : Int) (w : World) : (Instr.makeMap t (some (.int q i))).run P w = .ok (.map (some w.heap.size)) (w.alloc (.map #[] 0)) := by
  simp [Instr.makeMap, run_underlying h, asInt, asIntOf]

set_option maxHeartbeats 1000000 in
set_option maxRecDepth 100000 in
theorem txn20 (W0 : World) (a1 a2 : Option Addr) (n c1 m c2 : Nat) (ss : Nat → ByteArray) (ps : Nat → Option Addr) (w : World) (hn : n ≤ 1048576) (hs : ∀ i, (ss i).size ≤ 9223372036854775807)
    (hp : ∀ i, i < m → GoodP W0 (ps i)) (hr1 : Row w a1 n fun i => .string (ss i)) (hr2 : Row w a2 m fun i => .pointer (ps i)) :
    Calls Try.prog 20 #[.slice a1 n c1, .slice a2 m c2] w fun e w' => ∃ kv D, e = .returned kv ∧ KV W0 w' kv w.heap.size n D ∧ Below w.heap.size w w' := by
  have HR1 : Hid (Row w a1 n fun i => .string (ss i)) := hr1
  have HR2 : Hid (Row w a2 m fun i => .pointer (ps i)) := hr2
  have HS : Hid (∀ i, (ss i).size ≤ 9223372036854775807) := hs
  have HP : Hid (∀ i, i < m → GoodP W0 (ps i)) := hp
  clear hr1 hr2 hs hp
  have hnil := fun w a n c => Lib.run_eql_slice_nil (P := Try.prog) w 40 9 a n c 0 0 Try.underlying40
  cases a1 with
  | none =>
    go_enter Try.func20, Try.ntmps20
    go_wp2
    go_ret
    exact ⟨_, .map [], rfl, .inl ⟨rfl, rfl⟩, Below.refl _ _⟩
  | some x =>
    have hmm := fun i w => run_makeMap_hint (P := Try.prog) (t := 46) Try.underlying46 .i64 i w
    go_enter Try.func20, Try.ntmps20
    go_wp2
    refine wp_via (fun W => W.ownsMap Try.prog 9 (Rp W0) w.heap.size 0 (.map []) ∧ Below w.heap.size w W) ⟨World.ownsMap_made _ _ _ _, (Below.refl _ _).alloc (Nat.le_refl _) _⟩ ?_
    intro W ⟨hownW, hbelW⟩
    clear hmm hnil
    go_loopw [6] (fun i wr => ∃ k : Nat, k ≤ n ∧ i = .int .i64 k ∧ ∃ D, wr.ownsMap Try.prog 9 (Rp W0) w.heap.size k D ∧ Below w.heap.size w wr) (fun i _ => n - (intOf i).toNat)
    case atStart => exact ⟨0, Nat.zero_le _, rfl, _, hownW, hbelW⟩
    case round =>
      clear hownW hbelW
      obtain ⟨k, hk, rfl, D, hown, hbel⟩ := hrel
      by_cases hlt : k < n
      · rcases HR1.out.later hbel with h | ⟨b, off, hxb, hc⟩
        · omega
        obtain rfl : x = ⟨b, off, none⟩ := by simpa using hxb
        have hcell : wr.cell? ⟨b, off + k, none⟩ = some (.string (ss k)) := hc k hlt
        clear hc hxb
        have hsk := HS.out k
        have hkey : keyOf Try.prog 9 (.string (ss k)) = some (.string (ss k).data.toList) := WideMaps.keyOf_string_mk Try.underlying9 (by unfold maxLen; omega)
        by_cases hkm : k < m
        · obtain ⟨d, hd⟩ := rp_mk (HP.out k hkm)
          rcases HR2.out.later hbel with h | ⟨b2, off2, rfl, hc2⟩
          · omega
          have hcell2 : wr.cell? ⟨b2, off2 + k, none⟩ = some (.pointer (ps k)) := hc2 k hkm
          clear hc2
          go_wp2_with (at_mapUpdate; refine wpList_mapUpdate_own _ rfl _ _ _ 46 rfl 9 81 lawS Try.underlying46 _ w.heap.size k _ rfl hown (by unfold maxLen; omega) _ _ _ rfl rfl hkey d [] hd ?_; intro w1 hown1 hgrow1)
          have hbel1 : Below w.heap.size w w1 := hbel.grown hgrow1 hbel.size (fun j hj => by cases hj; exact Nat.le_refl _)
          clear hgrow1 hown hbel hd
          go_wp2
          go_roundw
          case rel => exact ⟨k + 1, by omega, by go_num, _, hown1, hbel1⟩
          case measure => simp [intOf]; omega
        · go_wp2_with (at_mapUpdate; refine wpList_mapUpdate_own _ rfl _ _ _ 46 rfl 9 81 lawS Try.underlying46 _ w.heap.size k _ rfl hown (by unfold maxLen; omega) _ _ _ rfl rfl hkey .nil [] rfl ?_; intro w1 hown1 hgrow1)
          have hbel1 : Below w.heap.size w w1 := hbel.grown hgrow1 hbel.size (fun j hj => by cases hj; exact Nat.le_refl _)
          clear hgrow1 hown hbel
          go_wp2
          go_roundw
          case rel => exact ⟨k + 1, by omega, by go_num, _, hown1, hbel1⟩
          case measure => simp [intOf]; omega
      · have hkn : k = n := by omega
        go_wp2
        go_ret
        exact ⟨_, D, rfl, .inr ⟨_, rfl, Nat.le_refl _, hown.mono (by omega)⟩, hbel⟩
end Go.Proofs.Qxb6602268a
