/-
  Seat b6600017a: (relaxedTables).empty and its door ZZRelaxedEmpty_b1, at a table that has fingers.
-/
import Derived.Test.Qxb6600017aState
namespace Go.Proofs.Qxb6600017a
open Go.RowKit

theorem heap_sets {g k : Nat} (hk : k ≠ g) : ∀ (vs : List Value) (w : World) (o : Nat), (w.setCells g o vs).heap[k]? = w.heap[k]?
  | [], _, _ => rfl
  | v :: vs, w, o => (heap_sets hk vs (w.setCell ⟨g, o, none⟩ v) (o + 1)).trans (Below.heap_setCell _ _ _ _ hk)
theorem Own.ofHeap {w w' : World} {g : Nat} {e : TypeId} {cs : List Value} (h : Own w g e cs) (he : w'.heap[g]? = w.heap[g]?) : Own w' g e cs := he.trans h

/-- 'clear(s)', s a slice over cells of an own block: some cells are stored over its elements. -/
theorem wpList_clear {P : Program} (w : World) {ops : Array Oper} {rest : List Oper} {o : Oper} {a : Act} {Q : Exit → Act → World → Prop}
    (hg : o.guard = none) (s : Operand) (t : TypeId) (ho : o.op = .call { callee := .builtin .clear, args := #[s], argTypes := #[t] })
    (e e' : TypeId) (i : TypeInfo) (z : Value) (size : Nat) (ht : P.underlying t = some (.slice e)) (hi : P.info? e = some i) (hz : i.zero = some z) (hzs : z.cells.size = size) (hz1 : ∀ v ∈ z.cells.toList, v.oneCell' = true)
    (g p n c : Nat) (hs : a.eval s = .slice (some ⟨g, p, none⟩) n c) (hn : 0 < n) (cs : List Value) (hown : Own w g e' cs) (hfit : p + n * size ≤ cs.length)
    (hK : ∀ (vs : List Value) (w' : World), vs.length = n * size → Own w' g e' (putRow cs p vs) → (∀ k, k ≠ g → w'.heap[k]? = w.heap[k]?) → (∀ go, Kept g go w w') → wpList P ops Q rest (a.put o.dst (.tuple #[])) w') : wpList P ops Q (o :: rest) a w := by
  refine wpList_plain hg fun K hK' => ?_
  have hlen : (Builtin.zeroCells z.cells n).toList.length = n * size := by simp [size_zeroCells, hzs]
  have hall : ∀ v ∈ (Builtin.zeroCells z.cells n).toList, v.oneCell' = true := by
    intro v hv
    simp [Builtin.zeroCells] at hv
    obtain ⟨j, hj, rfl⟩ := hv
    have hpos : 0 < z.cells.size := by
      rcases Nat.eq_zero_or_pos z.cells.size with h | h
      · rw [h] at hj; omega
      · exact h
    have hlt := Nat.mod_lt j hpos
    rw [Array.getElem!_eq_getD, Array.getD_eq_getD_getElem?, Array.getElem?_eq_getElem hlt]
    exact hz1 _ (Array.getElem_mem_toList hlt)
  have hst := run_storeCells_cells (P := P) g p (Builtin.zeroCells z.cells n).toList 0 w (fun j hj => by
      rw [hown.cell]
      have : p + j < cs.length := by omega
      simp [this]) (fun j hj => hown.frozen _) hall
  simp only [Nat.add_zero] at hst
  obtain ⟨m, rfl⟩ : ∃ m, n = m + 1 := ⟨n - 1, by omega⟩
  unfold Oper.wp execOp
  simp [ho, resolve, invoke, builtin, hs, Builtin.clear_, run_underlying ht, zeroValue, typeInfo, hi, hz, hst]
  exact hK' _ _ (hK _ _ hlen (hown.sets _ _) (fun k hk => heap_sets hk _ _ _) (fun go => (Kept.refl g go w).setsa _ _))

/-- 'clear(s)', s of no element: nothing. -/
theorem wpList_clear_none {P : Program} (w : World) {ops : Array Oper} {rest : List Oper} {o : Oper} {a : Act} {Q : Exit → Act → World → Prop}
    (hg : o.guard = none) (s : Operand) (t : TypeId) (ho : o.op = .call { callee := .builtin .clear, args := #[s], argTypes := #[t] })
    (e : TypeId) (ht : P.underlying t = some (.slice e)) (b : Option Addr) (c : Nat) (hs : a.eval s = .slice b 0 c)
    (hK : wpList P ops Q rest (a.put o.dst (.tuple #[])) w) : wpList P ops Q (o :: rest) a w := by
  refine wpList_plain hg fun K hK' => ?_
  unfold Oper.wp execOp
  cases b <;> simp [ho, resolve, invoke, builtin, hs, Builtin.clear_, run_underlying ht]
  · exact hK' _ _ hK
  · exact hK' _ _ hK

/-- What emptying table k leaves of the two blocks. -/
def Emptied (ga go k wn bn p14 p15 : Nat) (ys os : List Value) (w w' : World) : Prop :=
  ∃ zs1 zs2 : List Value, zs1.length = wn * 5 ∧ zs2.length = bn * 5 ∧ Own w' ga 70 (putRow (putRow ys p14 zs1) p15 zs2) ∧ Own w' go 60 (os.set (k * 16 + 13) (.slice none 0 0)) ∧ Kept ga go w w'

theorem info70z : (Try.prog.info? 70).map (fun i => (i.zero, i.size, i.bytes)) = some (some (.agg #[.int .u64 0, .int .u64 0, .int .u64 0, .int .i32 0, .bool false]), 5, 40) := by kernel_rfl

set_option maxHeartbeats 1000000 in
set_option maxRecDepth 100000 in
/-- (relaxedTables).empty at a table with fingers, with or without back fingers. -/
theorem empty42 (n c k wn bn p14 c14 c15 : Nat) (a15 : Option Addr) (p15 : Nat) (s0 s1 s2 s3 : Value) (ga go : Nat) (ys os : List Value) (w : World) (hne : ga ≠ go)
    (_hn : n ≤ 1048576) (hk : k < n) (hwn : 0 < wn) (hwl : wn ≤ 1048576) (hbl : bn ≤ 1048576) (ho : Own w go 60 os) (ha : Own w ga 70 ys) (hol : os.length = n * 16)
    (h14 : os[k * 16 + 14]? = some (.slice (some ⟨ga, p14, none⟩) wn c14)) (hf14 : p14 + wn * 5 ≤ ys.length)
    (h15 : os[k * 16 + 15]? = some (.slice a15 bn c15)) (hf15 : bn = 0 ∨ (a15 = some ⟨ga, p15, none⟩ ∧ p15 + bn * 5 ≤ ys.length)) :
    Calls Try.prog 42 #[.slice (some ⟨go, 0, none⟩) n c, .agg #[s0, s1, s2, s3], .int .i64 k] w fun e w' => e = .returned (.tuple #[]) ∧
      Emptied ga go k wn bn p14 p15 ys os w w' := by
  obtain ⟨i0, hi, hz0, hz1, hz2⟩ := info_parts info70z
  have hz1' : ∀ v ∈ (Value.agg #[.int .u64 0, .int .u64 0, .int .u64 0, .int .i32 0, .bool false]).cells.toList, v.oneCell' = true := by decide
  have c14' : w.cell? ⟨go, k * 16 + 14, none⟩ = some (.slice (some ⟨ga, p14, none⟩) wn c14) := (ho.cell _).trans h14
  have hlt := ho.lt
  have hk' : (k : Int) < (n : Int) := by omega
  have hw0 : ((wn : Int) == 0) = false := by simp; omega
  go_enter Try.func42, Try.ntmps42
  rcases Nat.eq_zero_or_pos bn with hb0 | hb0
  · subst hb0
    go_wp2_with (first
      | (refine wpList_clear _ rfl (.tmp 36) 51 rfl 70 70 i0 _ 5 Try.underlying51 hi hz0 rfl hz1' ga p14 wn c14 rfl hwn ys (by exact ha.alloc _) hf14 ?_; intro zs1 w1 hzl1 hw1 hp1 hk1; have ho1 : Own w1 go 60 os := (ho.alloc _).ofHeap (hp1 go (Ne.symm hne)); have c15' : w1.cell? ⟨go, k * 16 + 15, none⟩ = some (.slice a15 0 c15) := (ho1.cell _).trans h15; have f13 := ho1.frozen (k * 16 + 13); obtain ⟨v13, g13⟩ := ho1.some_cell hol (k := k * 16 + 13) (by omega))
      | (refine wpList_clear_none _ rfl (.tmp 40) 51 rfl 70 Try.underlying51 a15 c15 rfl ?_))
    go_end0
    exact ⟨rfl, zs1, [], hzl1, by simp, hw1.setOther (p := ⟨go, _, none⟩) hne _, ho1.set (k * 16 + 13) _, (((Kept.refl ga go w).alloc _).trans (hk1 go)).seto _ _⟩
  · rcases hf15 with h | ⟨rfl, hf15⟩
    · omega
    go_wp2_with (first
      | (refine wpList_clear _ rfl (.tmp 36) 51 rfl 70 70 i0 _ 5 Try.underlying51 hi hz0 rfl hz1' ga p14 wn c14 rfl hwn ys (by exact ha.alloc _) hf14 ?_; intro zs1 w1 hzl1 hw1 hp1 hk1; have ho1 : Own w1 go 60 os := (ho.alloc _).ofHeap (hp1 go (Ne.symm hne)); have c15' : w1.cell? ⟨go, k * 16 + 15, none⟩ = some (.slice (some ⟨ga, p15, none⟩) bn c15) := (ho1.cell _).trans h15)
      | (refine wpList_clear _ rfl (.tmp 40) 51 rfl 70 70 i0 _ 5 Try.underlying51 hi hz0 rfl hz1' ga p15 bn c15 rfl hb0 (putRow ys p14 zs1) hw1 (by rw [putRow_length]; exact hf15) ?_; intro zs2 w2 hzl2 hw2 hp2 hk2; have ho2 : Own w2 go 60 os := ho1.ofHeap (hp2 go (Ne.symm hne)); have f13 := ho2.frozen (k * 16 + 13); obtain ⟨v13, g13⟩ := ho2.some_cell hol (k := k * 16 + 13) (by omega)))
    go_end0
    exact ⟨rfl, zs1, zs2, hzl1, hzl2, hw2.setOther (p := ⟨go, _, none⟩) hne _, ho2.set (k * 16 + 13) _, ((((Kept.refl ga go w).alloc _).trans (hk1 go)).trans (hk2 go)).seto _ _⟩

set_option maxHeartbeats 1000000 in
set_option maxRecDepth 100000 in
/-- ZZRelaxedEmpty_b1, likewise. -/
theorem empty32 (n c k wn bn p14 c14 c15 : Nat) (a15 : Option Addr) (p15 : Nat) (s0 s1 s2 s3 : Value) (ga go : Nat) (ys os : List Value) (w : World) (hne : ga ≠ go)
    (hn : n ≤ 1048576) (hk : k < n) (hwn : 0 < wn) (hwl : wn ≤ 1048576) (hbl : bn ≤ 1048576) (ho : Own w go 60 os) (ha : Own w ga 70 ys) (hol : os.length = n * 16)
    (h14 : os[k * 16 + 14]? = some (.slice (some ⟨ga, p14, none⟩) wn c14)) (hf14 : p14 + wn * 5 ≤ ys.length)
    (h15 : os[k * 16 + 15]? = some (.slice a15 bn c15)) (hf15 : bn = 0 ∨ (a15 = some ⟨ga, p15, none⟩ ∧ p15 + bn * 5 ≤ ys.length)) :
    Calls Try.prog 32 #[.slice (some ⟨go, 0, none⟩) n c, .agg #[s0, s1, s2, s3], .int .i64 k] w fun e w' => e = .returned (.tuple #[]) ∧
      Emptied ga go k wn bn p14 p15 ys os w w' := by
  go_enter Try.func32, Try.ntmps32
  go_wp2_with fail
  refine (empty42 n c k wn bn p14 c14 c15 a15 p15 s0 s1 s2 s3 ga go ys os _ hne hn hk hwn hwl hbl (by exact ho.alloc _) (by exact ha.alloc _) hol h14 hf14 h15 hf15).mono ?_
  rintro e w1 ⟨rfl, zs1, zs2, q1, q2, q3, q4, q5⟩
  go_wp2_with fail
  go_end0
  exact ⟨rfl, zs1, zs2, q1, q2, q3, q4, ((Kept.refl ga go w).alloc _).trans q5⟩
end Go.Proofs.Qxb6600017a
