/-
  Seat b6600017a: zzPeer_b1, zzNeighbours_b1.
-/
import Derived.Test.Qxb6600017aFit
import Derived.Deep.RegionHeld3
import Derived.Lib.SliceRun
namespace Go.Proofs.Qxb6600017a
open Go.RowKit

set_option maxHeartbeats 400000 in
theorem peer41 (x : Int) (w : World) :
    Calls Try.prog 41 #[.int .i32 x] w fun e w' => e = .returned (.agg #[.int .u64 0, .int .u64 0, .int .u64 0, .int .i32 x]) ∧ w' = w.alloc (.cells #[.int .u64 0, .int .u64 0, .int .u64 0, .int .i32 x] 47) := by
  go_enter Try.func41, Try.ntmps41
  go_wp2
  exact bodyPost_ret (v := .agg #[.int .u64 0, .int .u64 0, .int .u64 0, .int .i32 x]) (by simp [results, Try.results41, go_sem]) rfl ⟨rfl, rfl⟩

/-- Neighbours as zzNeighbours_b1 makes them, the successor list at the slice a n c. -/
def nbVal (x : Tab) (a : Option Addr) (n c : Nat) : Value := .agg #[.int .u64 0, .int .u64 0, .int .u64 0, .int .i32 x.pred, .int .u64 0, .int .u64 0, .int .u64 0, .int .i32 x.succ, .bool x.nop, .bool x.quiet, .slice a n c]

/-- A slice of Peers in a block from B on: element i's Addr is f i. -/
def Row4 (B : Nat) (w : World) (a : Option Addr) (n : Nat) (f : Nat → Int) : Prop :=
  n = 0 ∨ ∃ g, B ≤ g ∧ a = some ⟨g, 0, none⟩ ∧ ∀ i, i < n → w.cell? ⟨g, i * 4 + 3, none⟩ = some (.int .i32 (f i))

theorem info47 : (Try.prog.info? 47).map (fun i => (i.zero, i.size, i.bytes)) = some (some (.agg #[.int .u64 0, .int .u64 0, .int .u64 0, .int .i32 0]), 4, 32) := by kernel_rfl

/-- The seven cells of table x. -/
def Tab.cells (x : Tab) : List Value := [.int .i32 x.pred, .int .i32 x.succ, .bool x.nop, .bool x.quiet, .slice x.fa x.fn x.fc, .slice x.wa x.wn x.wc, .slice x.ba x.bn x.bc]

theorem Own.some_cell {w : World} {g n : Nat} {e : TypeId} {cs : List Value} (h : Own w g e cs) (hl : cs.length = n) {k : Nat} (hk : k < n) : ∃ v, w.cell? ⟨g, k, none⟩ = some v :=
  ⟨cs[k]'(by omega), by rw [h.cell k]; simp [hl, hk]⟩

theorem set4_get {cs : List Value} {k n : Nat} {f : Nat → Value} (hlen : cs.length = n * 4) (hk : k < n) (h : ∀ i, i < k → cs[i * 4 + 3]? = some (f i)) (a b c : Value) :
    ∀ i, i < k + 1 → ((((cs.set (k * 4) a).set (k * 4 + 1) b).set (k * 4 + 2) c).set (k * 4 + 3) (f k))[i * 4 + 3]? = some (f i) := by
  intro i hi
  rw [List.getElem?_set]
  by_cases e : k = i
  · subst e; simp; omega
  · rw [if_neg (by omega), List.getElem?_set, if_neg (by omega), List.getElem?_set, if_neg (by omega), List.getElem?_set, if_neg (by omega)]
    exact h i (by omega)

theorem Own.row4 {w : World} {B g n : Nat} {cs : List Value} {f : Nat → Int} (h : Own w g 47 cs) (hB : B ≤ g) (hc : ∀ i, i < n → cs[i * 4 + 3]? = some (.int .i32 (f i))) : Row4 B w (some ⟨g, 0, none⟩) n f :=
  .inr ⟨g, hB, rfl, fun i hi => by rw [h.cell]; exact hc i hi⟩

theorem Row4.later {B : Nat} {w w' : World} {a : Option Addr} {n : Nat} {f : Nat → Int} (h : Row4 B w a n f) (hb : Below w.heap.size w w') : Row4 B w' a n f := by
  rcases h with h | ⟨g, hg, ha, hc⟩
  · exact .inl h
  · refine .inr ⟨g, hg, ha, fun i hi => ?_⟩
    rw [hb.cell (p := ⟨g, i * 4 + 3, none⟩) (World.block_lt_of_cell? w _ (hc i hi))]; exact hc i hi

/-- The row's block is as it was. -/
theorem Row4.kept {B g0 : Nat} {w w' : World} {n : Nat} {f : Nat → Int} (h : Row4 B w (some ⟨g0, 0, none⟩) n f) (hg : w'.heap[g0]? = w.heap[g0]?) : Row4 B w' (some ⟨g0, 0, none⟩) n f := by
  rcases h with h | ⟨g, hB, ha, hc⟩
  · exact .inl h
  · simp at ha; subst ha
    exact .inr ⟨_, hB, rfl, fun i hi => by rw [World.cell?_of_block (w := w) (a := ⟨g0, i * 4 + 3, none⟩) hg]; exact hc i hi⟩

/-- The result of zzNeighbours_b1, read out of its variable. -/
theorem res38 (tmps : Array Value) (W : World) (g : Nat) (v0 v1 v2 v3 v4 v5 v6 v7 v8 v9 v10 : Value) (ht : tmps[2]?.getD undef = .pointer (some ⟨g, 0, none⟩))
    (h : Own W g 50 [v0, v1, v2, v3, v4, v5, v6, v7, v8, v9, v10]) : (results Try.f38 tmps).run Try.prog W = .ok (.agg #[v0, v1, v2, v3, v4, v5, v6, v7, v8, v9, v10]) W := by
  have c0 : W.cell? ⟨g, 0, none⟩ = some v0 := h.cell 0
  have c1 : W.cell? ⟨g, 1, none⟩ = some v1 := h.cell 1
  have c2 : W.cell? ⟨g, 2, none⟩ = some v2 := h.cell 2
  have c3 : W.cell? ⟨g, 3, none⟩ = some v3 := h.cell 3
  have c4 : W.cell? ⟨g, 4, none⟩ = some v4 := h.cell 4
  have c5 : W.cell? ⟨g, 5, none⟩ = some v5 := h.cell 5
  have c6 : W.cell? ⟨g, 6, none⟩ = some v6 := h.cell 6
  have c7 : W.cell? ⟨g, 7, none⟩ = some v7 := h.cell 7
  have c8 : W.cell? ⟨g, 8, none⟩ = some v8 := h.cell 8
  have c9 : W.cell? ⟨g, 9, none⟩ = some v9 := h.cell 9
  have c10 : W.cell? ⟨g, 10, none⟩ = some v10 := h.cell 10
  simp [results, Try.results38, go_sem, c0, c1, c2, c3, c4, c5, c6, c7, c8, c9, c10, ht]

/-- Eleven stores into block g, two new blocks, a draw. -/
theorem chain11 (w : World) (g : Nat) (z0 z1 z2 z3 z4 z5 z6 z7 z8 z9 z10 v0 v1 v2 v3 v4 v5 v6 v7 v8 v9 v10 : Value) (o1 o2 : Obj) (h : Own w g 50 [z0, z1, z2, z3, z4, z5, z6, z7, z8, z9, z10]) (hg : g + 1 < w.heap.size) :
    Own ((((((((((((((w.setCell ⟨g, 0, none⟩ v0).setCell ⟨g, 1, none⟩ v1).setCell ⟨g, 2, none⟩ v2).setCell ⟨g, 3, none⟩ v3).setCell ⟨g, 4, none⟩ v4).setCell ⟨g, 5, none⟩ v5).setCell ⟨g, 6, none⟩ v6).setCell ⟨g, 7, none⟩ v7).setCell ⟨g, 8, none⟩ v8).setCell ⟨g, 9, none⟩ v9).setCell ⟨g, 10, none⟩ v10).alloc o1).alloc o2).drew) g 50 [v0, v1, v2, v3, v4, v5, v6, v7, v8, v9, v10] ∧ ((((((((((((((w.setCell ⟨g, 0, none⟩ v0).setCell ⟨g, 1, none⟩ v1).setCell ⟨g, 2, none⟩ v2).setCell ⟨g, 3, none⟩ v3).setCell ⟨g, 4, none⟩ v4).setCell ⟨g, 5, none⟩ v5).setCell ⟨g, 6, none⟩ v6).setCell ⟨g, 7, none⟩ v7).setCell ⟨g, 8, none⟩ v8).setCell ⟨g, 9, none⟩ v9).setCell ⟨g, 10, none⟩ v10).alloc o1).alloc o2).drew).heap[g + 1]? = w.heap[g + 1]? ∧ Below g w ((((((((((((((w.setCell ⟨g, 0, none⟩ v0).setCell ⟨g, 1, none⟩ v1).setCell ⟨g, 2, none⟩ v2).setCell ⟨g, 3, none⟩ v3).setCell ⟨g, 4, none⟩ v4).setCell ⟨g, 5, none⟩ v5).setCell ⟨g, 6, none⟩ v6).setCell ⟨g, 7, none⟩ v7).setCell ⟨g, 8, none⟩ v8).setCell ⟨g, 9, none⟩ v9).setCell ⟨g, 10, none⟩ v10).alloc o1).alloc o2).drew) := by
  have h0 : Own (w.setCell ⟨g, 0, none⟩ v0) g 50 [v0, z1, z2, z3, z4, z5, z6, z7, z8, z9, z10] := h.set 0 v0
  have h1 : Own ((w.setCell ⟨g, 0, none⟩ v0).setCell ⟨g, 1, none⟩ v1) g 50 [v0, v1, z2, z3, z4, z5, z6, z7, z8, z9, z10] := h0.set 1 v1
  have h2 : Own (((w.setCell ⟨g, 0, none⟩ v0).setCell ⟨g, 1, none⟩ v1).setCell ⟨g, 2, none⟩ v2) g 50 [v0, v1, v2, z3, z4, z5, z6, z7, z8, z9, z10] := h1.set 2 v2
  have h3 : Own ((((w.setCell ⟨g, 0, none⟩ v0).setCell ⟨g, 1, none⟩ v1).setCell ⟨g, 2, none⟩ v2).setCell ⟨g, 3, none⟩ v3) g 50 [v0, v1, v2, v3, z4, z5, z6, z7, z8, z9, z10] := h2.set 3 v3
  have h4 : Own (((((w.setCell ⟨g, 0, none⟩ v0).setCell ⟨g, 1, none⟩ v1).setCell ⟨g, 2, none⟩ v2).setCell ⟨g, 3, none⟩ v3).setCell ⟨g, 4, none⟩ v4) g 50 [v0, v1, v2, v3, v4, z5, z6, z7, z8, z9, z10] := h3.set 4 v4
  have h5 : Own ((((((w.setCell ⟨g, 0, none⟩ v0).setCell ⟨g, 1, none⟩ v1).setCell ⟨g, 2, none⟩ v2).setCell ⟨g, 3, none⟩ v3).setCell ⟨g, 4, none⟩ v4).setCell ⟨g, 5, none⟩ v5) g 50 [v0, v1, v2, v3, v4, v5, z6, z7, z8, z9, z10] := h4.set 5 v5
  have h6 : Own (((((((w.setCell ⟨g, 0, none⟩ v0).setCell ⟨g, 1, none⟩ v1).setCell ⟨g, 2, none⟩ v2).setCell ⟨g, 3, none⟩ v3).setCell ⟨g, 4, none⟩ v4).setCell ⟨g, 5, none⟩ v5).setCell ⟨g, 6, none⟩ v6) g 50 [v0, v1, v2, v3, v4, v5, v6, z7, z8, z9, z10] := h5.set 6 v6
  have h7 : Own ((((((((w.setCell ⟨g, 0, none⟩ v0).setCell ⟨g, 1, none⟩ v1).setCell ⟨g, 2, none⟩ v2).setCell ⟨g, 3, none⟩ v3).setCell ⟨g, 4, none⟩ v4).setCell ⟨g, 5, none⟩ v5).setCell ⟨g, 6, none⟩ v6).setCell ⟨g, 7, none⟩ v7) g 50 [v0, v1, v2, v3, v4, v5, v6, v7, z8, z9, z10] := h6.set 7 v7
  have h8 : Own (((((((((w.setCell ⟨g, 0, none⟩ v0).setCell ⟨g, 1, none⟩ v1).setCell ⟨g, 2, none⟩ v2).setCell ⟨g, 3, none⟩ v3).setCell ⟨g, 4, none⟩ v4).setCell ⟨g, 5, none⟩ v5).setCell ⟨g, 6, none⟩ v6).setCell ⟨g, 7, none⟩ v7).setCell ⟨g, 8, none⟩ v8) g 50 [v0, v1, v2, v3, v4, v5, v6, v7, v8, z9, z10] := h7.set 8 v8
  have h9 : Own ((((((((((w.setCell ⟨g, 0, none⟩ v0).setCell ⟨g, 1, none⟩ v1).setCell ⟨g, 2, none⟩ v2).setCell ⟨g, 3, none⟩ v3).setCell ⟨g, 4, none⟩ v4).setCell ⟨g, 5, none⟩ v5).setCell ⟨g, 6, none⟩ v6).setCell ⟨g, 7, none⟩ v7).setCell ⟨g, 8, none⟩ v8).setCell ⟨g, 9, none⟩ v9) g 50 [v0, v1, v2, v3, v4, v5, v6, v7, v8, v9, z10] := h8.set 9 v9
  have h10 : Own (((((((((((w.setCell ⟨g, 0, none⟩ v0).setCell ⟨g, 1, none⟩ v1).setCell ⟨g, 2, none⟩ v2).setCell ⟨g, 3, none⟩ v3).setCell ⟨g, 4, none⟩ v4).setCell ⟨g, 5, none⟩ v5).setCell ⟨g, 6, none⟩ v6).setCell ⟨g, 7, none⟩ v7).setCell ⟨g, 8, none⟩ v8).setCell ⟨g, 9, none⟩ v9).setCell ⟨g, 10, none⟩ v10) g 50 [v0, v1, v2, v3, v4, v5, v6, v7, v8, v9, v10] := h9.set 10 v10
  refine ⟨((h10.alloc o1).alloc o2).drew, ?_, ?_⟩
  · show (((((((((((((((w.setCell ⟨g, 0, none⟩ v0).setCell ⟨g, 1, none⟩ v1).setCell ⟨g, 2, none⟩ v2).setCell ⟨g, 3, none⟩ v3).setCell ⟨g, 4, none⟩ v4).setCell ⟨g, 5, none⟩ v5).setCell ⟨g, 6, none⟩ v6).setCell ⟨g, 7, none⟩ v7).setCell ⟨g, 8, none⟩ v8).setCell ⟨g, 9, none⟩ v9).setCell ⟨g, 10, none⟩ v10).alloc o1).alloc o2)).heap[g + 1]? = w.heap[g + 1]?)
    rw [Below.heap_alloc _ _ _ (by simp [World.setCell]; omega), Below.heap_alloc _ _ _ (by simp [World.setCell]; omega)]
    iterate 11 rw [Below.heap_setCell _ _ _ _ (by show g + 1 ≠ g; omega)]
  · exact Below.drew (Below.allocL (Below.allocL (Below.setAt (Below.setAt (Below.setAt (Below.setAt (Below.setAt (Below.setAt (Below.setAt (Below.setAt (Below.setAt (Below.setAt (Below.setAt (Below.refl _ _) g 0 v0 (Nat.le_refl _)) g 1 v1 (Nat.le_refl _)) g 2 v2 (Nat.le_refl _)) g 3 v3 (Nat.le_refl _)) g 4 v4 (Nat.le_refl _)) g 5 v5 (Nat.le_refl _)) g 6 v6 (Nat.le_refl _)) g 7 v7 (Nat.le_refl _)) g 8 v8 (Nat.le_refl _)) g 9 v9 (Nat.le_refl _)) g 10 v10 (Nat.le_refl _)) (by omega) _) (by omega) _)

/-- Four new blocks, a draw. -/
theorem chain4 (w : World) (cs : List Value) (o0 o1 o2 : Obj) :
    Own ((((w.alloc o0).alloc (.cells cs.toArray 50)).alloc o1).alloc o2).drew (w.heap.size + 1) 50 cs ∧ Below w.heap.size w ((((w.alloc o0).alloc (.cells cs.toArray 50)).alloc o1).alloc o2).drew :=
  ⟨(((Own.newAt 50 cs (by simp)).alloc o1).alloc o2).drew, Below.drew (Below.allocL (Below.allocL (Below.allocL (Below.allocL (Below.refl _ _) (Nat.le_refl _) _) (Nat.le_refl _) _) (Nat.le_refl _) _) (Nat.le_refl _) _)⟩

/-- Four cells of block b, kept by whatever keeps the blocks up to b. -/
theorem keep4 {w w' : World} {b : Nat} {v0 v1 v2 v3 : Value} (h0 : w.cell? ⟨b, 0, none⟩ = some v0) (h1 : w.cell? ⟨b, 1, none⟩ = some v1) (h2 : w.cell? ⟨b, 2, none⟩ = some v2) (h3 : w.cell? ⟨b, 3, none⟩ = some v3) (hb : Below (b + 1) w w') :
    w'.cell? ⟨b, 0, none⟩ = some v0 ∧ w'.cell? ⟨b, 1, none⟩ = some v1 ∧ w'.cell? ⟨b, 2, none⟩ = some v2 ∧ w'.cell? ⟨b, 3, none⟩ = some v3 :=
  have e : ∀ j, w'.cell? ⟨b, j, none⟩ = w.cell? ⟨b, j, none⟩ := fun j => hb.cell (p := ⟨b, j, none⟩) (Nat.lt_succ_self b)
  ⟨(e _).trans h0, (e _).trans h1, (e _).trans h2, (e _).trans h3⟩

set_option maxHeartbeats 1000000 in
theorem nb_some (x : Tab) (y : Addr) (w : World) (hfa : x.fa = some y) (hfn : x.fn ≤ 1048576) (hy : Row w (some y) x.fn fun i => .int .i32 (x.fol i)) :
    Calls Try.prog 38 #[x.val] w fun e w' => ∃ a' c', e = .returned (nbVal x a' x.fn c') ∧ Row4 w.heap.size w' a' x.fn x.fol ∧ Below w.heap.size w w' := by
  unfold Tab.val
  rw [hfa]
  have HY : Hid (Row w (some y) x.fn fun i => .int .i32 (x.fol i)) := hy
  clear hy
  obtain ⟨i0, hi, hz0, hz1, hz2⟩ := info_parts info47
  have hnil := fun w a n c => run_neq_slice_nil_any (P := Try.prog) w 30 21 a n c 0 0 Try.underlying30
  go_enter Try.func38, Try.ntmps38
  go_wp2_with (at_make; refine wpList_make_cells _ rfl _ _ 48 rfl 47 i0 _ 4 32 Try.underlying48 hi hz0 hz1 hz2 _ _ _ _ x.fn rfl rfl rfl rfl (by omega) (by omega) ?_; intro w1 cs hown1 hlen1 hbel1 hsz1)
  clear hnil hi hz0 hz1 hz2
  have hox : Own w1 w.heap.size 33 [.int .i32 x.pred, .int .i32 x.succ, .bool x.nop, .bool x.quiet, .slice (some y) x.fn x.fc, .slice x.wa x.wn x.wc, .slice x.ba x.bn x.bc] := ((Own.new w 33 _).alloc _).below hbel1 (by simp; omega)
  have hoz : Own w1 (w.heap.size + 1) 50 [.int .u64 0, .int .u64 0, .int .u64 0, .int .i32 0, .int .u64 0, .int .u64 0, .int .u64 0, .int .i32 0, .bool false, .bool false, .slice none 0 0] := (Own.newAt 50 _ (by simp)).below hbel1 (by simp)
  have hown1' : Own w1 (w.heap.size + 1 + 1) 47 cs := by simpa using hown1
  have hbelw : Below w.heap.size w w1 := (((Below.refl _ _).alloc (Nat.le_refl _) _).alloc (by simp) _).trans (hbel1.mono (by simp; omega))
  clear hown1 hbel1 hsz1
  go_loopw [4] (fun i wr => ∃ k : Nat, k ≤ x.fn ∧ i = .int .i64 k ∧ Below w.heap.size w wr ∧ 
    Own wr w.heap.size 33 [.int .i32 x.pred, .int .i32 x.succ, .bool x.nop, .bool x.quiet, .slice (some y) x.fn x.fc, .slice x.wa x.wn x.wc, .slice x.ba x.bn x.bc] ∧ 
    Own wr (w.heap.size + 1) 50 [.int .u64 0, .int .u64 0, .int .u64 0, .int .i32 0, .int .u64 0, .int .u64 0, .int .u64 0, .int .i32 0, .bool false, .bool false, .slice none 0 0] ∧
    ∃ cs, Own wr (w.heap.size + 1 + 1) 47 cs ∧ cs.length = x.fn * 4 ∧ (∀ i, i < k → cs[i * 4 + 3]? = some (.int .i32 (x.fol i)))) (fun i _ => x.fn - (intOf i).toNat)
  case atStart => exact ⟨0, Nat.zero_le _, rfl, hbelw, hox, hoz, cs, hown1', hlen1, fun i hi => by omega⟩
  case round =>
    obtain ⟨k, hk, rfl, hbel, hox, hoz, cs, hown, hlen, hcs⟩ := hrel
    clear hbelw hown1' hlen1
    by_cases hlt : k < x.fn
    · rcases HY.out with h | ⟨b, off, hyb, hc⟩
      · omega
      obtain rfl : y = ⟨b, off, none⟩ := by simpa using hyb
      have hb : b < w.heap.size := World.block_lt_of_cell? w _ (hc k hlt)
      clear hyb
      have hcx : wr.cell? ⟨b, off + k, none⟩ = some (.int .i32 (x.fol k)) := (hbel.cell (p := ⟨b, off + k, none⟩) hb).trans (hc k hlt)
      have hx4 : wr.cell? ⟨w.heap.size, 4, none⟩ = some (.slice (some ⟨b, off, none⟩) x.fn x.fc) := hox.cell 4
      obtain ⟨v0, g0⟩ := hown.some_cell hlen (k := k * 4) (by omega)
      obtain ⟨v1, g1⟩ := hown.some_cell hlen (k := k * 4 + 1) (by omega)
      obtain ⟨v2, g2⟩ := hown.some_cell hlen (k := k * 4 + 2) (by omega)
      obtain ⟨v3, g3⟩ := hown.some_cell hlen (k := k * 4 + 3) (by omega)
      have f0 := hown.frozen (k * 4)
      have f1 := hown.frozen (k * 4 + 1)
      have f2 := hown.frozen (k * 4 + 2)
      have f3 := hown.frozen (k * 4 + 3)
      have HL : Hid (cs.length = x.fn * 4) := hlen
      clear hc
      have HCS : Hid (∀ i, i < k → cs[i * 4 + 3]? = some (.int .i32 (x.fol i))) := hcs
      have hsz := hown.lt
      clear hcs hlen
      go_wp2_with (go_at_call 41; refine (peer41 _ _).mono ?_; rintro e w2 ⟨rfl, rfl⟩)
      go_roundw
      case rel =>
        exact ⟨k + 1, by omega, by go_num, (((((hbel.setCell (by show _ ≤ w.heap.size + 1 + 1; omega) _).setCell (by show _ ≤ w.heap.size + 1 + 1; omega) _).setCell (by show _ ≤ w.heap.size + 1 + 1; omega) _).setCell (by show _ ≤ w.heap.size + 1 + 1; omega) _).alloc (by simp [World.setCell]; omega) _),
          ((((hox.setOther (by show _ ≠ w.heap.size + 1 + 1; omega) _).setOther (by show _ ≠ w.heap.size + 1 + 1; omega) _).setOther (by show _ ≠ w.heap.size + 1 + 1; omega) _).setOther (by show _ ≠ w.heap.size + 1 + 1; omega) _).alloc _,
          ((((hoz.setOther (by show _ ≠ w.heap.size + 1 + 1; omega) _).setOther (by show _ ≠ w.heap.size + 1 + 1; omega) _).setOther (by show _ ≠ w.heap.size + 1 + 1; omega) _).setOther (by show _ ≠ w.heap.size + 1 + 1; omega) _).alloc _,
          _, ((((hown.set _ _).set _ _).set _ _).set _ _).alloc _, by simpa using HL.out, set4_get HL.out hlt HCS.out _ _ _⟩
      case measure => simp [intOf]; omega
    · have hkn : k = x.fn := by omega
      have HR4 : Hid (Row4 w.heap.size wr (some ⟨w.heap.size + 1 + 1, 0, none⟩) x.fn x.fol) := hown.row4 (by omega) (hkn ▸ hcs)
      have hx0 : wr.cell? ⟨w.heap.size, 0, none⟩ = some (.int .i32 x.pred) := hox.cell 0
      have hx1 : wr.cell? ⟨w.heap.size, 1, none⟩ = some (.int .i32 x.succ) := hox.cell 1
      have hx2 : wr.cell? ⟨w.heap.size, 2, none⟩ = some (.bool x.nop) := hox.cell 2
      have hx3 : wr.cell? ⟨w.heap.size, 3, none⟩ = some (.bool x.quiet) := hox.cell 3
      have hx4 : wr.cell? ⟨w.heap.size, 4, none⟩ = some (.slice (some y) x.fn x.fc) := hox.cell 4
      obtain ⟨z0, zc0⟩ := hoz.some_cell rfl (k := 0) (by decide)
      have zf0 := hoz.frozen 0
      obtain ⟨z1, zc1⟩ := hoz.some_cell rfl (k := 1) (by decide)
      have zf1 := hoz.frozen 1
      obtain ⟨z2, zc2⟩ := hoz.some_cell rfl (k := 2) (by decide)
      have zf2 := hoz.frozen 2
      obtain ⟨z3, zc3⟩ := hoz.some_cell rfl (k := 3) (by decide)
      have zf3 := hoz.frozen 3
      obtain ⟨z4, zc4⟩ := hoz.some_cell rfl (k := 4) (by decide)
      have zf4 := hoz.frozen 4
      obtain ⟨z5, zc5⟩ := hoz.some_cell rfl (k := 5) (by decide)
      have zf5 := hoz.frozen 5
      obtain ⟨z6, zc6⟩ := hoz.some_cell rfl (k := 6) (by decide)
      have zf6 := hoz.frozen 6
      obtain ⟨z7, zc7⟩ := hoz.some_cell rfl (k := 7) (by decide)
      have zf7 := hoz.frozen 7
      obtain ⟨z8, zc8⟩ := hoz.some_cell rfl (k := 8) (by decide)
      have zf8 := hoz.frozen 8
      obtain ⟨z9, zc9⟩ := hoz.some_cell rfl (k := 9) (by decide)
      have zf9 := hoz.frozen 9
      obtain ⟨z10, zc10⟩ := hoz.some_cell rfl (k := 10) (by decide)
      have zf10 := hoz.frozen 10
      have hsz1 : w.heap.size + 1 < wr.heap.size := hoz.lt
      have hsz0 : w.heap.size < wr.heap.size := hox.lt
      have hsz2 : w.heap.size + 1 ≤ wr.heap.size := hox.lt
      clear hkn hcs hlen
      go_wp2
      go_region_held3 (fun w' => w'.cell? ⟨w.heap.size, 0, none⟩ = some (.int .i32 x.pred) ∧ w'.cell? ⟨w.heap.size, 1, none⟩ = some (.int .i32 x.succ) ∧ w'.cell? ⟨w.heap.size, 2, none⟩ = some (.bool x.nop) ∧ w'.cell? ⟨w.heap.size, 3, none⟩ = some (.bool x.quiet))
        ((refine keep4 hx0 hx1 hx2 hx3 (?_ : Below (w.heap.size + 1) wr _); repeat (first | with_reducible exact Below.refl _ _ | with_reducible refine Below.drew ?_ | with_reducible refine Below.setAt ?_ _ _ _ (Nat.le_refl _) | with_reducible refine Below.allocL ?_ (by assumption) _)))
        (first | (go_at_call 41; refine (peer41 _ _).mono ?_; rintro e w2 ⟨rfl, rfl⟩))
      go_wp2
      refine bodyPost_via (fun W => Own W (w.heap.size + 1) 50 [.int .u64 0, .int .u64 0, .int .u64 0, .int .i32 x.pred, .int .u64 0, .int .u64 0, .int .u64 0, .int .i32 x.succ, .bool x.nop, .bool x.quiet, .slice (some ⟨w.heap.size + 1 + 1, 0, none⟩) x.fn x.fn] ∧ W.heap[w.heap.size + 1 + 1]? = wr.heap[w.heap.size + 1 + 1]? ∧ Below (w.heap.size + 1) wr W)
        (chain11 wr (w.heap.size + 1) _ _ _ _ _ _ _ _ _ _ _ _ _ _ _ _ _ _ _ _ _ _ _ _ hoz hown.lt) ?_
      intro W ⟨hW1, hW2, hW3⟩
      exact bodyPost_ret (v := nbVal x (some ⟨w.heap.size + 1 + 1, 0, none⟩) x.fn x.fn) (res38 _ _ (w.heap.size + 1) _ _ _ _ _ _ _ _ _ _ _ rfl hW1) rfl ⟨_, _, rfl, HR4.out.kept hW2, hbel.trans (hW3.mono (by omega))⟩

set_option maxHeartbeats 1000000 in
theorem nb_none (x : Tab) (w : World) (hfa : x.fa = none) (hfn : x.fn = 0) :
    Calls Try.prog 38 #[x.val] w fun e w' => ∃ c', e = .returned (nbVal x none 0 c') ∧ Below w.heap.size w w' := by
  unfold Tab.val
  rw [hfa, hfn]
  have hnil := fun w a n c => run_neq_slice_nil_any (P := Try.prog) w 30 21 a n c 0 0 Try.underlying30
  go_enter Try.func38, Try.ntmps38
  go_wp2
  go_region_held3 (fun w' => w'.cell? ⟨w.heap.size, 0, none⟩ = some (.int .i32 x.pred) ∧ w'.cell? ⟨w.heap.size, 1, none⟩ = some (.int .i32 x.succ) ∧ w'.cell? ⟨w.heap.size, 2, none⟩ = some (.bool x.nop) ∧ w'.cell? ⟨w.heap.size, 3, none⟩ = some (.bool x.quiet))
    (simp [go_sem, World.cell?_alloc_past])
    (first | (go_at_call 41; refine (peer41 _ _).mono ?_; rintro e w2 ⟨rfl, rfl⟩))
  go_wp2
  refine bodyPost_via (fun W => Own W (w.heap.size + 1) 50 [.int .u64 0, .int .u64 0, .int .u64 0, .int .i32 x.pred, .int .u64 0, .int .u64 0, .int .u64 0, .int .i32 x.succ, .bool x.nop, .bool x.quiet, .slice none 0 0] ∧ Below w.heap.size w W)
    (chain4 w _ _ _ _) ?_
  intro W ⟨hW1, hW2⟩
  exact bodyPost_ret (v := nbVal x none 0 0) (res38 _ _ (w.heap.size + 1) _ _ _ _ _ _ _ _ _ _ _ rfl hW1) rfl ⟨_, rfl, hW2⟩

/-- zzNeighbours_b1. -/
theorem nb38 (x : Tab) (w : World) (hfn : x.fn ≤ 1048576) (hr : Row w x.fa x.fn fun i => .int .i32 (x.fol i)) :
    Calls Try.prog 38 #[x.val] w fun e w' => ∃ a' c', e = .returned (nbVal x a' x.fn c') ∧ Row4 w.heap.size w' a' x.fn x.fol ∧ Below w.heap.size w w' := by
  cases hfa : x.fa with
  | none =>
    have h0 : x.fn = 0 := by
      rcases hr with h | ⟨b, off, h, _⟩
      · exact h
      · rw [hfa] at h; cases h
    refine (nb_none x w hfa h0).mono fun e w' ⟨c', he, hb⟩ => ⟨none, c', by rw [h0]; exact he, .inl h0, hb⟩
  | some y => exact nb_some x y w hfa hfn (hfa ▸ hr)

end Go.Proofs.Qxb6600017a
