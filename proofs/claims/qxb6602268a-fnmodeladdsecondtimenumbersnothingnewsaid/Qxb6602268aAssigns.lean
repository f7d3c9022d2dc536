/-
  Seat b6602268a: (*model).assigns.
-/
import Derived.Test.Qxb6602268aSeen
namespace Go.Proofs.Qxb6602268a
open Go.RowKit Go.Maps

theorem info91 : (Try.prog.info? 91).map (fun i => (i.zero, i.size, i.bytes)) = some (some (.agg #[.int .i32 0, .int .i32 0]), 2, 8) := by kernel_rfl

theorem keep2 {w W : World} {ga go : Nat} {p q : Addr} {u v : Value} (h1 : w.cell? p = some u) (h2 : w.cell? q = some v) (hp : p.block ≠ ga ∧ p.block ≠ go) (hq : q.block ≠ ga ∧ q.block ≠ go) (h : Kept ga go w W) : W.cell? p = some u ∧ W.cell? q = some v :=
  ⟨by rw [World.cell?_of_block (h.block _ (World.block_lt_of_cell? w _ h1) hp.1 hp.2)]; exact h1, by rw [World.cell?_of_block (h.block _ (World.block_lt_of_cell? w _ h2) hq.1 hq.2)]; exact h2⟩

theorem Kept.cell {ga go : Nat} {w W : World} (h : Kept ga go w W) {p o : Nat} {u : Value} (hc : w.cell? ⟨p, o, none⟩ = some u) (h1 : p ≠ ga) (h2 : p ≠ go) : W.cell? ⟨p, o, none⟩ = some u := by
  rw [World.cell?_of_block (h.block _ (World.block_lt_of_cell? w _ hc) h1 h2)]; exact hc

theorem Kept.cellA {ga go : Nat} {w W : World} (h : Kept ga go w W) {p : Addr} {u : Value} (hc : w.cell? p = some u) (h1 : p.block ≠ ga) (h2 : p.block ≠ go) : W.cell? p = some u := by
  rw [World.cell?_of_block (h.block _ (World.block_lt_of_cell? w _ hc) h1 h2)]; exact hc
theorem Below.cellA {w W : World} (h : Below w.heap.size w W) {p : Addr} {u : Value} (hc : w.cell? p = some u) : W.cell? p = some u := by
  rw [World.cell?_of_block (h.block _ (World.block_lt_of_cell? w _ hc))]; exact hc
theorem news2 {W : World} {B : Nat} {t : TypeId} (hB : B = W.heap.size) (x y : Value) : ∀ j u, [x, y][j]? = some u → (W.alloc (.cells #[x, y] t)).cell? ((⟨B, 0, none⟩ : Addr).add j) = some u := by
  subst hB
  intro j u hj
  match j, hj with
  | 0, hj => simp at hj; subst hj; simp [Addr.add]
  | 1, hj => simp at hj; subst hj; simp [Addr.add]

theorem keyOf_s {s : ByteArray} {kl : Lit} (h : keyOf Try.prog 9 (.string s) = some kl) : kl = .string s.data.toList ∧ s.size ≤ maxLen := by
  obtain ⟨x, e, rfl, hl⟩ := Maps.keyOf_str Try.underlying9 h
  simp [encStr] at e
  subst e
  exact ⟨by simp, by simpa [ByteArray.size] using hl⟩

/-- What assigns hands back. -/
def Assigned (bk bv nk nv : Nat) (D0 Dk Dv : DataW Unit) (w : World) (e : Ending) (w' : World) : Prop :=
  ∃ v ss Dk' Dv', e = .returned v ∧ w'.ownsRow w.heap.size 91 2 v ss.length (cells2 (ss.map (pr Dk' Dv' D0))) ∧ ss.Perm (strKeys D0) ∧ Nums w' bk nk Dk' ∧ Nums w' bv nv Dv' ∧ Seen D0 Dk Dv Dk' Dv' ss ∧ Kept bk bv w w'

set_option maxHeartbeats 2000000 in
set_option maxRecDepth 100000 in
theorem assigns_map (W0 : World) (mb bk bv b nd nk nv : Nat) (D0 Dk Dv : DataW Unit) (w : World) (hW0 : Below W0.heap.size W0 w) (hbk : W0.heap.size ≤ bk) (hbv : W0.heap.size ≤ bv) (h1 : bk ≠ bv) (h2 : b ≠ bk) (h3 : b ≠ bv) (h4 : mb ≠ bk) (h5 : mb ≠ bv)
    (hmk : w.cell? ⟨mb, 1, none⟩ = some (.map (some bk))) (hmv : w.cell? ⟨mb, 2, none⟩ = some (.map (some bv))) (hown : w.ownsMap Try.prog 9 (Rp W0) b nd D0) (hK : Nums w bk nk Dk) (hV : Nums w bv nv Dv) (hnk : nk + nd ≤ 4194304) (hnv : nv + nd ≤ 4194304) :
    Calls Try.prog 49 #[.pointer (some ⟨mb, 0, none⟩), .map (some b)] w (Assigned bk bv (nk + nd) (nv + nd) D0 Dk Dv w) := by
  obtain ⟨i9, hi, hz0, hz1, hz2⟩ := info_parts info91
  have hbl := hown.lt
  have hkl := hK.lt
  have hvl := hV.lt
  have hsz := hown.size_le
  have hmb : mb < w.heap.size := World.block_lt_of_cell? w _ hmk
  have HMK : Hid (w.cell? ⟨mb, 1, none⟩ = some (.map (some bk))) := hmk
  have HMV : Hid (w.cell? ⟨mb, 2, none⟩ = some (.map (some bv))) := hmv
  clear hmk hmv
  go_enter Try.func49, Try.ntmps49
  go_wp2_with (first
    | (at_len; refine wpList_len_own _ rfl _ 46 rfl 9 81 Try.underlying46 _ b nd _ rfl hown ?_)
    | (at_make; refine wpList_make_own _ rfl _ _ 72 rfl w.heap.size 91 i9 _ 2 Try.underlying72 hi hz0 hz1 _ _ _ (Maps.size D0) rfl rfl rfl (by rw [hz2]; omega) (by unfold maxLen; omega) (Nat.le_refl _) ?_; intro w1 hrow1 hg1)
    | (at_range; refine wpList_range_own _ rfl _ 46 rfl 9 81 lawS Try.underlying46 _ b nd _ rfl (hown.kept hg1 (by simp)) ?_; intro w2 hrg2 hg2 hs2))
  go_frame
  have hr : w.heap.size ≤ w1.heap.size := hg1.size
  have hSt : St W0 w bk bv b w1.heap.size nd nk nv D0 Dk Dv (Maps.has D0) (Maps.size D0) (.slice (some ⟨w.heap.size, 0, none⟩) 0 (Maps.size D0)) 0 [] w2 :=
    ⟨hrg2, hrow1.kept hg2 (by simp [Value.ownBlock]), (hK.kept hg1 (by simp)).kept hg2 (by simp), (hV.kept hg1 (by simp)).kept hg2 (by simp), ((Kept.refl _ _ w).grown hg1 (fun j hj => by cases hj)).grown hg2 (fun j hj => by cases hj)⟩
  go_loopw [5] (fun v wr => ∃ left cnt ss Dk' Dv', St W0 w bk bv b w1.heap.size nd (nk + ss.length) (nv + ss.length) D0 Dk' Dv' left cnt v ss.length (cells2 (ss.map (pr Dk' Dv' D0))) wr ∧ ss.length + cnt ≤ nd ∧ Collected D0 left ss ∧ Seen D0 Dk Dv Dk' Dv' ss) (fun _ wr => wr.rangeLeft b w1.heap.size)
  case atStart => exact ⟨_, _, [], Dk, Dv, hSt, by simpa using hsz, Collected.start D0, Seen.start D0 Dk Dv⟩
  case round =>
    clear hSt hs2 hg2 hrg2 hrow1 hg1 hK hV
    obtain ⟨left, cnt, ss, Dk', Dv', hst, hcs, hC, hS⟩ := hrel
    go_wp2_with (at_next; refine wpList_next_ranges _ rfl _ rfl 9 lawS (Rp W0) Value.string Value.pointer (fun key kl hk => by obtain ⟨x, hx, _⟩ := Maps.keyOf_str Try.underlying9 hk; exact ⟨⟨x.toArray⟩, hx⟩) (fun v y hv => by rcases rp_inv hv with ⟨rfl, _⟩ | ⟨a, s, rfl, _⟩ <;> exact ⟨_, rfl⟩) b w1.heap.size nd _ _ _ rfl hst.rg ?_ ?_)
    · intro hc0 hl0
      go_wp2
      go_ret
      exact ⟨_, ss, Dk', Dv', rfl, hst.row, hC.perm hown lawS Try.underlying9 hl0, hst.hk.mono (by omega), hst.hv.mono (by omega), hS, hst.kept⟩
    · intro s c kl y yp w3 cnt3 hkey hlk hv hat hrg3 hlt hg3 hs3 hen
      obtain ⟨rfl, hss⟩ := keyOf_s hkey
      have hst3 : St W0 w bk bv b w1.heap.size nd (nk + ss.length) (nv + ss.length) D0 Dk' Dv' (fun z => left z && !z.sameKey (.string s.data.toList)) cnt3 _ ss.length (cells2 (ss.map (pr Dk' Dv' D0))) w3 :=
        ⟨hrg3, hst.row.kept hg3 (.inr (row_ne_iter hst.row hst.rg).symm), hst.hk.kept hg3 (by simp; omega), hst.hv.kept hg3 (by simp; omega), hst.kept.grown hg3 (fun j hj => by cases hj; exact .inl hr)⟩
      have hleft := hst.rg.left_eq
      have hC3 := hC.step hlk hat
      have hmk := HMK.out
      have hck := hst3.kept.cell hmk h4 h5
      clear hst hrg3 hg3 hs3 hC hlk hmk
      rcases rp_inv hv with ⟨hc, hy⟩ | ⟨pa, vs, hc, hpc, hvs, hy⟩
      · cases hc
        simp only [Prod.mk.injEq] at hy
        obtain ⟨rfl, rfl⟩ := hy
        clear hv
        go_wp2_with (first
          | (go_at_call 52; refine (number52 bk _ Dk' s 0 w3 hss hst3.hk (by omega)).mono ?_; rintro e w4 ⟨c1, Dk2, rfl, hk4, hnd1, hg4⟩; have hst4 := ((hst3.key hk4 hg4 h2 hkl h1.symm hr).more (World.grownBy_alloc w4 (.cells #[.int .i32 c1, .int .i32 0] 91) none)).more (World.grownBy_alloc _ (.cells #[.int .i32 c1, .int .i32 0] 91) none))
          | (at_builtin; refine wpList_append_own_at _ rfl _ _ 72 rfl w.heap.size 91 i9 _ 2 8 Try.underlying72 hi hz0 hz1 hz2 rfl (by decide) _ ss.length _ rfl hst4.row ⟨w4.heap.size + 1, 0, none⟩ 1 1 [.int .i32 c1, .int .i32 0] rfl rfl (news2 (by simp) _ _) (by simp [Value.oneCell']) (by unfold maxLen; omega) (by omega) (by have := hst4.kept.size; exact this) ?_; intro v' w5 hrow5 hg5 _ _))
        have hst5 := hst4.appended hrow5 hg5 hbl hkl hvl
        obtain ⟨hS5, hmap⟩ := hS.step hat hnd1 (.inl ⟨rfl, rfl, rfl⟩)
        clear hS hrow5 hg5 hst4 hk4 hg4 hst3
        go_wp2
        go_roundw
        case rel =>
          refine ⟨_, cnt3, ss ++ [s.data.toList], Dk2, Dv', ?_, by simp; omega, hC3, hS5⟩
          rw [hmap, cells2_append]
          simp only [List.length_append, List.length_cons, List.length_nil]
          exact hst5.mono (by omega)
        case measure => rw [hst5.rg.left_eq, hleft]; exact hlt
      · cases hc
        simp only [Prod.mk.injEq] at hy
        obtain ⟨rfl, rfl⟩ := hy
        clear hv
        have hcp := hst3.kept.cellA (Below.cellA hW0 hpc) (by have := World.block_lt_of_cell? _ _ hpc; omega) (by have := World.block_lt_of_cell? _ _ hpc; omega)
        have hpl := World.block_lt_of_cell? _ _ hpc
        go_wp2_with (go_at_call 52; refine (number52 bk _ Dk' s 0 w3 hss hst3.hk (by omega)).mono ?_; rintro e w4 ⟨c1, Dk2, rfl, hk4, hnd1, hg4⟩)
        have hst4 := hst3.key hk4 hg4 h2 hkl h1.symm hr
        have hmv := HMV.out
        refine wp_via (fun W => St W0 w bk bv b w1.heap.size nd (nk + ss.length + 1) (nv + ss.length) D0 Dk2 Dv' (fun z => left z && !z.sameKey (.string s.data.toList)) cnt3 u5 ss.length (cells2 (ss.map (pr Dk' Dv' D0))) W ∧ Own W w4.heap.size 91 [.int .i32 c1, .int .i32 0] ∧ W.cell? ⟨mb, 2, none⟩ = some (.map (some bv)) ∧ W.cell? pa = some (.string vs)) ?_ ?_
        · refine ⟨hst4.more (World.grownBy_alloc w4 _ none), Own.new w4 _ _, ?_, ?_⟩
          · exact (hst4.more (World.grownBy_alloc w4 _ none)).kept.cell hmv h4 h5
          · exact (hst4.more (World.grownBy_alloc w4 _ none)).kept.cellA (Below.cellA hW0 hpc) (by omega) (by omega)
        intro W ⟨hst6, hq, hcv, hcp⟩
        have hw4 : w.heap.size ≤ w4.heap.size := hst4.kept.size
        have hr4 : w1.heap.size < w4.heap.size := hst4.rg.lt
        have hrow4 := hst4.row.lt
        have hf := hq.frozen 1
        have hqc : W.cell? ⟨w4.heap.size, 1, none⟩ = some (.int .i32 0) := hq.cell 1
        clear hst4 hst3 hk4 hg4 hck hmv hpc
        have hmb4 : mb ≠ w4.heap.size := by omega
        have hpb : pa.block ≠ bv := by omega
        have hpq : pa.block ≠ w4.heap.size := by have := hW0.size; omega
        have hnv2 : nv + ss.length < 4194304 := by omega
        go_region_held3 (fun w' => w'.cell? ⟨mb, 2, none⟩ = some (.map (some bv)) ∧ w'.cell? pa = some (.string vs))
          ((refine keep2 hcv hcp ⟨h5, hmb4⟩ ⟨hpb, hpq⟩ (?_ : Kept bv w4.heap.size W _); repeat (first | with_reducible exact Kept.refl _ _ _ | with_reducible exact hkX | with_reducible refine Kept.drew ?_ | with_reducible refine Kept.seto ?_ _ _)))
          (first | (go_at_call 52; refine (number52 bv _ Dv' vs 1 _ hvs (by exact hst6.hv) hnv2).mono ?_; rintro e w7 ⟨d1, Dv2, rfl, hv7, hnd2, hg7⟩; have hg7' : W.grownBy w7 (some bv) := ⟨hg7.os, hg7.tape, hg7.output, hg7.size, hg7.block⟩; have hkX : Kept bv w4.heap.size W w7 := (Kept.refl _ _ _).grown hg7' (fun j hj => by cases hj; exact .inr (.inl rfl)); have hf7 : w7.frozen? ⟨w4.heap.size, 1, none⟩ = false := (World.frozen?_of_block (hg7'.block w4.heap.size hq.lt (by simp; omega))).trans hf; have hc7 : w7.cell? ⟨w4.heap.size, 1, none⟩ = some (.int .i32 0) := (World.cell?_of_block (hg7'.block w4.heap.size hq.lt (by simp; omega))).trans hqc))
        refine exit_via (fun W' => St W0 w bk bv b w1.heap.size nd (nk + ss.length + 1) (nv + ss.length + 1) D0 Dk2 Dv2 (fun z => left z && !z.sameKey (.string s.data.toList)) cnt3 u5 ss.length (cells2 (ss.map (pr Dk' Dv' D0))) W' ∧ Own W' w4.heap.size 91 [.int .i32 c1, .int .i32 d1]) ?_ ?_
        · refine ⟨(hst6.value hv7 hg7' h3 hvl h1 hr).far (grown_set _ _ _ _) (by simp; omega) (by simp; omega) (by simp; omega) (by simp; omega) ?_ (fun j hj => by cases hj; exact hw4), ?_⟩
          · cases ho : u5.ownBlock with
            | none => exact .inl rfl
            | some k => have := hrow4 k ho; exact .inr (by simp; omega)
          · have hq7 : Own w7 w4.heap.size 91 [.int .i32 c1, .int .i32 0] := (hg7'.block _ hq.lt (by simp; omega)).trans hq
            exact hq7.set 1 (.int .i32 d1)
        intro W' ⟨hst8, hq8⟩
        have hqa := hq8.cell 0
        have hqb := hq8.cell 1
        simp only [List.getElem?_cons_zero, List.getElem?_cons_succ] at hqa hqb
        have hst9 := hst8.more (World.grownBy_alloc W' (.cells #[.int .i32 c1, .int .i32 d1] 91) none)
        obtain ⟨hS5, hmap⟩ := hS.step hat hnd1 (.inr ⟨_, rfl, hnd2⟩)
        clear hst8 hS hst6 hq hcv hcp hg7 hg7' hkX hf7 hf hv7 hc7 hqc
        go_wp2_with (at_builtin; refine wpList_append_own_at _ rfl _ _ 72 rfl w.heap.size 91 i9 _ 2 8 Try.underlying72 hi hz0 hz1 hz2 rfl (by decide) _ ss.length _ rfl hst9.row ⟨W'.heap.size, 0, none⟩ 1 1 [.int .i32 c1, .int .i32 d1] rfl rfl (news2 rfl _ _) (by simp [Value.oneCell']) (by unfold maxLen; omega) (by omega) (by have := hst9.kept.size; exact this) ?_; intro v' w5 hrow5 hg5 _ _)
        have hst5 := hst9.appended hrow5 hg5 hbl hkl hvl
        clear hrow5 hg5 hst9 hqa hqb hq8
        go_wp2
        go_roundw
        case rel =>
          refine ⟨_, cnt3, ss ++ [s.data.toList], Dk2, Dv2, ?_, by simp; omega, hC3, hS5⟩
          rw [hmap, cells2_append]
          simp only [List.length_append, List.length_cons, List.length_nil]
          exact hst5
        case measure => rw [hst5.rg.left_eq, hleft]; exact hlt

/-- A transaction's map that lies below T: nil, or a map. -/
def KVb (W0 w : World) (kv : Value) (T n : Nat) (D : DataW Unit) : Prop :=
  (kv = .map none ∧ D = .map []) ∨ ∃ b, kv = .map (some b) ∧ b < T ∧ w.ownsMap Try.prog 9 (Rp W0) b n D

set_option maxHeartbeats 1000000 in
theorem assigns_nil (mb bk bv nk nv : Nat) (Dk Dv : DataW Unit) (w : World) (hK : Nums w bk nk Dk) (hV : Nums w bv nv Dv) :
    Calls Try.prog 49 #[.pointer (some ⟨mb, 0, none⟩), .map none] w (Assigned bk bv nk nv (.map []) Dk Dv w) := by
  obtain ⟨i9, hi, hz0, hz1, hz2⟩ := info_parts info91
  go_enter Try.func49, Try.ntmps49
  go_wp2_with (at_make; refine wpList_make_own _ rfl _ _ 72 rfl w.heap.size 91 i9 _ 2 Try.underlying72 hi hz0 hz1 _ _ _ 0 rfl rfl rfl (by omega) (Nat.zero_le _) (Nat.le_refl _) ?_; intro w1 hrow1 hg1; have hrg := run_range_nilMap (P := Try.prog) w1 46 9 81 Try.underlying46; have hnx : ∀ ty, (Instr.next (.pointer (some ⟨w1.heap.size, 0, none⟩)) false ty).run Try.prog (w1.alloc (.mapIter none 0 #[] 0)) = _ := fun ty => run_next_nilMap _ ty 0 0 #[])
  refine wp_loop_rounds 1 ?_
  rw [rounds_succ]
  go_wp2
  go_ret
  exact ⟨_, [], Dk, Dv, rfl, hrow1.alloc _, List.Perm.refl _, (hK.kept hg1 (by simp)).alloc _, (hV.kept hg1 (by simp)).alloc _, Seen.start _ _ _, ((Kept.refl _ _ w).grown hg1 (fun j hj => by cases hj)).alloc _⟩

theorem assigns49 (W0 : World) (mb bk bv nd nk nv T : Nat) (kv : Value) (D0 Dk Dv : DataW Unit) (w : World) (hW0 : Below W0.heap.size W0 w) (hT : W0.heap.size ≤ T) (hbk : T ≤ bk) (hbv : T ≤ bv) (h1 : bk ≠ bv) (h4 : mb ≠ bk) (h5 : mb ≠ bv)
    (hmk : w.cell? ⟨mb, 1, none⟩ = some (.map (some bk))) (hmv : w.cell? ⟨mb, 2, none⟩ = some (.map (some bv))) (hown : KVb W0 w kv T nd D0) (hK : Nums w bk nk Dk) (hV : Nums w bv nv Dv) (hnk : nk + nd ≤ 4194304) (hnv : nv + nd ≤ 4194304) :
    Calls Try.prog 49 #[.pointer (some ⟨mb, 0, none⟩), kv] w (Assigned bk bv (nk + nd) (nv + nd) D0 Dk Dv w) := by
  rcases hown with ⟨rfl, rfl⟩ | ⟨b, rfl, hb, hown⟩
  · exact assigns_nil mb bk bv (nk + nd) (nv + nd) Dk Dv w (hK.mono (by omega)) (hV.mono (by omega))
  · exact assigns_map W0 mb bk bv b nd nk nv D0 Dk Dv w hW0 (by omega) (by omega) h1 (by omega) (by omega) h4 h5 hmk hmv hown hK hV hnk hnv
end Go.Proofs.Qxb6602268a
