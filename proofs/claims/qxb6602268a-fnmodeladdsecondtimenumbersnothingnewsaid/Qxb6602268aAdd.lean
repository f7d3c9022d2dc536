/-
  Seat b6602268a: (*model).add.
-/
import Derived.Test.Qxb6602268aAdded
namespace Go.Proofs.Qxb6602268a
open Go.RowKit Go.Maps

/-- Does add pass the transaction by? -/
def skips (o : ByteArray) (Dw : DataW Unit) : Bool := (o.toList == [97, 98, 111, 114, 116, 101, 100]) || ((o.toList == [117, 110, 107, 110, 111, 119, 110]) && ((Maps.size Dw : Int) == 0))

theorem kv_len {W0 w : World} {kv : Value} {T n : Nat} {D : DataW Unit} (h : KVb W0 w kv T n D) (ty : TypeId) : (Builtin.len_ #[46] ty #[kv]).run Try.prog w = .ok (.int .i64 (Maps.size D)) w := by
  rcases h with ⟨rfl, rfl⟩ | ⟨b, rfl, _, h⟩
  · kernel_rfl
  · exact h.len Try.underlying46 ty
theorem KVb.alloc {W0 w : World} {kv : Value} {T n : Nat} {D : DataW Unit} (h : KVb W0 w kv T n D) (o : Obj) : KVb W0 (w.alloc o) kv T n D := by
  rcases h with h | ⟨b, h1, h2, h3⟩
  · exact .inl h
  · exact .inr ⟨b, h1, h2, h3.alloc _⟩

set_option maxHeartbeats 1000000 in
set_option maxRecDepth 100000 in
theorem add_skip (W0 : World) (mb T nw : Nat) (cl c r : Int) (rkv wkv : Value) (o : ByteArray) (Dw : DataW Unit) (w : World) (hW : KVb W0 w wkv T nw Dw) (hsk : skips o Dw = true) :
    Calls Try.prog 41 #[.pointer (some ⟨mb, 0, none⟩), .agg #[.int .i64 cl, .int .i64 c, .int .i64 r, rkv, wkv, .string o]] w fun e w' => e = .returned (.tuple #[]) ∧ Below w.heap.size w w' := by
  have HL := fun ty => kv_len (hW.alloc (.cells #[.int .i64 cl, .int .i64 c, .int .i64 r, rkv, wkv, .string o] 54)) ty
  cases hA : (o.toList == [97, 98, 111, 114, 116, 101, 100]) with
  | true =>
    go_enter Try.func41, Try.ntmps41
    go_wp2
    refine bodyPost_ret (results_none rfl _ _ _) rfl ?_
    exact ⟨rfl, (Below.refl _ _).alloc (Nat.le_refl _) _⟩
  | false =>
    have hU : (o.toList == [117, 110, 107, 110, 111, 119, 110]) = true := by
      unfold skips at hsk; rw [hA] at hsk; simp only [Bool.false_or, Bool.and_eq_true] at hsk; exact hsk.1
    have hZ : ((Maps.size Dw : Int) == 0) = true := by
      unfold skips at hsk; rw [hA] at hsk; simp only [Bool.false_or, Bool.and_eq_true] at hsk; exact hsk.2
    go_enter Try.func41, Try.ntmps41
    go_wp2
    refine bodyPost_ret (results_none rfl _ _ _) rfl ?_
    exact ⟨rfl, (Below.refl _ _).alloc (Nat.le_refl _) _⟩

/-- What the region reads of the transaction. -/
def TxCells (tb : Nat) (c r : Int) (rkv wkv : Value) (o : ByteArray) (w : World) : Prop :=
  w.cell? ⟨tb, 1, none⟩ = some (.int .i64 c) ∧ w.cell? ⟨tb, 2, none⟩ = some (.int .i64 r) ∧ w.cell? ⟨tb, 3, none⟩ = some rkv ∧ w.cell? ⟨tb, 4, none⟩ = some wkv ∧ w.cell? ⟨tb, 5, none⟩ = some (.string o)
/-- What the region holds: the transaction's cells; and m.ops, till it is stored. -/
def RegS (tb mb : Nat) (c r : Int) (rkv wkv : Value) (o : ByteArray) (ov : Value) (l : Array Bool) (w : World) : Prop :=
  TxCells tb c r rkv wkv o w ∧ (l.getD 26 true = false → w.cell? ⟨mb, 0, none⟩ = some ov)

section
variable {ops : Array Oper} {Q : Exit → Act → World → Prop} {tb mb : Nat} {c r : Int} {rkv wkv : Value} {o : ByteArray} {ov : Value} {oi : Oper} {d : Option Tmp} {fuel : Nat} {listed : Array Bool} {a : Act} {w : World}

theorem regS_set {i : Nat} (h : i ≠ 26) (l : Array Bool) (w : World) : RegS tb mb c r rkv wkv o ov l w ↔ RegS tb mb c r rkv wkv o ov (l.setIfInBounds i true) w := by
  unfold RegS; rw [getD_set_ne true h]

theorem takeT (i : Nat) (v : Value) (hi : ops[i]? = some oi) (hd : oi.dst = d) (hne : i ≠ 26) (hs : Region.noSelect ops = true) (hf : Region.free .any ops listed i = true) (hr : (Region.ready .any ops listed).contains i = true)
    (hQ : ∀ c a w, Q (.panic c) (a.put d v) w → Q (.panic c) a w) (hw : Region.wanted oi (yielded ops a.tmps) = true) (hy : ∀ w, TxCells tb c r rkv wkv o w → (execOp a.eval oi).run Try.prog w = .ok (.value v) w)
    (hS : ∀ l, RegS tb mb c r rkv wkv o ov l w) (h : AnyL Try.prog .any ops Q (RegS tb mb c r rkv wkv o ov) fuel (listed.setIfInBounds i true) (a.put d v) w) : AnyL Try.prog .any ops Q (RegS tb mb c r rkv wkv o ov) (fuel + 1) listed a w :=
  AnyL_take (fun _ => True) hi hd hs hf hr hQ (regS_set hne) (fun _ _ _ _ _ _ => trivial) trivial hw (fun w _ _ hS => hy w hS.1) (hS _) h

theorem takeM {o26 : Oper} (v : Value) (hi : ops[4]? = some oi) (hd : oi.dst = d) (h26 : ops[26]? = some o26) (he : (o26.after.any fun e => e.on == 4 && Region.binds .any e) = true) (hs : Region.noSelect ops = true) (hf : Region.free .any ops listed 4 = true) (hr : (Region.ready .any ops listed).contains 4 = true)
    (hQ : ∀ c a w, Q (.panic c) (a.put d v) w → Q (.panic c) a w) (hl : listed.getD 26 true = false) (hw : Region.wanted oi (yielded ops a.tmps) = true) (hy : ∀ w, w.cell? ⟨mb, 0, none⟩ = some ov → (execOp a.eval oi).run Try.prog w = .ok (.value v) w)
    (hS : ∀ l, RegS tb mb c r rkv wkv o ov l w) (h : AnyL Try.prog .any ops Q (RegS tb mb c r rkv wkv o ov) fuel (listed.setIfInBounds 4 true) (a.put d v) w) : AnyL Try.prog .any ops Q (RegS tb mb c r rkv wkv o ov) (fuel + 1) listed a w := by
  refine AnyL_take (fun l => l.getD 26 true = false) hi hd hs hf hr hQ (regS_set (by decide)) ?_ hl hw (fun w _ hl hS => hy w (hS.2 hl)) (hS _) h
  intro l j h0 hj hne h4
  obtain ⟨_, oj, hoj, hall⟩ := mem_ready.1 hj
  by_cases hj26 : j = 26
  · subst hj26
    rw [h26] at hoj
    cases hoj
    obtain ⟨e, hem, heb⟩ := Array.any_eq_true'.1 he
    simp only [Bool.and_eq_true, beq_iff_eq] at heb
    have := hall e hem heb.2
    rw [heb.1] at this
    rcases Nat.lt_or_ge 4 l.size with h' | h'
    · simp [h'] at h4 this; rw [h4] at this; cases this
    · simp [Array.getElem?_eq_none h'] at this
  · rw [getD_set_ne true hj26]; exact h0
end

theorem txCells_new (w : World) (cl c r : Int) (rkv wkv : Value) (o : ByteArray) : TxCells w.heap.size c r rkv wkv o (w.alloc (.cells #[.int .i64 cl, .int .i64 c, .int .i64 r, rkv, wkv, .string o] 54)) := by
  have h : Own (w.alloc (.cells #[.int .i64 cl, .int .i64 c, .int .i64 r, rkv, wkv, .string o] 54)) w.heap.size 54 [.int .i64 cl, .int .i64 c, .int .i64 r, rkv, wkv, .string o] := Own.new w 54 _
  exact ⟨h.cell 1, h.cell 2, h.cell 3, h.cell 4, h.cell 5⟩
theorem TxCells.same {tb : Nat} {c r : Int} {rkv wkv : Value} {o : ByteArray} {w w' : World} (h : TxCells tb c r rkv wkv o w) (hb : w'.heap[tb]? = w.heap[tb]?) : TxCells tb c r rkv wkv o w' := by
  obtain ⟨h1, h2, h3, h4, h5⟩ := h
  exact ⟨(World.cell?_of_block (a := ⟨tb, 1, none⟩) hb).trans h1, (World.cell?_of_block (a := ⟨tb, 2, none⟩) hb).trans h2, (World.cell?_of_block (a := ⟨tb, 3, none⟩) hb).trans h3, (World.cell?_of_block (a := ⟨tb, 4, none⟩) hb).trans h4, (World.cell?_of_block (a := ⟨tb, 5, none⟩) hb).trans h5⟩
theorem KVb.kept {W0 w w' : World} {kv : Value} {T n : Nat} {D : DataW Unit} (h : KVb W0 w kv T n D) (hb : ∀ k, k < T → k < w.heap.size → w'.heap[k]? = w.heap[k]?) : KVb W0 w' kv T n D := by
  rcases h with h | ⟨b, h1, h2, h3⟩
  · exact .inl h
  · exact .inr ⟨b, h1, h2, ownsMap_same h3 (hb b h2 h3.lt)⟩
theorem info71 : (Try.prog.info? 71).map (fun i => (i.zero, i.size, i.bytes)) = some (some (.pointer none), 1, 8) := by kernel_rfl
theorem news1 {W : World} {B : Nat} {t : TypeId} (hB : B = W.heap.size) (x : Value) : ∀ j u, [x][j]? = some u → (W.alloc (.cells #[x] t)).cell? ((⟨B, 0, none⟩ : Addr).add j) = some u := by
  subst hB; exact cell_one_new _ _ _

set_option maxHeartbeats 8000000 in
set_option maxRecDepth 100000 in
theorem add_ops (W0 : World) (T mb bk bv n nk nv nr nw : Nat) (Dr Dw Dk Dv : DataW Unit) (ov x3 x4 : Value) (ps : List Value) (cl c r : Int) (rkv wkv : Value) (o : ByteArray) (w : World) (hW0 : Below W0.heap.size W0 w) (hT : W0.heap.size ≤ T) (hbk : T ≤ bk) (hbv : T ≤ bv) (hne : bk ≠ bv) (h1 : bk < mb) (h2 : bv < mb)
    (hRk : KVb W0 w rkv T nr Dr) (hWk : KVb W0 w wkv T nw Dw) (hsk : skips o Dw = false) (hM : Model w mb bk bv nk nv Dk Dv ov x3 x4 n ps) (hnk : nk + nr + nw ≤ 4194304) (hnv : nv + nr + nw ≤ 4194304) (hn : n ≤ 4) :
    Calls Try.prog 41 #[.pointer (some ⟨mb, 0, none⟩), .agg #[.int .i64 cl, .int .i64 c, .int .i64 r, rkv, wkv, .string o]] w fun e w' => e = .returned (.tuple #[]) ∧ ∃ p ssr ssw Dk' Dv' ov', Added mb bk bv (nk + nr + nw) (nv + nr + nw) Dr Dw Dk Dv ov x3 x4 n ps c r (o.toList == [117, 110, 107, 110, 111, 119, 110]) w w' p ssr ssw Dk' Dv' ov' := by
  obtain ⟨i7, hi, hz0, hz1, hz2⟩ := info_parts info71
  have HL := fun ty => kv_len (hWk.alloc (.cells #[.int .i64 cl, .int .i64 c, .int .i64 r, rkv, wkv, .string o] 54)) ty
  have hA : (o.toList == [97, 98, 111, 114, 116, 101, 100]) = false := by
    unfold skips at hsk; simp only [Bool.or_eq_false_iff] at hsk; exact hsk.1
  have hZ : (o.toList == [117, 110, 107, 110, 111, 119, 110]) = false ∨ ((o.toList == [117, 110, 107, 110, 111, 119, 110]) = true ∧ ((Maps.size Dw : Int) == 0) = false) := by
    unfold skips at hsk; rw [hA] at hsk
    cases hU : (o.toList == [117, 110, 107, 110, 111, 119, 110]) with
    | false => exact .inl rfl
    | true => rw [hU] at hsk; exact .inr ⟨rfl, by simpa using hsk⟩
  have HM : Hid (Model w mb bk bv nk nv Dk Dv ov x3 x4 n ps) := hM
  have hov : ∀ k, ov.ownBlock = some k → k < w.heap.size := fun k hk => (hM.row.lt k hk).2
  have hmbl : mb < w.heap.size := hM.own.lt
  clear hM hsk
  rcases hZ with hU | ⟨hU, hZ⟩
  · rw [hU]
    go_enter Try.func41, Try.ntmps41
    go_wp2
    clear HL hA
    refine wp_via (fun W => TxCells w.heap.size c r rkv wkv o W ∧ Model W mb bk bv nk nv Dk Dv ov x3 x4 n ps ∧ KVb W0 W rkv T nr Dr ∧ KVb W0 W wkv T nw Dw ∧ Below w.heap.size w W ∧ w.heap.size < W.heap.size) ⟨txCells_new w cl c r rkv wkv o, ⟨HM.out.own.alloc _, HM.out.row.alloc _, HM.out.hk.alloc _, HM.out.hv.alloc _⟩, hRk.alloc _, hWk.alloc _, (Below.refl _ _).alloc (Nat.le_refl _) _, by simp⟩ ?_
    intro W ⟨htx, hMW, hRW, hWW, hbW, hlW⟩
    have hm0 : W.cell? ⟨mb, 0, none⟩ = some ov := hMW.own.cell 0
    have hS0 : ∀ l, RegS w.heap.size mb c r rkv wkv o ov l W.drew := fun l => ⟨htx, fun _ => hm0⟩
    have HMW : Hid (Model W mb bk bv nk nv Dk Dv ov x3 x4 n ps) := hMW
    have hmbW := hMW.own.lt
    clear hMW
    refine wp_region_L (S := RegS w.heap.size mb c r rkv wkv o ov) (by kernel_rfl) ?_
    refine takeT 0 (.pointer (some ⟨mb, 0, none⟩)) rfl rfl (by decide) (by kernel_rfl) (by kernel_rfl) (by kernel_rfl) (fun _ _ _ h => h) rfl ?_ hS0 ?_
    · rintro w' ⟨hc1, hc2, hc3, hc4, hc5⟩
      go_simp
    go_frame
    refine takeT 1 (.pointer (some ⟨mb, 0, none⟩)) rfl rfl (by decide) (by kernel_rfl) (by kernel_rfl) (by kernel_rfl) (fun _ _ _ h => h) rfl ?_ hS0 ?_
    · rintro w' ⟨hc1, hc2, hc3, hc4, hc5⟩
      go_simp
    go_frame
    refine takeT 2 (.pointer (some ⟨mb, 0, none⟩)) rfl rfl (by decide) (by kernel_rfl) (by kernel_rfl) (by kernel_rfl) (fun _ _ _ h => h) rfl ?_ hS0 ?_
    · rintro w' ⟨hc1, hc2, hc3, hc4, hc5⟩
      go_simp
    go_frame
    refine takeT 3 (.pointer (some ⟨mb, 0, none⟩)) rfl rfl (by decide) (by kernel_rfl) (by kernel_rfl) (by kernel_rfl) (fun _ _ _ h => h) rfl ?_ hS0 ?_
    · rintro w' ⟨hc1, hc2, hc3, hc4, hc5⟩
      go_simp
    go_frame
    refine takeM ov rfl rfl rfl (by kernel_rfl) (by kernel_rfl) (by kernel_rfl) (by kernel_rfl) (fun _ _ _ h => h) (by kernel_rfl) rfl ?_ hS0 ?_
    · intro w' hc'
      go_simp
    go_frame
    refine takeT 5 (.pointer (some ⟨mb, 0, none⟩)) rfl rfl (by decide) (by kernel_rfl) (by kernel_rfl) (by kernel_rfl) (fun _ _ _ h => h) rfl ?_ hS0 ?_
    · rintro w' ⟨hc1, hc2, hc3, hc4, hc5⟩
      go_simp
    go_frame
    refine takeT 6 (.pointer (some ⟨w.heap.size, 3, none⟩)) rfl rfl (by decide) (by kernel_rfl) (by kernel_rfl) (by kernel_rfl) (fun _ _ _ h => h) rfl ?_ hS0 ?_
    · rintro w' ⟨hc1, hc2, hc3, hc4, hc5⟩
      go_simp
    go_frame
    refine takeT 7 rkv rfl rfl (by decide) (by kernel_rfl) (by kernel_rfl) (by kernel_rfl) (fun _ _ _ h => h) rfl ?_ hS0 ?_
    · rintro w' ⟨hc1, hc2, hc3, hc4, hc5⟩
      go_simp
    go_frame
    refine takeT 9 (.pointer (some ⟨mb, 0, none⟩)) rfl rfl (by decide) (by kernel_rfl) (by kernel_rfl) (by kernel_rfl) (fun _ _ _ h => h) rfl ?_ hS0 ?_
    · rintro w' ⟨hc1, hc2, hc3, hc4, hc5⟩
      go_simp
    go_frame
    refine takeT 10 (.pointer (some ⟨w.heap.size, 4, none⟩)) rfl rfl (by decide) (by kernel_rfl) (by kernel_rfl) (by kernel_rfl) (fun _ _ _ h => h) rfl ?_ hS0 ?_
    · rintro w' ⟨hc1, hc2, hc3, hc4, hc5⟩
      go_simp
    go_frame
    refine takeT 11 wkv rfl rfl (by decide) (by kernel_rfl) (by kernel_rfl) (by kernel_rfl) (fun _ _ _ h => h) rfl ?_ hS0 ?_
    · rintro w' ⟨hc1, hc2, hc3, hc4, hc5⟩
      go_simp
    go_frame
    refine takeT 13 (.pointer (some ⟨w.heap.size, 1, none⟩)) rfl rfl (by decide) (by kernel_rfl) (by kernel_rfl) (by kernel_rfl) (fun _ _ _ h => h) rfl ?_ hS0 ?_
    · rintro w' ⟨hc1, hc2, hc3, hc4, hc5⟩
      go_simp
    go_frame
    refine takeT 14 (.int .i64 c) rfl rfl (by decide) (by kernel_rfl) (by kernel_rfl) (by kernel_rfl) (fun _ _ _ h => h) rfl ?_ hS0 ?_
    · rintro w' ⟨hc1, hc2, hc3, hc4, hc5⟩
      go_simp
    go_frame
    refine takeT 15 (.pointer (some ⟨w.heap.size, 2, none⟩)) rfl rfl (by decide) (by kernel_rfl) (by kernel_rfl) (by kernel_rfl) (fun _ _ _ h => h) rfl ?_ hS0 ?_
    · rintro w' ⟨hc1, hc2, hc3, hc4, hc5⟩
      go_simp
    go_frame
    refine takeT 16 (.int .i64 r) rfl rfl (by decide) (by kernel_rfl) (by kernel_rfl) (by kernel_rfl) (fun _ _ _ h => h) rfl ?_ hS0 ?_
    · rintro w' ⟨hc1, hc2, hc3, hc4, hc5⟩
      go_simp
    go_frame
    refine takeT 17 (.pointer (some ⟨w.heap.size, 5, none⟩)) rfl rfl (by decide) (by kernel_rfl) (by kernel_rfl) (by kernel_rfl) (fun _ _ _ h => h) rfl ?_ hS0 ?_
    · rintro w' ⟨hc1, hc2, hc3, hc4, hc5⟩
      go_simp
    go_frame
    refine takeT 18 (.string o) rfl rfl (by decide) (by kernel_rfl) (by kernel_rfl) (by kernel_rfl) (fun _ _ _ h => h) rfl ?_ hS0 ?_
    · rintro w' ⟨hc1, hc2, hc3, hc4, hc5⟩
      go_simp
    go_frame
    refine takeT 19 (.bool (o.toList == [117, 110, 107, 110, 111, 119, 110])) rfl rfl (by decide) (by kernel_rfl) (by kernel_rfl) (by kernel_rfl) (fun _ _ _ h => h) rfl ?_ hS0 ?_
    · rintro w' ⟨hc1, hc2, hc3, hc4, hc5⟩
      go_simp
    go_frame
    refine AnyL_one (i := 8) (by kernel_rfl) rfl rfl ?_
    intro K hK
    go_simp
    refine (assigns49 W0 mb bk bv nr nk nv T rkv Dr Dk Dv W.drew ((hW0.trans (hbW.mono hW0.size)).drew) hT hbk hbv hne (by omega) (by omega) (HMW.out.own.cell 1) (HMW.out.own.cell 2) hRW HMW.out.hk HMW.out.hv (by omega) (by omega)).mono ?_
    rintro e w2 ⟨rv, ssr, Dk1, Dv1, rfl, hrow1, hp1, hk1, hv1, hs1, hkp1'⟩
    have hkp1 : Kept bk bv W w2 := ⟨hkp1'.os, hkp1'.tape, hkp1'.output, hkp1'.size, hkp1'.block⟩
    clear hkp1'
    obtain ⟨ar, cr, rfl⟩ := ownsRow_shape hrow1
    have htx2 := htx.same (hkp1.block w.heap.size hlW (by omega) (by omega))
    have hm02 : w2.cell? ⟨mb, 0, none⟩ = some ov := hkp1.cell hm0 (by omega) (by omega)
    have hS2 : ∀ l, RegS w.heap.size mb c r rkv wkv o ov l w2 := fun l => ⟨htx2, fun _ => hm02⟩
    have hc21 : w2.cell? ⟨mb, 1, none⟩ = some (.map (some bk)) := hkp1.cell (HMW.out.own.cell 1) (by omega) (by omega)
    have hc22 : w2.cell? ⟨mb, 2, none⟩ = some (.map (some bv)) := hkp1.cell (HMW.out.own.cell 2) (by omega) (by omega)
    have hWW2 := hWW.kept (w' := w2) (fun k hk hl => hkp1.block k hl (by omega) (by omega))
    have hb2 : Below W0.heap.size W0 w2 := (hW0.trans (hbW.mono hW0.size)).trans (hkp1.below (by have := hW0.size; omega) (by omega) (by omega))
    refine hK.out _ _ (hS2 _) ?_
    clear hK K
    refine AnyL_one (i := 12) (by kernel_rfl) rfl rfl ?_
    intro K hK
    go_simp
    refine (assigns49 W0 mb bk bv nw (nk + nr) (nv + nr) T wkv Dw Dk1 Dv1 w2 hb2 hT hbk hbv hne (by omega) (by omega) hc21 hc22 hWW2 hk1 hv1 hnk hnv).mono ?_
    rintro e w3 ⟨wv, ssw, Dk2, Dv2, rfl, hrow2, hp2, hk2, hv2, hs2, hkp2⟩
    obtain ⟨aw, cw, rfl⟩ := ownsRow_shape hrow2
    have htx3 := htx2.same (hkp2.block w.heap.size (by have := hkp1.size; omega) (by omega) (by omega))
    have hm03 : w3.cell? ⟨mb, 0, none⟩ = some ov := hkp2.cell hm02 (by omega) (by omega)
    have hS3 : ∀ l, RegS w.heap.size mb c r rkv wkv o ov l w3 := fun l => ⟨htx3, fun _ => hm03⟩
    have hl3 : w.heap.size < w3.heap.size := by have := hkp1.size; have := hkp2.size; omega
    have hrow3 : w3.ownsRow (mb + 1) 71 1 ov n ps := ownsRow_same HMW.out.row (fun k hk => by have := HMW.out.row.lt k hk; rw [hkp2.block k (by have := hkp1.size; omega) (by omega) (by omega)]; exact hkp1.block k this.2 (by omega) (by omega))
    refine hK.out _ _ (hS3 _) ?_
    clear hK K hc21 hc22 hb2 hm02
    refine takeT 20 (.agg #[.slice ar ssr.length cr, .slice aw ssw.length cw, .int .i64 c, .int .i64 r, .bool false]) rfl rfl (by decide) (by kernel_rfl) (by kernel_rfl) (by kernel_rfl) (fun _ _ _ h => h) rfl ?_ hS3 ?_
    · rintro w' ⟨hc1, hc2, hc3, hc4, hc5⟩
      go_simp
    go_frame
    refine AnyL_one (i := 21) (by kernel_rfl) rfl rfl ?_
    intro K hK
    go_simp
    have htx4 := htx3.same (Below.heap_alloc w3 (.cells #[.slice ar ssr.length cr, .slice aw ssw.length cw, .int .i64 c, .int .i64 r, .bool false] 75) _ hl3)
    have hS4 : ∀ l, RegS w.heap.size mb c r rkv wkv o ov l (w3.alloc (.cells #[.slice ar ssr.length cr, .slice aw ssw.length cw, .int .i64 c, .int .i64 r, .bool false] 75)) := fun l => ⟨htx4, fun _ => by rw [World.cell?_of_block (Below.heap_alloc _ _ _ (World.block_lt_of_cell? _ _ hm03))]; exact hm03⟩
    refine hK.out _ _ (hS4 _) ?_
    clear hK K
    refine AnyL_one (i := 22) (by kernel_rfl) rfl rfl ?_
    intro K hK
    go_simp
    have hrow5 := (hrow3.alloc (.cells #[.slice ar ssr.length cr, .slice aw ssw.length cw, .int .i64 c, .int .i64 r, .bool false] 75)).alloc (.cells #[.pointer (some ⟨w3.heap.size, 0, none⟩)] 71)
    have hO5 : Own ((w3.alloc (.cells #[.slice ar ssr.length cr, .slice aw ssw.length cw, .int .i64 c, .int .i64 r, .bool false] 75)).alloc (.cells #[.pointer (some ⟨w3.heap.size, 0, none⟩)] 71)) mb 70 [ov, .map (some bk), .map (some bv), x3, x4] := by
      refine Own.alloc (Own.alloc ?_ _) _
      unfold Own
      rw [hkp2.block mb (by have := hkp1.size; omega) (by omega) (by omega), hkp1.block mb hmbW (by omega) (by omega)]
      exact HMW.out.own
    have htx5 := htx4.same (Below.heap_alloc _ (.cells #[.pointer (some ⟨w3.heap.size, 0, none⟩)] 71) _ (by simp; omega))
    refine hK.out _ _ ⟨htx5, fun _ => hO5.cell 0⟩ ?_
    clear hK K
    refine AnyL_one (i := 23) (by kernel_rfl) rfl rfl ?_
    intro K hK
    refine wp_append_lies _ _ _ 68 rfl (mb + 1) 71 i7 _ 1 8 Try.underlying68 hi hz0 hz1 hz2 rfl (by decide) ov n ps rfl hrow5 ⟨w3.heap.size + 1, 0, none⟩ 1 1 [.pointer (some ⟨w3.heap.size, 0, none⟩)] rfl rfl (news1 (by simp) _) (by simp [Value.oneCell']) (by decide) (by unfold maxLen; omega) (by omega) (by simp; omega) (w3.heap.size + 1 + 1) (by simp) ?_
    intro g cap w6 hrow6 hg6 hgat hgl
    have hO6 : Own w6 mb 70 [ov, .map (some bk), .map (some bv), x3, x4] := (hg6.block mb hO5.lt (fun e => by have := (HMW.out.row.lt mb e.symm).1; omega)).trans hO5
    have htx6 := htx5.same (hg6.block w.heap.size (by simp; omega) (fun e => by have := hov _ e.symm; omega))
    have hS6 : ∀ l, RegS w.heap.size mb c r rkv wkv o ov l w6 := fun l => ⟨htx6, fun _ => hO6.cell 0⟩
    refine hK.out _ _ (hS6 _) ?_
    clear hK K
    go_frame
    refine takeT 24 (.pointer (some ⟨mb, 0, none⟩)) rfl rfl (by decide) (by kernel_rfl) (by kernel_rfl) (by kernel_rfl) (fun _ _ _ h => h) rfl ?_ hS6 ?_
    · rintro w' ⟨hc1, hc2, hc3, hc4, hc5⟩
      go_simp
    go_frame
    refine takeT 25 (.pointer (some ⟨mb, 0, none⟩)) rfl rfl (by decide) (by kernel_rfl) (by kernel_rfl) (by kernel_rfl) (fun _ _ _ h => h) rfl ?_ hS6 ?_
    · rintro w' ⟨hc1, hc2, hc3, hc4, hc5⟩
      go_simp
    go_frame
    have hc6 : w6.cell? ⟨mb, 0, none⟩ = some ov := hO6.cell 0
    have hf6 := hO6.frozen 0
    refine AnyL_one (i := 26) (by kernel_rfl) rfl rfl ?_
    intro K hK
    go_simp
    refine hK.out _ _ ⟨htx6.same (Below.heap_setCell _ _ _ _ (by simp; omega)), fun h => absurd (h.symm.trans (by kernel_rfl)) Bool.false_ne_true⟩ ?_
    refine AnyL_done (by kernel_rfl) ?_ _
    refine bodyPost_end (results_none rfl _ _ _) rfl ?_
    exact ⟨rfl, _, ssr, ssw, Dk2, Dv2, _, added_end HMW.out hbW hov h1 h2 hkp1 hrow1 hp1 hs1 hkp2 hrow2 hp2 hs2 hk2 hv2 hg6 hrow6⟩
  · rw [hU]
    go_enter Try.func41, Try.ntmps41
    go_wp2
    clear HL hA
    refine wp_via (fun W => TxCells w.heap.size c r rkv wkv o W ∧ Model W mb bk bv nk nv Dk Dv ov x3 x4 n ps ∧ KVb W0 W rkv T nr Dr ∧ KVb W0 W wkv T nw Dw ∧ Below w.heap.size w W ∧ w.heap.size < W.heap.size) ⟨txCells_new w cl c r rkv wkv o, ⟨HM.out.own.alloc _, HM.out.row.alloc _, HM.out.hk.alloc _, HM.out.hv.alloc _⟩, hRk.alloc _, hWk.alloc _, (Below.refl _ _).alloc (Nat.le_refl _) _, by simp⟩ ?_
    intro W ⟨htx, hMW, hRW, hWW, hbW, hlW⟩
    have hm0 : W.cell? ⟨mb, 0, none⟩ = some ov := hMW.own.cell 0
    have hS0 : ∀ l, RegS w.heap.size mb c r rkv wkv o ov l W.drew := fun l => ⟨htx, fun _ => hm0⟩
    have HMW : Hid (Model W mb bk bv nk nv Dk Dv ov x3 x4 n ps) := hMW
    have hmbW := hMW.own.lt
    clear hMW
    refine wp_region_L (S := RegS w.heap.size mb c r rkv wkv o ov) (by kernel_rfl) ?_
    refine takeT 0 (.pointer (some ⟨mb, 0, none⟩)) rfl rfl (by decide) (by kernel_rfl) (by kernel_rfl) (by kernel_rfl) (fun _ _ _ h => h) rfl ?_ hS0 ?_
    · rintro w' ⟨hc1, hc2, hc3, hc4, hc5⟩
      go_simp
    go_frame
    refine takeT 1 (.pointer (some ⟨mb, 0, none⟩)) rfl rfl (by decide) (by kernel_rfl) (by kernel_rfl) (by kernel_rfl) (fun _ _ _ h => h) rfl ?_ hS0 ?_
    · rintro w' ⟨hc1, hc2, hc3, hc4, hc5⟩
      go_simp
    go_frame
    refine takeT 2 (.pointer (some ⟨mb, 0, none⟩)) rfl rfl (by decide) (by kernel_rfl) (by kernel_rfl) (by kernel_rfl) (fun _ _ _ h => h) rfl ?_ hS0 ?_
    · rintro w' ⟨hc1, hc2, hc3, hc4, hc5⟩
      go_simp
    go_frame
    refine takeT 3 (.pointer (some ⟨mb, 0, none⟩)) rfl rfl (by decide) (by kernel_rfl) (by kernel_rfl) (by kernel_rfl) (fun _ _ _ h => h) rfl ?_ hS0 ?_
    · rintro w' ⟨hc1, hc2, hc3, hc4, hc5⟩
      go_simp
    go_frame
    refine takeM ov rfl rfl rfl (by kernel_rfl) (by kernel_rfl) (by kernel_rfl) (by kernel_rfl) (fun _ _ _ h => h) (by kernel_rfl) rfl ?_ hS0 ?_
    · intro w' hc'
      go_simp
    go_frame
    refine takeT 5 (.pointer (some ⟨mb, 0, none⟩)) rfl rfl (by decide) (by kernel_rfl) (by kernel_rfl) (by kernel_rfl) (fun _ _ _ h => h) rfl ?_ hS0 ?_
    · rintro w' ⟨hc1, hc2, hc3, hc4, hc5⟩
      go_simp
    go_frame
    refine takeT 6 (.pointer (some ⟨w.heap.size, 3, none⟩)) rfl rfl (by decide) (by kernel_rfl) (by kernel_rfl) (by kernel_rfl) (fun _ _ _ h => h) rfl ?_ hS0 ?_
    · rintro w' ⟨hc1, hc2, hc3, hc4, hc5⟩
      go_simp
    go_frame
    refine takeT 7 rkv rfl rfl (by decide) (by kernel_rfl) (by kernel_rfl) (by kernel_rfl) (fun _ _ _ h => h) rfl ?_ hS0 ?_
    · rintro w' ⟨hc1, hc2, hc3, hc4, hc5⟩
      go_simp
    go_frame
    refine takeT 9 (.pointer (some ⟨mb, 0, none⟩)) rfl rfl (by decide) (by kernel_rfl) (by kernel_rfl) (by kernel_rfl) (fun _ _ _ h => h) rfl ?_ hS0 ?_
    · rintro w' ⟨hc1, hc2, hc3, hc4, hc5⟩
      go_simp
    go_frame
    refine takeT 10 (.pointer (some ⟨w.heap.size, 4, none⟩)) rfl rfl (by decide) (by kernel_rfl) (by kernel_rfl) (by kernel_rfl) (fun _ _ _ h => h) rfl ?_ hS0 ?_
    · rintro w' ⟨hc1, hc2, hc3, hc4, hc5⟩
      go_simp
    go_frame
    refine takeT 11 wkv rfl rfl (by decide) (by kernel_rfl) (by kernel_rfl) (by kernel_rfl) (fun _ _ _ h => h) rfl ?_ hS0 ?_
    · rintro w' ⟨hc1, hc2, hc3, hc4, hc5⟩
      go_simp
    go_frame
    refine takeT 13 (.pointer (some ⟨w.heap.size, 1, none⟩)) rfl rfl (by decide) (by kernel_rfl) (by kernel_rfl) (by kernel_rfl) (fun _ _ _ h => h) rfl ?_ hS0 ?_
    · rintro w' ⟨hc1, hc2, hc3, hc4, hc5⟩
      go_simp
    go_frame
    refine takeT 14 (.int .i64 c) rfl rfl (by decide) (by kernel_rfl) (by kernel_rfl) (by kernel_rfl) (fun _ _ _ h => h) rfl ?_ hS0 ?_
    · rintro w' ⟨hc1, hc2, hc3, hc4, hc5⟩
      go_simp
    go_frame
    refine takeT 15 (.pointer (some ⟨w.heap.size, 2, none⟩)) rfl rfl (by decide) (by kernel_rfl) (by kernel_rfl) (by kernel_rfl) (fun _ _ _ h => h) rfl ?_ hS0 ?_
    · rintro w' ⟨hc1, hc2, hc3, hc4, hc5⟩
      go_simp
    go_frame
    refine takeT 16 (.int .i64 r) rfl rfl (by decide) (by kernel_rfl) (by kernel_rfl) (by kernel_rfl) (fun _ _ _ h => h) rfl ?_ hS0 ?_
    · rintro w' ⟨hc1, hc2, hc3, hc4, hc5⟩
      go_simp
    go_frame
    refine takeT 17 (.pointer (some ⟨w.heap.size, 5, none⟩)) rfl rfl (by decide) (by kernel_rfl) (by kernel_rfl) (by kernel_rfl) (fun _ _ _ h => h) rfl ?_ hS0 ?_
    · rintro w' ⟨hc1, hc2, hc3, hc4, hc5⟩
      go_simp
    go_frame
    refine takeT 18 (.string o) rfl rfl (by decide) (by kernel_rfl) (by kernel_rfl) (by kernel_rfl) (fun _ _ _ h => h) rfl ?_ hS0 ?_
    · rintro w' ⟨hc1, hc2, hc3, hc4, hc5⟩
      go_simp
    go_frame
    refine takeT 19 (.bool (o.toList == [117, 110, 107, 110, 111, 119, 110])) rfl rfl (by decide) (by kernel_rfl) (by kernel_rfl) (by kernel_rfl) (fun _ _ _ h => h) rfl ?_ hS0 ?_
    · rintro w' ⟨hc1, hc2, hc3, hc4, hc5⟩
      go_simp
    go_frame
    refine AnyL_one (i := 8) (by kernel_rfl) rfl rfl ?_
    intro K hK
    go_simp
    refine (assigns49 W0 mb bk bv nr nk nv T rkv Dr Dk Dv W.drew ((hW0.trans (hbW.mono hW0.size)).drew) hT hbk hbv hne (by omega) (by omega) (HMW.out.own.cell 1) (HMW.out.own.cell 2) hRW HMW.out.hk HMW.out.hv (by omega) (by omega)).mono ?_
    rintro e w2 ⟨rv, ssr, Dk1, Dv1, rfl, hrow1, hp1, hk1, hv1, hs1, hkp1'⟩
    have hkp1 : Kept bk bv W w2 := ⟨hkp1'.os, hkp1'.tape, hkp1'.output, hkp1'.size, hkp1'.block⟩
    clear hkp1'
    obtain ⟨ar, cr, rfl⟩ := ownsRow_shape hrow1
    have htx2 := htx.same (hkp1.block w.heap.size hlW (by omega) (by omega))
    have hm02 : w2.cell? ⟨mb, 0, none⟩ = some ov := hkp1.cell hm0 (by omega) (by omega)
    have hS2 : ∀ l, RegS w.heap.size mb c r rkv wkv o ov l w2 := fun l => ⟨htx2, fun _ => hm02⟩
    have hc21 : w2.cell? ⟨mb, 1, none⟩ = some (.map (some bk)) := hkp1.cell (HMW.out.own.cell 1) (by omega) (by omega)
    have hc22 : w2.cell? ⟨mb, 2, none⟩ = some (.map (some bv)) := hkp1.cell (HMW.out.own.cell 2) (by omega) (by omega)
    have hWW2 := hWW.kept (w' := w2) (fun k hk hl => hkp1.block k hl (by omega) (by omega))
    have hb2 : Below W0.heap.size W0 w2 := (hW0.trans (hbW.mono hW0.size)).trans (hkp1.below (by have := hW0.size; omega) (by omega) (by omega))
    refine hK.out _ _ (hS2 _) ?_
    clear hK K
    refine AnyL_one (i := 12) (by kernel_rfl) rfl rfl ?_
    intro K hK
    go_simp
    refine (assigns49 W0 mb bk bv nw (nk + nr) (nv + nr) T wkv Dw Dk1 Dv1 w2 hb2 hT hbk hbv hne (by omega) (by omega) hc21 hc22 hWW2 hk1 hv1 hnk hnv).mono ?_
    rintro e w3 ⟨wv, ssw, Dk2, Dv2, rfl, hrow2, hp2, hk2, hv2, hs2, hkp2⟩
    obtain ⟨aw, cw, rfl⟩ := ownsRow_shape hrow2
    have htx3 := htx2.same (hkp2.block w.heap.size (by have := hkp1.size; omega) (by omega) (by omega))
    have hm03 : w3.cell? ⟨mb, 0, none⟩ = some ov := hkp2.cell hm02 (by omega) (by omega)
    have hS3 : ∀ l, RegS w.heap.size mb c r rkv wkv o ov l w3 := fun l => ⟨htx3, fun _ => hm03⟩
    have hl3 : w.heap.size < w3.heap.size := by have := hkp1.size; have := hkp2.size; omega
    have hrow3 : w3.ownsRow (mb + 1) 71 1 ov n ps := ownsRow_same HMW.out.row (fun k hk => by have := HMW.out.row.lt k hk; rw [hkp2.block k (by have := hkp1.size; omega) (by omega) (by omega)]; exact hkp1.block k this.2 (by omega) (by omega))
    refine hK.out _ _ (hS3 _) ?_
    clear hK K hc21 hc22 hb2 hm02
    refine takeT 20 (.agg #[.slice ar ssr.length cr, .slice aw ssw.length cw, .int .i64 c, .int .i64 r, .bool true]) rfl rfl (by decide) (by kernel_rfl) (by kernel_rfl) (by kernel_rfl) (fun _ _ _ h => h) rfl ?_ hS3 ?_
    · rintro w' ⟨hc1, hc2, hc3, hc4, hc5⟩
      go_simp
    go_frame
    refine AnyL_one (i := 21) (by kernel_rfl) rfl rfl ?_
    intro K hK
    go_simp
    have htx4 := htx3.same (Below.heap_alloc w3 (.cells #[.slice ar ssr.length cr, .slice aw ssw.length cw, .int .i64 c, .int .i64 r, .bool true] 75) _ hl3)
    have hS4 : ∀ l, RegS w.heap.size mb c r rkv wkv o ov l (w3.alloc (.cells #[.slice ar ssr.length cr, .slice aw ssw.length cw, .int .i64 c, .int .i64 r, .bool true] 75)) := fun l => ⟨htx4, fun _ => by rw [World.cell?_of_block (Below.heap_alloc _ _ _ (World.block_lt_of_cell? _ _ hm03))]; exact hm03⟩
    refine hK.out _ _ (hS4 _) ?_
    clear hK K
    refine AnyL_one (i := 22) (by kernel_rfl) rfl rfl ?_
    intro K hK
    go_simp
    have hrow5 := (hrow3.alloc (.cells #[.slice ar ssr.length cr, .slice aw ssw.length cw, .int .i64 c, .int .i64 r, .bool true] 75)).alloc (.cells #[.pointer (some ⟨w3.heap.size, 0, none⟩)] 71)
    have hO5 : Own ((w3.alloc (.cells #[.slice ar ssr.length cr, .slice aw ssw.length cw, .int .i64 c, .int .i64 r, .bool true] 75)).alloc (.cells #[.pointer (some ⟨w3.heap.size, 0, none⟩)] 71)) mb 70 [ov, .map (some bk), .map (some bv), x3, x4] := by
      refine Own.alloc (Own.alloc ?_ _) _
      unfold Own
      rw [hkp2.block mb (by have := hkp1.size; omega) (by omega) (by omega), hkp1.block mb hmbW (by omega) (by omega)]
      exact HMW.out.own
    have htx5 := htx4.same (Below.heap_alloc _ (.cells #[.pointer (some ⟨w3.heap.size, 0, none⟩)] 71) _ (by simp; omega))
    refine hK.out _ _ ⟨htx5, fun _ => hO5.cell 0⟩ ?_
    clear hK K
    refine AnyL_one (i := 23) (by kernel_rfl) rfl rfl ?_
    intro K hK
    refine wp_append_lies _ _ _ 68 rfl (mb + 1) 71 i7 _ 1 8 Try.underlying68 hi hz0 hz1 hz2 rfl (by decide) ov n ps rfl hrow5 ⟨w3.heap.size + 1, 0, none⟩ 1 1 [.pointer (some ⟨w3.heap.size, 0, none⟩)] rfl rfl (news1 (by simp) _) (by simp [Value.oneCell']) (by decide) (by unfold maxLen; omega) (by omega) (by simp; omega) (w3.heap.size + 1 + 1) (by simp) ?_
    intro g cap w6 hrow6 hg6 hgat hgl
    have hO6 : Own w6 mb 70 [ov, .map (some bk), .map (some bv), x3, x4] := (hg6.block mb hO5.lt (fun e => by have := (HMW.out.row.lt mb e.symm).1; omega)).trans hO5
    have htx6 := htx5.same (hg6.block w.heap.size (by simp; omega) (fun e => by have := hov _ e.symm; omega))
    have hS6 : ∀ l, RegS w.heap.size mb c r rkv wkv o ov l w6 := fun l => ⟨htx6, fun _ => hO6.cell 0⟩
    refine hK.out _ _ (hS6 _) ?_
    clear hK K
    go_frame
    refine takeT 24 (.pointer (some ⟨mb, 0, none⟩)) rfl rfl (by decide) (by kernel_rfl) (by kernel_rfl) (by kernel_rfl) (fun _ _ _ h => h) rfl ?_ hS6 ?_
    · rintro w' ⟨hc1, hc2, hc3, hc4, hc5⟩
      go_simp
    go_frame
    refine takeT 25 (.pointer (some ⟨mb, 0, none⟩)) rfl rfl (by decide) (by kernel_rfl) (by kernel_rfl) (by kernel_rfl) (fun _ _ _ h => h) rfl ?_ hS6 ?_
    · rintro w' ⟨hc1, hc2, hc3, hc4, hc5⟩
      go_simp
    go_frame
    have hc6 : w6.cell? ⟨mb, 0, none⟩ = some ov := hO6.cell 0
    have hf6 := hO6.frozen 0
    refine AnyL_one (i := 26) (by kernel_rfl) rfl rfl ?_
    intro K hK
    go_simp
    refine hK.out _ _ ⟨htx6.same (Below.heap_setCell _ _ _ _ (by simp; omega)), fun h => absurd (h.symm.trans (by kernel_rfl)) Bool.false_ne_true⟩ ?_
    refine AnyL_done (by kernel_rfl) ?_ _
    refine bodyPost_end (results_none rfl _ _ _) rfl ?_
    exact ⟨rfl, _, ssr, ssw, Dk2, Dv2, _, added_end HMW.out hbW hov h1 h2 hkp1 hrow1 hp1 hs1 hkp2 hrow2 hp2 hs2 hk2 hv2 hg6 hrow6⟩
end Go.Proofs.Qxb6602268a
