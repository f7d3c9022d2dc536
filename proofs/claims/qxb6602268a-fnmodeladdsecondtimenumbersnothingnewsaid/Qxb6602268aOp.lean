/-
  Seat b6602268a: ZZModelOp, ZZModelKeys, ZZModelValues, ZZModelOps, ZZNewModel, ZZModelAdd.
-/
import Derived.Test.Qxb6602268aUnpack
import Derived.BigQuiet
namespace Go.Proofs.Qxb6602268a
open Go.RowKit Go.Maps

theorem Below.drewN' {B : Nat} {a w : World} (h : Below B a w) (n : Nat) : Below B a (w.drewN n) := ⟨h.os, h.tape, h.output, h.size, h.block⟩

theorem results_tmp7 {fn : Func} {t1 t2 t3 t4 t5 t6 t7 : Tmp} (h : fn.results = #[.tmp t1, .tmp t2, .tmp t3, .tmp t4, .tmp t5, .tmp t6, .tmp t7]) (tmps : Array Value) (P : Program) (w : World) :
    (results fn tmps).run P w = .ok (.tuple #[tmps.getD t1 undef, tmps.getD t2 undef, tmps.getD t3 undef, tmps.getD t4 undef, tmps.getD t5 undef, tmps.getD t6 undef, tmps.getD t7 undef]) w := by
  simp [results, h]

/-- What ZZModelOp hands back. -/
def OpOut (c r : Int) (unk : Bool) (lr lw : List (Int × Int)) (w : World) (e : Ending) (w' : World) : Prop :=
  ∃ a1 a2 a3 a4, e = .returned (.tuple #[.slice a1 lr.length lr.length, .slice a2 lr.length lr.length, .slice a3 lw.length lw.length, .slice a4 lw.length lw.length, .int .i64 c, .int .i64 r, .bool unk]) ∧
    Row w' a1 lr.length (fun i => .int .i32 (at2 lr i).1) ∧ Row w' a2 lr.length (fun i => .int .i32 (at2 lr i).2) ∧ Row w' a3 lw.length (fun i => .int .i32 (at2 lw i).1) ∧ Row w' a4 lw.length (fun i => .int .i32 (at2 lw i).2) ∧ Below w.heap.size w w'

set_option maxHeartbeats 1000000 in
set_option maxRecDepth 100000 in
theorem op31 (mb B B2 p j n : Nat) (ov : Value) (ps : List Value) (c r : Int) (unk : Bool) (lr lw : List (Int × Int)) (w : World) (hm0 : w.cell? ⟨mb, 0, none⟩ = some ov) (hrow : w.ownsRow B2 71 1 ov n ps) (hj : ps[j]? = some (.pointer (some ⟨p, 0, none⟩)))
    (hop : OpAt w B p c r unk lr lw) (hlr : lr.length ≤ 1048576) (hlw : lw.length ≤ 1048576) :
    Calls Try.prog 31 #[.pointer (some ⟨mb, 0, none⟩), .int .i64 j] w (OpOut c r unk lr lw w) := by
  have hjn : j < n := by
    have := (List.getElem?_eq_some_iff.1 hj).1
    have := hrow.1
    omega
  rcases hrow.2 with ⟨_, h0⟩ | ⟨g, cap, cur, rfl, _⟩
  · omega
  have hpc : w.cell? ⟨g, j, none⟩ = some (.pointer (some ⟨p, 0, none⟩)) := (hrow.cellAt j (by omega)).trans hj
  obtain ⟨_, rv, wv, hO, hR1, hR2⟩ := hop
  obtain ⟨ar, cr, rfl⟩ := ownsRow_shape hR1
  obtain ⟨aw, cw, rfl⟩ := ownsRow_shape hR2
  have o0 := hO.cell 0
  have HO : Hid (Own w p 75 [.slice ar lr.length cr, .slice aw lw.length cw, .int .i64 c, .int .i64 r, .bool unk]) := hO
  have HR1 : Hid (w.ownsRow B 91 2 (.slice ar lr.length cr) lr.length (cells2 lr)) := hR1
  have HR2 : Hid (w.ownsRow B 91 2 (.slice aw lw.length cw) lw.length (cells2 lw)) := hR2
  simp only [List.getElem?_cons_zero] at o0
  clear hO hR1 hR2 hrow hj
  go_enter Try.func31, Try.ntmps31
  go_wp2_with fail
  refine (unpack43 B _ lr w hlr HR1.out).mono ?_
  rintro e w2 ⟨a1, a2, rfl, hr1, hr2, hb2⟩
  have HO2 : Hid (Own w2 p 75 [.slice ar lr.length cr, .slice aw lw.length cw, .int .i64 c, .int .i64 r, .bool unk]) := HO.out.below hb2 HO.out.lt
  have o1 : w2.cell? ⟨p, 1, none⟩ = some (.slice aw lw.length cw) := HO2.out.cell 1
  have HR3 : Hid (w2.ownsRow B 91 2 (.slice aw lw.length cw) lw.length (cells2 lw)) := ownsRow_same HR2.out fun k hk => hb2.block k (HR2.out.lt k hk).2
  have HA1 : Hid (Row w2 a1 lr.length fun i => .int .i32 (at2 lr i).1) := hr1
  have HA2 : Hid (Row w2 a2 lr.length fun i => .int .i32 (at2 lr i).2) := hr2
  clear hr1 hr2 HR1 HR2 o0 hm0 hpc
  go_wp2_with fail
  refine (unpack43 B _ lw w2 hlw HR3.out).mono ?_
  rintro e w3 ⟨a3, a4, rfl, hr3, hr4, hb3⟩
  have HA3 : Hid (Row w3 a3 lw.length fun i => .int .i32 (at2 lw i).1) := hr3
  have HA4 : Hid (Row w3 a4 lw.length fun i => .int .i32 (at2 lw i).2) := hr4
  clear hr3 hr4 o1 HR3
  have hO3 : Own w3 p 75 [.slice ar lr.length cr, .slice aw lw.length cw, .int .i64 c, .int .i64 r, .bool unk] := HO2.out.below hb3 HO2.out.lt
  have q2 : w3.cell? ⟨p, 2, none⟩ = some (.int .i64 c) := hO3.cell 2
  have q3 : w3.cell? ⟨p, 3, none⟩ = some (.int .i64 r) := hO3.cell 3
  have q4 : w3.cell? ⟨p, 4, none⟩ = some (.bool unk) := hO3.cell 4
  go_wp2
  go_quiet (fail)
  go_wp2
  refine bodyPost_ret (results_tmp7 rfl _ _ _) rfl ?_
  exact ⟨a1, a2, a3, a4, rfl, HA1.out.later (Below.drewN' hb3 _), HA2.out.later (Below.drewN' hb3 _), HA3.out, HA4.out, hb2.trans ((Below.drewN' hb3 _).mono hb2.size)⟩

theorem new22 (bk bv : Nat) (w : World) : Calls Try.prog 22 #[.map (some bk), .map (some bv)] w fun e w' => e = .returned (.pointer (some ⟨w.heap.size, 0, none⟩)) ∧ ∃ x3 x4, w' = w.alloc (.cells #[.slice none 0 0, .map (some bk), .map (some bv), x3, x4] 70) := by
  go_enter Try.func22, Try.ntmps22
  go_wp2
  go_ret
  exact ⟨rfl, _, _, rfl⟩

theorem keys24 (mb : Nat) (v : Value) (w : World) (h : w.cell? ⟨mb, 1, none⟩ = some v) : Calls Try.prog 24 #[.pointer (some ⟨mb, 0, none⟩)] w fun e w' => e = .returned v ∧ w' = w := by
  go_enter Try.func24, Try.ntmps24
  go_wp2
  go_ret
  exact ⟨rfl, rfl⟩
theorem values25 (mb : Nat) (v : Value) (w : World) (h : w.cell? ⟨mb, 2, none⟩ = some v) : Calls Try.prog 25 #[.pointer (some ⟨mb, 0, none⟩)] w fun e w' => e = .returned v ∧ w' = w := by
  go_enter Try.func25, Try.ntmps25
  go_wp2
  go_ret
  exact ⟨rfl, rfl⟩
theorem ops26 (mb n cap : Nat) (a : Option Addr) (w : World) (h : w.cell? ⟨mb, 0, none⟩ = some (.slice a n cap)) : Calls Try.prog 26 #[.pointer (some ⟨mb, 0, none⟩)] w fun e w' => e = .returned (.int .i64 n) ∧ w' = w := by
  go_enter Try.func26, Try.ntmps26
  go_wp2
  go_ret
  exact ⟨rfl, rfl⟩

/-- ZZModelAdd, the transaction passed by. -/
theorem zadd_skip (W0 : World) (mb T nw : Nat) (cl c r : Int) (rkv wkv : Value) (o : ByteArray) (Dw : DataW Unit) (w : World) (hW : KVb W0 w wkv T nw Dw) (hsk : skips o Dw = true) :
    Calls Try.prog 23 #[.pointer (some ⟨mb, 0, none⟩), .agg #[.int .i64 cl, .int .i64 c, .int .i64 r, rkv, wkv, .string o]] w fun e w' => e = .returned (.tuple #[]) ∧ Below w.heap.size w w' := by
  go_enter Try.func23, Try.ntmps23
  go_wp2_with fail
  refine (add_skip W0 mb T nw cl c r rkv wkv o Dw _ (hW.alloc _) hsk).mono ?_
  rintro e w2 ⟨rfl, hb⟩
  go_wp2
  refine bodyPost_end (results_none rfl _ _ _) rfl ?_
  exact ⟨rfl, ((Below.refl _ _).alloc (Nat.le_refl _) _).trans (hb.mono (by simp))⟩

/-- ZZModelAdd, an operation laid. -/
theorem zadd_ops (W0 : World) (T mb bk bv n nk nv nr nw : Nat) (Dr Dw Dk Dv : DataW Unit) (ov x3 x4 : Value) (ps : List Value) (cl c r : Int) (rkv wkv : Value) (o : ByteArray) (w : World) (hW0 : Below W0.heap.size W0 w) (hT : W0.heap.size ≤ T) (hbk : T ≤ bk) (hbv : T ≤ bv) (hne : bk ≠ bv) (h1 : bk < mb) (h2 : bv < mb)
    (hRk : KVb W0 w rkv T nr Dr) (hWk : KVb W0 w wkv T nw Dw) (hsk : skips o Dw = false) (hM : Model w mb bk bv nk nv Dk Dv ov x3 x4 n ps) (hnk : nk + nr + nw ≤ 4194304) (hnv : nv + nr + nw ≤ 4194304) (hn : n ≤ 4) :
    Calls Try.prog 23 #[.pointer (some ⟨mb, 0, none⟩), .agg #[.int .i64 cl, .int .i64 c, .int .i64 r, rkv, wkv, .string o]] w fun e w' => e = .returned (.tuple #[]) ∧ ∃ W p ssr ssw Dk' Dv' ov', Below w.heap.size w W ∧ Added mb bk bv (nk + nr + nw) (nv + nr + nw) Dr Dw Dk Dv ov x3 x4 n ps c r (o.toList == [117, 110, 107, 110, 111, 119, 110]) W w' p ssr ssw Dk' Dv' ov' := by
  go_enter Try.func23, Try.ntmps23
  go_wp2_with fail
  refine (add_ops W0 T mb bk bv n nk nv nr nw Dr Dw Dk Dv ov x3 x4 ps cl c r rkv wkv o _ (Below.allocL hW0 (Nat.le_refl _) _) hT hbk hbv hne h1 h2 (hRk.alloc _) (hWk.alloc _) hsk ⟨hM.own.alloc _, hM.row.alloc _, hM.hk.alloc _, hM.hv.alloc _⟩ hnk hnv hn).mono ?_
  rintro e w2 ⟨rfl, p, ssr, ssw, Dk', Dv', ov', hA⟩
  go_wp2
  refine bodyPost_end (results_none rfl _ _ _) rfl ?_
  exact ⟨rfl, _, p, ssr, ssw, Dk', Dv', ov', (Below.refl _ _).alloc (Nat.le_refl _) _, hA⟩
end Go.Proofs.Qxb6602268a
