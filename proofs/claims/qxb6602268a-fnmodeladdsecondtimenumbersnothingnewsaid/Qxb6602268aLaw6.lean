/-
  Seat b6602268a: FnModelAddSecondTimeNumbersNothingNew returns true.
-/
import Derived.Test.Qxb6602268aDomain
import Derived.Test.Qxb6602268aOp
import Derived.Test.Qxb6602268aSame
namespace Go.Proofs.Qxb6602268a
open Go.RowKit Go.Maps

theorem KV.below {W0 w w' : World} {kv : Value} {B n : Nat} {D : DataW Unit} (h : KV W0 w kv B n D) (hb : Below w.heap.size w w') : KVb W0 w' kv w'.heap.size n D := by
  rcases h with h | ⟨b, h1, h2, h3⟩
  · exact .inl h
  · exact .inr ⟨b, h1, Nat.lt_of_lt_of_le h3.lt hb.size, ownsMap_same h3 (hb.block b h3.lt)⟩

theorem KV.shape {W0 w : World} {kv : Value} {B n : Nat} {D : DataW Unit} (h : KV W0 w kv B n D) : ∃ ob, kv = .map ob := by
  rcases h with ⟨h, _⟩ | ⟨b, h, _⟩
  · exact ⟨_, h⟩
  · exact ⟨_, h⟩

/-- The state ahead of the first add. -/
structure Ahead (W0 : World) (T mb bk bv tb : Nat) (cl c r : Int) (rkv wkv x3 x4 : Value) (o : ByteArray) (n1 n3 : Nat) (Dr Dw : DataW Unit) (W : World) : Prop where
  tx : Own W tb 54 [.int .i64 cl, .int .i64 c, .int .i64 r, rkv, wkv, .string o]
  model : Model W mb bk bv 0 0 (.map []) (.map []) (.slice none 0 0) x3 x4 0 []
  kr : KVb W0 W rkv T n1 Dr
  kw : KVb W0 W wkv T n3 Dw
  below : Below W0.heap.size W0 W

theorem calls_via {P : Program} {f : Nat} {args : Array Value} {W : World} {Q : Ending → World → Prop} (Φ : World → Prop) (hΦ : Φ W) (h : ∀ W', Φ W' → Calls P f args W' Q) : Calls P f args W Q := h W hΦ

theorem lenK {W : World} {b n : Nat} {D : DataW Unit} (h : Nums W b n D) (ty : TypeId) : (Builtin.len_ #[44] ty #[.map (some b)]).run Try.prog W = .ok (.int .i64 (Maps.size D)) W := h.len Try.underlying44 ty

theorem ahead_mk {w w3 : World} {cl c r : Int} {rkv wkv x3 x4 : Value} {o : ByteArray} {n1 n3 : Nat} {Dr Dw : DataW Unit} (hb : Below w.heap.size w w3) (hr : KVb w w3 rkv w3.heap.size n1 Dr) (hw : KVb w w3 wkv w3.heap.size n3 Dw) :
    Ahead w w3.heap.size (w3.heap.size + 1 + 1) w3.heap.size (w3.heap.size + 1) (w3.heap.size + 1 + 1 + 1) cl c r rkv wkv x3 x4 o n1 n3 Dr Dw
      ((((w3.alloc (.map #[] 0)).alloc (.map #[] 0)).alloc (.cells #[.slice none 0 0, .map (some w3.heap.size), .map (some (w3.heap.size + 1)), x3, x4] 70)).alloc (.cells #[.int .i64 cl, .int .i64 c, .int .i64 r, rkv, wkv, .string o] 54)) := by
  refine ⟨Own.newAt 54 [.int .i64 cl, .int .i64 c, .int .i64 r, rkv, wkv, .string o] (by simp), ⟨(Own.newAt 70 [.slice none 0 0, .map (some w3.heap.size), .map (some (w3.heap.size + 1)), x3, x4] (by simp)).alloc _, World.ownsRow_nil _ _ _ _, ?_, ?_⟩, (((hr.alloc _).alloc _).alloc _).alloc _, (((hw.alloc _).alloc _).alloc _).alloc _, ?_⟩
  · exact (((World.ownsMap_made _ _ _ _).alloc _).alloc _).alloc _
  · have h := ((World.ownsMap_made (w3.alloc (.map #[] 0)) Try.prog 9 (plainElem (H := Unit) Try.prog 21)).alloc (.cells #[.slice none 0 0, .map (some w3.heap.size), .map (some (w3.heap.size + 1)), x3, x4] 70)).alloc (.cells #[.int .i64 cl, .int .i64 c, .int .i64 r, rkv, wkv, .string o] 54)
    have e : (w3.alloc (.map #[] 0)).heap.size = w3.heap.size + 1 := by simp
    rw [e] at h
    exact h
  · exact Below.allocL (Below.allocL (Below.allocL (Below.allocL hb (Nat.le_refl _) _) (Nat.le_refl _) _) (Nat.le_refl _) _) (Nat.le_refl _) _

theorem Ahead.later {W0 : World} {T mb bk bv tb : Nat} {cl c r : Int} {rkv wkv x3 x4 : Value} {o : ByteArray} {n1 n3 : Nat} {Dr Dw : DataW Unit} {W W' : World} (h : Ahead W0 T mb bk bv tb cl c r rkv wkv x3 x4 o n1 n3 Dr Dw W) (hb : Below W.heap.size W W') : Ahead W0 T mb bk bv tb cl c r rkv wkv x3 x4 o n1 n3 Dr Dw W' :=
  ⟨h.tx.below hb h.tx.lt, ⟨h.model.own.below hb h.model.own.lt, World.ownsRow_nil _ _ _ _, ownsMap_same h.model.hk (hb.block _ h.model.hk.lt), ownsMap_same h.model.hv (hb.block _ h.model.hv.lt)⟩, h.kr.kept (fun k _ hl => hb.block k hl), h.kw.kept (fun k _ hl => hb.block k hl), h.below.trans (hb.mono h.below.size)⟩

theorem kinds_differ {w : World} {B1 B2 : Nat} {e1 e2 : TypeId} {z1 z2 : Nat} {v1 v2 : Value} {m1 m2 : Nat} {xs1 xs2 : List Value} (h1 : w.ownsRow B1 e1 z1 v1 m1 xs1) (h2 : w.ownsRow B2 e2 z2 v2 m2 xs2) (hne : e1 ≠ e2) {k : Nat} (hk : v1.ownBlock = some k) : some k ≠ v2.ownBlock := fun e => by
  rcases h1.2 with ⟨rfl, _⟩ | ⟨g1, _, cur1, rfl, _, hb1, _⟩
  · cases hk
  rcases h2.2 with ⟨rfl, _⟩ | ⟨g2, _, cur2, rfl, _, hb2, _⟩
  · cases e
  have e1' : g1 = k := by simpa [Value.ownBlock] using hk
  have e2' : k = g2 := by simpa [Value.ownBlock] using e
  rw [e1', e2', hb2] at hb1
  simp only [Option.some.injEq, Obj.cells.injEq] at hb1
  exact hne hb1.2.1.symm
theorem kind_differs {w : World} {B2 p : Nat} {e1 e2 : TypeId} {z2 : Nat} {v2 : Value} {m2 : Nat} {cs xs2 : List Value} (h1 : Own w p e1 cs) (h2 : w.ownsRow B2 e2 z2 v2 m2 xs2) (hne : e1 ≠ e2) : some p ≠ v2.ownBlock := fun e => by
  rcases h2.2 with ⟨rfl, _⟩ | ⟨g2, _, cur2, rfl, _, hb2, _⟩
  · cases e
  have e2' : p = g2 := by simpa [Value.ownBlock] using e
  unfold Own at h1
  rw [e2', hb2] at h1
  simp only [Option.some.injEq, Obj.cells.injEq] at h1
  exact hne h1.2.1.symm

/-- The state between the adds. -/
structure Mid (W0 : World) (T mb bk bv tb nk nv : Nat) (Dk Dv : DataW Unit) (ov : Value) (n : Nat) (ps : List Value) (cl c r : Int) (rkv wkv x3 x4 : Value) (o : ByteArray) (n1 n3 : Nat) (Dr Dw : DataW Unit) (W : World) : Prop where
  tx : Own W tb 54 [.int .i64 cl, .int .i64 c, .int .i64 r, rkv, wkv, .string o]
  model : Model W mb bk bv nk nv Dk Dv ov x3 x4 n ps
  kr : KVb W0 W rkv T n1 Dr
  kw : KVb W0 W wkv T n3 Dw
  below : Below W0.heap.size W0 W

section
variable {W0 : World} {T mb bk bv tb nk nv nk' nv' : Nat} {Dk Dv Dk' Dv' : DataW Unit} {ov ov' : Value} {n : Nat} {ps : List Value} {cl c r : Int} {rkv wkv x3 x4 : Value} {o : ByteArray} {n1 n3 : Nat} {Dr Dw : DataW Unit} {W W1 w' : World} {unk : Bool} {p : Nat} {ssr ssw : List (List UInt8)}

/-- What add leaves as it was. -/
theorem Added.keeps (hb : Below W.heap.size W W1) (ha : Added mb bk bv nk' nv' Dr Dw Dk Dv ov x3 x4 n ps c r unk W1 w' p ssr ssw Dk' Dv' ov') {k : Nat} (hk : k < W.heap.size) (h1 : k ≠ mb) (h2 : k ≠ bk) (h3 : k ≠ bv) (h4 : some k ≠ ov.ownBlock) : w'.heap[k]? = W.heap[k]? :=
  (ha.below k (Nat.lt_of_lt_of_le hk hb.size) h1 h2 h3 h4).trans (hb.block k hk)

theorem Mid.added (h : Mid W0 T mb bk bv tb nk nv Dk Dv ov n ps cl c r rkv wkv x3 x4 o n1 n3 Dr Dw W) (hb : Below W.heap.size W W1) (ha : Added mb bk bv nk' nv' Dr Dw Dk Dv ov x3 x4 n ps c r unk W1 w' p ssr ssw Dk' Dv' ov')
    (hT : W0.heap.size ≤ T) (h1 : T ≤ bk) (h2 : T ≤ bv) (h3 : bk < mb) (h4 : bv < mb) (h5 : mb < tb) : Mid W0 T mb bk bv tb nk' nv' Dk' Dv' ov' (n + 1) (ps ++ [.pointer (some ⟨p, 0, none⟩)]) cl c r rkv wkv x3 x4 o n1 n3 Dr Dw w' := by
  have low : ∀ k, k < T → k < W.heap.size → w'.heap[k]? = W.heap[k]? := fun k hk hl => ha.keeps hb hl (by omega) (by omega) (by omega) fun e => by have := (h.model.row.lt k e.symm).1; omega
  refine ⟨?_, ha.model, h.kr.kept low, h.kw.kept low, ?_⟩
  · exact (ha.keeps hb h.tx.lt (by omega) (by omega) (by omega) (kind_differs h.tx h.model.row (by decide))).trans h.tx
  · refine h.below.trans ⟨ha.os.trans hb.os, ha.tape.trans hb.tape, ha.output.trans hb.output, Nat.le_trans hb.size ha.size, fun k hk => low k (by omega) (Nat.lt_of_lt_of_le hk h.below.size)⟩

theorem OpAt.added {B p0 : Nat} {lr lw : List (Int × Int)} {unk0 : Bool} {c0 r0 : Int} (h : OpAt W B p0 c0 r0 unk0 lr lw) (hrow : W.ownsRow (mb + 1) 71 1 ov n ps) (hb : Below W.heap.size W W1) (ha : Added mb bk bv nk' nv' Dr Dw Dk Dv ov x3 x4 n ps c r unk W1 w' p ssr ssw Dk' Dv' ov')
    (h3 : bk < mb) (h4 : bv < mb) (h5 : mb < B) : OpAt w' B p0 c0 r0 unk0 lr lw := by
  obtain ⟨hle, rv, wv, hO, hR, hW⟩ := h
  refine ⟨hle, rv, wv, ?_, ?_, ?_⟩
  · exact (ha.keeps hb hO.lt (by omega) (by omega) (by omega) (kind_differs hO hrow (by decide))).trans hO
  · exact ownsRow_same hR fun k hk => by
      have := hR.lt k hk
      exact ha.keeps hb this.2 (by omega) (by omega) (by omega) (kinds_differ hR hrow (by decide) hk)
  · exact ownsRow_same hW fun k hk => by
      have := hW.lt k hk
      exact ha.keeps hb this.2 (by omega) (by omega) (by omega) (kinds_differ hW hrow (by decide) hk)

theorem OpAt.later {B p0 : Nat} {lr lw : List (Int × Int)} (h : OpAt W B p0 c r unk lr lw) (hb : Below W.heap.size W w') : OpAt w' B p0 c r unk lr lw := by
  obtain ⟨hle, rv, wv, hO, hR, hW⟩ := h
  exact ⟨hle, rv, wv, hO.below hb hO.lt, ownsRow_same hR fun k hk => hb.block k (hR.lt k hk).2, ownsRow_same hW fun k hk => hb.block k (hW.lt k hk).2⟩

theorem keys_len {kv : Value} (h : KVb W0 W kv T n1 Dr) : (strKeys Dr).length ≤ n1 := by
  rcases h with ⟨_, rfl⟩ | ⟨b, _, _, h⟩
  · exact Nat.zero_le _
  · refine Nat.le_trans ?_ h.size_le
    cases Dr <;> simp [strKeys, Maps.size]
end

set_option maxHeartbeats 8000000 in
set_option maxRecDepth 100000 in
theorem law6 (cl c r : Int) (n1 c1 n2 c2 n3 c3 n4 c4 : Nat) (a1 a2 a3 a4 : Option Addr) (s1 s3 : Nat → ByteArray) (p2 p4 : Nat → Option Addr) (o : ByteArray) (w : World) (hn1 : n1 ≤ 9223372036854775807) (hn2 : n2 ≤ 9223372036854775807) (hn3 : n3 ≤ 9223372036854775807) (hn4 : n4 ≤ 9223372036854775807)
    (hs1 : ∀ i, (s1 i).size ≤ 9223372036854775807) (hs3 : ∀ i, (s3 i).size ≤ 9223372036854775807) (ho : o.size ≤ 9223372036854775807) (hp2 : ∀ i, i < n2 → GoodP w (p2 i)) (hp4 : ∀ i, i < n4 → GoodP w (p4 i))
    (hr1 : Row w a1 n1 fun i => .string (s1 i)) (hr2 : Row w a2 n2 fun i => .pointer (p2 i)) (hr3 : Row w a3 n3 fun i => .string (s3 i)) (hr4 : Row w a4 n4 fun i => .pointer (p4 i)) :
    Calls Try.prog 6 #[.int .i64 cl, .int .i64 c, .int .i64 r, .slice a1 n1 c1, .slice a2 n2 c2, .slice a3 n3 c3, .slice a4 n4 c4, .string o] w fun e w' => e = .returned (.bool true) ∧ Below w.heap.size w w' := by
  have HR1 : Hid (Row w a1 n1 fun i => .string (s1 i)) := hr1
  have HR2 : Hid (Row w a2 n2 fun i => .pointer (p2 i)) := hr2
  have HR3 : Hid (Row w a3 n3 fun i => .string (s3 i)) := hr3
  have HR4 : Hid (Row w a4 n4 fun i => .pointer (p4 i)) := hr4
  have HS1 : Hid (∀ i, (s1 i).size ≤ 9223372036854775807) := hs1
  have HS3 : Hid (∀ i, (s3 i).size ≤ 9223372036854775807) := hs3
  have HP2 : Hid (∀ i, i < n2 → GoodP w (p2 i)) := hp2
  have HP4 : Hid (∀ i, i < n4 → GoodP w (p4 i)) := hp4
  clear hr1 hr2 hr3 hr4 hs1 hs3 hp2 hp4
  go_enter Try.func6, Try.ntmps6
  go_wp2_with fail
  refine (bytes33 cl c r n1 c1 n2 c2 n3 c3 n4 c4 a1 a2 a3 a4 s1 s3 p2 p4 o _ hn1 hn2 hn3 hn4 HS1.out HS3.out ho HP2.out HP4.out HR1.out HR2.out HR3.out HR4.out).mono ?_
  rintro e w' ⟨⟨b, rfl⟩, hw'⟩
  subst w'
  cases b with
  | false =>
    go_wp2_with fail
    go_ret; exact ⟨rfl, Below.refl _ _⟩
  | true =>
    by_cases hall : n1 ≤ 1048576 ∧ n2 ≤ 1048576 ∧ n3 ≤ 1048576 ∧ n4 ≤ 1048576 ∧ o.size ≤ 1048576
    rotate_left
    · go_wp2_with fail
      all_goals first
        | (go_ret; exact ⟨rfl, Below.refl _ _⟩)
        | (exfalso; omega)
    obtain ⟨hm1, hm2, hm3, hm4, hmo⟩ := hall
    go_wp2_with fail
    refine (dom18 n1 c1 n2 c2 n3 c3 n4 c4 a1 a2 a3 a4 s1 s3 p2 p4 o _ hm1 hm2 hm3 hm4 HS1.out HS3.out hmo HP2.out HP4.out HR1.out HR2.out HR3.out HR4.out).mono ?_
    rintro e w' ⟨⟨b, rfl⟩, hw'⟩
    subst w'
    cases b with
    | false =>
      go_wp2_with fail
      go_ret; exact ⟨rfl, Below.refl _ _⟩
    | true =>
      go_wp2_with fail
      refine (txn20 w a1 a2 n1 c1 n2 c2 s1 p2 w hm1 HS1.out HP2.out HR1.out HR2.out).mono ?_
      rintro e w2 ⟨rkv, Dr, rfl, hkr, hb2⟩
      obtain ⟨ob1, rfl⟩ := hkr.shape
      have HKR : Hid (KV w w2 (.map ob1) w.heap.size n1 Dr) := hkr
      clear hkr
      go_wp2_with fail
      refine (txn20 w a3 a4 n3 c3 n4 c4 s3 p4 w2 hm3 HS3.out HP4.out (HR3.out.later hb2) (HR4.out.later hb2)).mono ?_
      rintro e w3 ⟨wkv, Dw, rfl, hkw, hb3⟩
      obtain ⟨ob2, rfl⟩ := hkw.shape
      have HKW : Hid (KV w w3 (.map ob2) w2.heap.size n3 Dw) := hkw
      have HB : Hid (Below w.heap.size w w3) := hb2.trans (hb3.mono hb2.size)
      have HKR3 : Hid (KVb w w3 (.map ob1) w3.heap.size n1 Dr) := HKR.out.below hb3
      have HKW3 : Hid (KVb w w3 (.map ob2) w3.heap.size n3 Dw) := HKW.out.below (Below.refl _ _)
      clear hkw hb2 hb3 HKR HKW
      have hmm := fun w => run_makeMap (P := Try.prog) 44 w
      go_wp2_with fail
      refine (new22 w3.heap.size (w3.heap.size + 1) _).mono ?_
      rintro e w6 ⟨rfl, x3, x4, hw6⟩
      clear hmm
      subst w6
      go_wp2_with fail
      refine calls_via (fun W => Ahead w w3.heap.size (w3.heap.size + 1 + 1) w3.heap.size (w3.heap.size + 1) (w3.heap.size + 1 + 1 + 1) cl c r (.map ob1) (.map ob2) x3 x4 o n1 n3 Dr Dw W) (ahead_mk HB.out HKR3.out HKW3.out) ?_
      intro W hA
      have hT : w.heap.size ≤ w3.heap.size := HB.out.size
      generalize w3.heap.size = T at *
      clear HB HKR3 HKW3
      cases hsk : skips o Dw with
      | true =>
        have HSK : Hid (skips o Dw = true) := hsk
        clear hsk
        refine (zadd_skip w (T + 1 + 1) T n3 cl c r (.map ob1) (.map ob2) o Dw W hA.kw HSK.out).mono ?_
        rintro e w4 ⟨rfl, hb4⟩
        have hA4 := hA.later hb4
        clear hb4 hA
        have L1 := lenK hA4.model.hk
        have L2 := lenK hA4.model.hv
        have t0 := hA4.tx.cell 0
        have t1 := hA4.tx.cell 1
        have t2 := hA4.tx.cell 2
        have t3 := hA4.tx.cell 3
        have t4 := hA4.tx.cell 4
        have t5 := hA4.tx.cell 5
        simp only [List.getElem?_cons_zero, List.getElem?_cons_succ] at t0 t1 t2 t3 t4 t5
        have HA4 : Hid (Ahead w T (T + 1 + 1) T (T + 1) (T + 1 + 1 + 1) cl c r (.map ob1) (.map ob2) x3 x4 o n1 n3 Dr Dw w4) := hA4
        clear hA4
        go_wp2_with fail
        refine (keys24 (T + 1 + 1) (.map (some T)) w4 (HA4.out.model.own.cell 1)).mono ?_
        rintro e w' ⟨rfl, hw'⟩
        subst w'
        go_wp2_with fail
        refine (values25 (T + 1 + 1) (.map (some (T + 1))) w4 (HA4.out.model.own.cell 2)).mono ?_
        rintro e w' ⟨rfl, hw'⟩
        subst w'
        go_wp2_with fail
        refine (ops26 (T + 1 + 1) 0 0 none w4 (HA4.out.model.own.cell 0)).mono ?_
        rintro e w' ⟨rfl, hw'⟩
        subst w'
        go_wp2_with fail
        refine (zadd_skip w (T + 1 + 1) T n3 cl c r (.map ob1) (.map ob2) o Dw w4 HA4.out.kw HSK.out).mono ?_
        rintro e w5 ⟨rfl, hb5⟩
        have hA5 := HA4.out.later hb5
        have HA5 : Hid (Ahead w T (T + 1 + 1) T (T + 1) (T + 1 + 1 + 1) cl c r (.map ob1) (.map ob2) x3 x4 o n1 n3 Dr Dw w5) := hA5
        clear t0 t1 t2 t3 t4 t5 L1 L2 HA4 hb5
        have L1 := lenK hA5.model.hk
        have L2 := lenK hA5.model.hv
        clear hA5
        go_wp2_with fail
        refine (keys24 (T + 1 + 1) (.map (some T)) w5 (HA5.out.model.own.cell 1)).mono ?_
        rintro e w' ⟨rfl, hw'⟩
        subst w'
        go_wp2_with fail
        refine (values25 (T + 1 + 1) (.map (some (T + 1))) w5 (HA5.out.model.own.cell 2)).mono ?_
        rintro e w' ⟨rfl, hw'⟩
        subst w'
        go_wp2_with fail
        refine (ops26 (T + 1 + 1) 0 0 none w5 (HA5.out.model.own.cell 0)).mono ?_
        rintro e w' ⟨rfl, hw'⟩
        subst w'
        go_wp2_with fail
        go_ret
        exact ⟨rfl, HA5.out.below⟩
      | false =>
        have hMid : Mid w T (T + 1 + 1) T (T + 1) (T + 1 + 1 + 1) 0 0 (.map []) (.map []) (.slice none 0 0) 0 [] cl c r (.map ob1) (.map ob2) x3 x4 o n1 n3 Dr Dw W := ⟨hA.tx, hA.model, hA.kr, hA.kw, hA.below⟩
        clear hA
        refine (zadd_ops w T (T + 1 + 1) T (T + 1) 0 0 0 n1 n3 Dr Dw (.map []) (.map []) (.slice none 0 0) x3 x4 [] cl c r (.map ob1) (.map ob2) o W hMid.below hT (Nat.le_refl _) (by omega) (by omega) (by omega) (by omega) hMid.kr hMid.kw hsk hMid.model (by omega) (by omega) (by omega)).mono ?_
        rintro e w4 ⟨rfl, W1, q1, ssr1, ssw1, Dk1, Dv1, ov1, hbW1, hAd1⟩
        have hM4 := hMid.added hbW1 hAd1 hT (Nat.le_refl _) (by omega) (by omega) (by omega) (by omega)
        have hW1 : T + 1 + 1 < W1.heap.size := Nat.lt_of_lt_of_le hMid.model.own.lt hbW1.size
        have HAD1 : Hid (Added (T + 1 + 1) T (T + 1) (0 + n1 + n3) (0 + n1 + n3) Dr Dw (.map []) (.map []) (.slice none 0 0) x3 x4 0 [] c r (o.toList == [117, 110, 107, 110, 111, 119, 110]) W1 w4 q1 ssr1 ssw1 Dk1 Dv1 ov1) := hAd1
        obtain ⟨av1, cv1, rfl⟩ := ownsRow_shape hM4.model.row
        have L1 := lenK hM4.model.hk
        have L2 := lenK hM4.model.hv
        have t0 := hM4.tx.cell 0
        have t1 := hM4.tx.cell 1
        have t2 := hM4.tx.cell 2
        have t3 := hM4.tx.cell 3
        have t4 := hM4.tx.cell 4
        have t5 := hM4.tx.cell 5
        simp only [List.getElem?_cons_zero, List.getElem?_cons_succ] at t0 t1 t2 t3 t4 t5
        have HM4 : Hid (Mid w T (T + 1 + 1) T (T + 1) (T + 1 + 1 + 1) (0 + n1 + n3) (0 + n1 + n3) Dk1 Dv1 (.slice av1 (0 + 1) cv1) (0 + 1) ([] ++ [.pointer (some ⟨q1, 0, none⟩)]) cl c r (.map ob1) (.map ob2) x3 x4 o n1 n3 Dr Dw w4) := hM4
        have HSK : Hid (skips o Dw = false) := hsk
        clear hM4 hAd1 hbW1 hMid hsk
        go_wp2_with fail
        refine (keys24 (T + 1 + 1) (.map (some T)) w4 (HM4.out.model.own.cell 1)).mono ?_
        rintro e w' ⟨rfl, hw'⟩
        subst w'
        go_wp2_with fail
        refine (values25 (T + 1 + 1) (.map (some (T + 1))) w4 (HM4.out.model.own.cell 2)).mono ?_
        rintro e w' ⟨rfl, hw'⟩
        subst w'
        go_wp2_with fail
        refine (ops26 (T + 1 + 1) 1 cv1 av1 w4 (HM4.out.model.own.cell 0)).mono ?_
        rintro e w' ⟨rfl, hw'⟩
        subst w'
        go_wp2_with fail
        refine (zadd_ops w T (T + 1 + 1) T (T + 1) 1 (0 + n1 + n3) (0 + n1 + n3) n1 n3 Dr Dw Dk1 Dv1 (.slice av1 1 cv1) x3 x4 [.pointer (some ⟨q1, 0, none⟩)] cl c r (.map ob1) (.map ob2) o w4 HM4.out.below hT (Nat.le_refl _) (by omega) (by omega) (by omega) (by omega) HM4.out.kr HM4.out.kw HSK.out HM4.out.model (by omega) (by omega) (by omega)).mono ?_
        rintro e w5 ⟨rfl, W2, q2, ssr2, ssw2, Dk2, Dv2, ov2, hbW2, hAd2⟩
        obtain ⟨rfl, rfl⟩ := hAd2.same HAD1.out.kr HAD1.out.kw
        have hM5 := HM4.out.added hbW2 hAd2 hT (Nat.le_refl _) (by omega) (by omega) (by omega) (by omega)
        have HO1 : Hid (OpAt w5 W1.heap.size q1 c r (o.toList == [117, 110, 107, 110, 111, 119, 110]) (ssr1.map (pr Dk2 Dv2 Dr)) (ssw1.map (pr Dk2 Dv2 Dw))) := HAD1.out.op.added HM4.out.model.row hbW2 hAd2 (by omega) (by omega) hW1
        have HO2 : Hid (OpAt w5 W2.heap.size q2 c r (o.toList == [117, 110, 107, 110, 111, 119, 110]) (ssr2.map (pr Dk2 Dv2 Dr)) (ssw2.map (pr Dk2 Dv2 Dw))) := hAd2.op
        have HPR : Hid ((ssr1.map (pr Dk2 Dv2 Dr)).Perm (ssr2.map (pr Dk2 Dv2 Dr))) := (HAD1.out.pr.trans hAd2.pr.symm).map _
        have HPW : Hid ((ssw1.map (pr Dk2 Dv2 Dw)).Perm (ssw2.map (pr Dk2 Dv2 Dw))) := (HAD1.out.pw.trans hAd2.pw.symm).map _
        have hlr : (ssr1.map (pr Dk2 Dv2 Dr)).length ≤ 1048576 := by rw [List.length_map, HAD1.out.pr.length_eq]; exact Nat.le_trans (keys_len hM5.kr) hm1
        have hlw : (ssw1.map (pr Dk2 Dv2 Dw)).length ≤ 1048576 := by rw [List.length_map, HAD1.out.pw.length_eq]; exact Nat.le_trans (keys_len hM5.kw) hm3
        have hlr2 : (ssr2.map (pr Dk2 Dv2 Dr)).length = (ssr1.map (pr Dk2 Dv2 Dr)).length := HPR.out.length_eq.symm
        have hlw2 : (ssw2.map (pr Dk2 Dv2 Dw)).length = (ssw1.map (pr Dk2 Dv2 Dw)).length := HPW.out.length_eq.symm
        obtain ⟨av2, cv2, rfl⟩ := ownsRow_shape hM5.model.row
        clear t0 t1 t2 t3 t4 t5 L1 L2
        have L1 := lenK hM5.model.hk
        have L2 := lenK hM5.model.hv
        have HM5 : Hid (Mid w T (T + 1 + 1) T (T + 1) (T + 1 + 1 + 1) (0 + n1 + n3 + n1 + n3) (0 + n1 + n3 + n1 + n3) Dk2 Dv2 (.slice av2 (1 + 1) cv2) (1 + 1) ([.pointer (some ⟨q1, 0, none⟩)] ++ [.pointer (some ⟨q2, 0, none⟩)]) cl c r (.map ob1) (.map ob2) x3 x4 o n1 n3 Dr Dw w5) := hM5
        clear hM5 hAd2 hbW2 HAD1 HM4 HSK
        generalize ssr1.map (pr Dk2 Dv2 Dr) = lr1 at *
        generalize ssr2.map (pr Dk2 Dv2 Dr) = lr2 at *
        generalize ssw1.map (pr Dk2 Dv2 Dw) = lw1 at *
        generalize ssw2.map (pr Dk2 Dv2 Dw) = lw2 at *
        generalize (o.toList == [117, 110, 107, 110, 111, 119, 110]) = unk at *
        go_wp2_with fail
        refine (keys24 (T + 1 + 1) (.map (some T)) w5 (HM5.out.model.own.cell 1)).mono ?_
        rintro e w' ⟨rfl, hw'⟩
        subst w'
        go_wp2_with fail
        refine (values25 (T + 1 + 1) (.map (some (T + 1))) w5 (HM5.out.model.own.cell 2)).mono ?_
        rintro e w' ⟨rfl, hw'⟩
        subst w'
        go_wp2_with fail
        refine (ops26 (T + 1 + 1) 2 cv2 av2 w5 (HM5.out.model.own.cell 0)).mono ?_
        rintro e w' ⟨rfl, hw'⟩
        subst w'
        clear L1 L2
        go_wp2_with fail
        refine (op31 (T + 1 + 1) W1.heap.size (T + 1 + 1 + 1) q1 0 2 _ _ c r unk lr1 lw1 w5 (HM5.out.model.own.cell 0) HM5.out.model.row rfl HO1.out hlr hlw).mono ?_
        rintro e w6 ⟨b1, b2, b3, b4, rfl, hq1, hq2, hq3, hq4, hb6⟩
        have HQ1 : Hid (Row w6 b1 lr1.length fun i => .int .i32 (at2 lr1 i).1) := hq1
        have HQ2 : Hid (Row w6 b2 lr1.length fun i => .int .i32 (at2 lr1 i).2) := hq2
        have HQ3 : Hid (Row w6 b3 lw1.length fun i => .int .i32 (at2 lw1 i).1) := hq3
        have HQ4 : Hid (Row w6 b4 lw1.length fun i => .int .i32 (at2 lw1 i).2) := hq4
        have HB6 : Hid (Below w5.heap.size w5 w6) := hb6
        clear hq1 hq2 hq3 hq4 hb6
        go_wp2_with fail
        refine (op31 (T + 1 + 1) W2.heap.size (T + 1 + 1 + 1) q2 1 2 _ _ c r unk lr2 lw2 w6 ((HM5.out.model.own.below HB6.out HM5.out.model.own.lt).cell 0) (ownsRow_same HM5.out.model.row fun k hk => HB6.out.block k (HM5.out.model.row.lt k hk).2) rfl (HO2.out.later HB6.out) (by omega) (by omega)).mono ?_
        rintro e w7 hout
        unfold OpOut at hout
        rw [hlr2, hlw2] at hout
        obtain ⟨d1, d2, d3, d4, rfl, hq1, hq2, hq3, hq4, hb7⟩ := hout
        have HU1 : Hid (Row w7 d1 lr1.length fun i => .int .i32 (at2 lr2 i).1) := hq1
        have HU2 : Hid (Row w7 d2 lr1.length fun i => .int .i32 (at2 lr2 i).2) := hq2
        have HU3 : Hid (Row w7 d3 lw1.length fun i => .int .i32 (at2 lw2 i).1) := hq3
        have HU4 : Hid (Row w7 d4 lw1.length fun i => .int .i32 (at2 lw2 i).2) := hq4
        have HB7 : Hid (Below w6.heap.size w6 w7) := hb7
        clear hq1 hq2 hq3 hq4 hb7
        have HL1 : Hid (lr2.length = lr1.length) := hlr2
        have HL2 : Hid (lw2.length = lw1.length) := hlw2
        clear hlr2 hlw2
        go_wp2_with fail
        refine (same34 lr1 lr2 HPR.out lr1.length _ _ _ _ b1 b2 d1 d2 w7 rfl HL1.out hlr (HQ1.out.later HB7.out) (HQ2.out.later HB7.out) HU1.out HU2.out).mono ?_
        rintro e w8 ⟨rfl, hb8⟩
        have HB8 : Hid (Below w7.heap.size w7 w8) := hb8
        clear hb8
        go_wp2_with fail
        refine (same34 lw1 lw2 HPW.out lw1.length _ _ _ _ b3 b4 d3 d4 w8 rfl HL2.out hlw ((HQ3.out.later HB7.out).later HB8.out) ((HQ4.out.later HB7.out).later HB8.out) (HU3.out.later HB8.out) (HU4.out.later HB8.out)).mono ?_
        rintro e w9 ⟨rfl, hb9⟩
        go_wp2_with fail
        go_ret
        refine ⟨rfl, HM5.out.below.trans ((HB6.out.mono HM5.out.below.size).trans ((HB7.out.mono ?_).trans ((HB8.out.mono ?_).trans (hb9.mono ?_))))⟩
        · exact Nat.le_trans HM5.out.below.size HB6.out.size
        · exact Nat.le_trans (Nat.le_trans HM5.out.below.size HB6.out.size) HB7.out.size
        · exact Nat.le_trans (Nat.le_trans (Nat.le_trans HM5.out.below.size HB6.out.size) HB7.out.size) HB8.out.size
end Go.Proofs.Qxb6602268a
