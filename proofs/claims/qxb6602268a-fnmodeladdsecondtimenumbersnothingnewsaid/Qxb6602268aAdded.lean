/-
  Seat b6602268a: what add leaves behind.
-/
import Derived.Test.Qxb6602268aAssigns
import Derived.Test.Qxb6602268aOrder
import Derived.Deep.AppendLies
namespace Go.Proofs.Qxb6602268a
open Go.RowKit Go.Maps

/-- The model that the walk holds. -/
structure Model (w : World) (mb bk bv nk nv : Nat) (Dk Dv : DataW Unit) (ov x3 x4 : Value) (n : Nat) (ps : List Value) : Prop where
  own : Own w mb 70 [ov, .map (some bk), .map (some bv), x3, x4]
  row : w.ownsRow (mb + 1) 71 1 ov n ps
  hk : Nums w bk nk Dk
  hv : Nums w bv nv Dv

theorem ownsRow_same {w w' : World} {base : Nat} {e : TypeId} {size : Nat} {v : Value} {n : Nat} {xs : List Value} (h : w.ownsRow base e size v n xs) (hb : ∀ k, v.ownBlock = some k → w'.heap[k]? = w.heap[k]?) : w'.ownsRow base e size v n xs :=
  ⟨h.1, h.2.imp id fun ⟨g, cap, cur, hv, h1, h2, h3⟩ => ⟨g, cap, cur, hv, h1, (hb g (by rw [hv]; rfl)).trans h2, h3⟩⟩
theorem ownsRow_shape {w : World} {base : Nat} {e : TypeId} {size : Nat} {v : Value} {n : Nat} {xs : List Value} (h : w.ownsRow base e size v n xs) : ∃ a c, v = .slice a n c := by
  rcases h.2 with ⟨rfl, rfl⟩ | ⟨g, cap, _, rfl, _⟩
  · exact ⟨none, 0, rfl⟩
  · exact ⟨_, _, rfl⟩
theorem ownsMap_same {w w' : World} {P : Program} {k : TypeId} {R : Value → Option (DataW Unit × List MemPlace)} {b n : Nat} {D : DataW Unit} (h : w.ownsMap P k R b n D) (hb : w'.heap[b]? = w.heap[b]?) : w'.ownsMap P k R b n D := by
  obtain ⟨es, clock, h1, h2⟩ := h
  exact ⟨es, clock, hb.trans h1, h2⟩
theorem has_mem {D : DataW Unit} {x : List UInt8} (h : Maps.has D (.string x) = true) : x ∈ strKeys D := by
  cases D with
  | map es =>
    rw [has_eq, List.any_eq_true] at h
    obtain ⟨p, hp, hs⟩ := h
    refine List.mem_map.2 ⟨p, hp, ?_⟩
    cases hl : p.1 <;> rw [hl] at hs <;> simp [Lit.sameKey, strOf] at hs ⊢
    exact hs
  | _ => simp [Maps.has] at h

/-- All entries of D are numbered. -/
def AllKnown (D Dk Dv : DataW Unit) : Prop := ∀ x, Maps.has D (.string x) = true → Known D Dk Dv x

/-- One operation of the model. -/
structure OpAt (w : World) (B p : Nat) (c r : Int) (unk : Bool) (lr lw : List (Int × Int)) : Prop where
  le : B ≤ p
  op : ∃ rv wv, Own w p 75 [rv, wv, .int .i64 c, .int .i64 r, .bool unk] ∧ w.ownsRow B 91 2 rv lr.length (cells2 lr) ∧ w.ownsRow B 91 2 wv lw.length (cells2 lw)

/-- What add leaves behind. -/
structure Added (mb bk bv nk nv : Nat) (Dr Dw Dk Dv : DataW Unit) (ov x3 x4 : Value) (n : Nat) (ps : List Value) (c r : Int) (unk : Bool) (w w' : World) (p : Nat) (ssr ssw : List (List UInt8)) (Dk' Dv' : DataW Unit) (ov' : Value) : Prop where
  model : Model w' mb bk bv nk nv Dk' Dv' ov' x3 x4 (n + 1) (ps ++ [.pointer (some ⟨p, 0, none⟩)])
  op : OpAt w' w.heap.size p c r unk (ssr.map (pr Dk' Dv' Dr)) (ssw.map (pr Dk' Dv' Dw))
  pr : ssr.Perm (strKeys Dr)
  pw : ssw.Perm (strKeys Dw)
  kr : AllKnown Dr Dk' Dv'
  kw : AllKnown Dw Dk' Dv'
  same : AllKnown Dr Dk Dv → AllKnown Dw Dk Dv → Dk' = Dk ∧ Dv' = Dv
  below : ∀ k, k < w.heap.size → k ≠ mb → k ≠ bk → k ≠ bv → some k ≠ ov.ownBlock → w'.heap[k]? = w.heap[k]?
  size : w.heap.size ≤ w'.heap.size
  os : w'.os = w.os
  tape : w'.tape = w.tape
  output : w'.output = w.output

theorem Seen.all {D0 Dk0 Dv0 Dk Dv : DataW Unit} {ss : List (List UInt8)} (h : Seen D0 Dk0 Dv0 Dk Dv ss) (hp : ss.Perm (strKeys D0)) : AllKnown D0 Dk Dv := fun x hx => h.known x (hp.mem_iff.2 (has_mem hx))

theorem added_end {mb bk bv nk nv n : Nat} {Dr Dw Dk Dv Dk1 Dv1 Dk2 Dv2 : DataW Unit} {ov x3 x4 rv wv : Value} {ps : List Value} {c r : Int} {unk : Bool} {w W w2 w3 w5 : World} {ssr ssw : List (List UInt8)} {g cap nk0 nv0 : Nat}
    (hM : Model W mb bk bv nk0 nv0 Dk Dv ov x3 x4 n ps) (hWb : Below w.heap.size w W) (hov : ∀ k, ov.ownBlock = some k → k < w.heap.size) (h1 : bk < mb) (h2 : bv < mb)
    (hk1 : Kept bk bv W w2) (hr : w2.ownsRow W.heap.size 91 2 rv ssr.length (cells2 (ssr.map (pr Dk1 Dv1 Dr)))) (hp1 : ssr.Perm (strKeys Dr)) (hs1 : Seen Dr Dk Dv Dk1 Dv1 ssr)
    (hk2 : Kept bk bv w2 w3) (hw : w3.ownsRow w2.heap.size 91 2 wv ssw.length (cells2 (ssw.map (pr Dk2 Dv2 Dw)))) (hp2 : ssw.Perm (strKeys Dw)) (hs2 : Seen Dw Dk1 Dv1 Dk2 Dv2 ssw)
    (hnk : Nums w3 bk nk Dk2) (hnv : Nums w3 bv nv Dv2)
    (hg : ((w3.alloc (.cells #[rv, wv, .int .i64 c, .int .i64 r, .bool unk] 75)).alloc (.cells #[.pointer (some ⟨w3.heap.size, 0, none⟩)] 71)).grownBy w5 ov.ownBlock)
    (hrow : w5.ownsRow (mb + 1) 71 1 (.slice (some ⟨g, 0, none⟩) (n + 1) cap) (n + 1) (ps ++ [.pointer (some ⟨w3.heap.size, 0, none⟩)])) :
    Added mb bk bv nk nv Dr Dw Dk Dv ov x3 x4 n ps c r unk w (w5.setCell ⟨mb, 0, none⟩ (.slice (some ⟨g, 0, none⟩) (n + 1) cap)) w3.heap.size ssr ssw Dk2 Dv2 (.slice (some ⟨g, 0, none⟩) (n + 1) cap) := by
  have s1 := hWb.size
  have s2 := hk1.size
  have s3 := hk2.size
  have ovmb : some mb ≠ ov.ownBlock := fun e => by have := (hM.row.lt mb e.symm).1; omega
  have ovbk : some bk ≠ ov.ownBlock := fun e => by have := (hM.row.lt bk e.symm).1; omega
  have ovbv : some bv ≠ ov.ownBlock := fun e => by have := (hM.row.lt bv e.symm).1; omega
  have ovhi : ∀ k, w.heap.size ≤ k → some k ≠ ov.ownBlock := fun k hk e => by have := hov k e.symm; omega
  have F0 : ∀ k, k < w3.heap.size → some k ≠ ov.ownBlock → w5.heap[k]? = w3.heap[k]? := fun k hk hne => by
    rw [hg.block k (by simp; omega) hne, Below.heap_alloc _ _ _ (by simp; omega), Below.heap_alloc _ _ _ hk]
  have F : ∀ k, k < w3.heap.size → k ≠ mb → some k ≠ ov.ownBlock → (w5.setCell ⟨mb, 0, none⟩ (.slice (some ⟨g, 0, none⟩) (n + 1) cap)).heap[k]? = w3.heap[k]? := fun k hk hne hno => by
    rw [Below.heap_setCell _ _ _ _ (by simpa using hne)]; exact F0 k hk hno
  have hrl := hrow.lt g rfl
  have hmbW : mb < W.heap.size := hM.own.lt
  have O5 : Own w5 mb 70 [ov, .map (some bk), .map (some bv), x3, x4] := by
    unfold Own
    rw [F0 mb (by omega) ovmb, hk2.block mb (by omega) (by omega) (by omega), hk1.block mb hmbW (by omega) (by omega)]
    exact hM.own
  have g5 := hg.size
  simp at g5
  refine ⟨⟨O5.set 0 _, ?_, ?_, ?_⟩, ⟨by omega, rv, wv, ?_, ?_, ?_⟩, hp1, hp2, ?_, hs2.all hp2, ?_, ?_, ?_, ?_, ?_, ?_⟩
  · exact ownsRow_same hrow fun k hk => by
      have : g = k := by simpa [Value.ownBlock] using hk
      exact Below.heap_setCell _ _ _ _ (by simp; omega)
  · exact ownsMap_same hnk (F bk hnk.lt (by omega) ovbk)
  · exact ownsMap_same hnv (F bv hnv.lt (by omega) ovbv)
  · unfold Own
    rw [Below.heap_setCell _ _ _ _ (by simp; omega), hg.block _ (by simp; omega) (ovhi _ (by omega)), Below.heap_alloc _ _ _ (by simp)]
    exact heap_alloc_new w3 _
  · have e : ssr.map (pr Dk2 Dv2 Dr) = ssr.map (pr Dk1 Dv1 Dr) := List.map_congr_left fun z hz => pr_ext (hs1.known z hz) hs2.ek hs2.ev
    rw [e, List.length_map]
    refine ownsRow_same ⟨hr.1, hr.2.imp id fun ⟨g, cap, cur, hv, h1, h2⟩ => ⟨g, cap, cur, hv, by omega, h2⟩⟩ fun k hk => ?_
    have hkl := hr.lt k hk
    rw [F k (by omega) (by omega) (ovhi k (by omega))]
    exact hk2.block k hkl.2 (by omega) (by omega)
  · rw [List.length_map]
    refine ownsRow_same ⟨hw.1, hw.2.imp id fun ⟨g, cap, cur, hv, h1, h2⟩ => ⟨g, cap, cur, hv, by omega, h2⟩⟩ fun k hk => ?_
    have hkl := hw.lt k hk
    exact F k hkl.2 (by omega) (ovhi k (by omega))
  · intro x hx
    exact (hs1.all hp1 x hx).ext hs2.ek hs2.ev
  · intro ha hb
    obtain ⟨rfl, rfl⟩ := hs1.same ha
    exact hs2.same hb
  · intro k hk n1 n2 n3 n4
    rw [F k (by omega) n1 n4, hk2.block k (by omega) n2 n3, hk1.block k (by omega) n2 n3]
    exact hWb.block k hk
  · have e : (w5.setCell ⟨mb, 0, none⟩ (.slice (some ⟨g, 0, none⟩) (n + 1) cap)).heap.size = w5.heap.size := by simp [World.setCell]
    rw [e]
    omega
  · exact hg.os.trans (hk2.os.trans (hk1.os.trans hWb.os))
  · exact hg.tape.trans (hk2.tape.trans (hk1.tape.trans hWb.tape))
  · exact hg.output.trans (hk2.output.trans (hk1.output.trans hWb.output))
end Go.Proofs.Qxb6602268a
