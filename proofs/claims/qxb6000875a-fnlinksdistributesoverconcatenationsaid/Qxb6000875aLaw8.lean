/-
  Seat b6000875a: FnLinksDistributesOverConcatenation returns true.
-/
import Derived.Test.Qxb6000875aLaw7
import Derived.Test.Qxb6000875aBytes23
namespace Go.Proofs.Qxb6000875a
open Go.RowKit

theorem getD_left (A B : List Nat) (i : Nat) (h : i < A.length) : (A ++ B).getD i 0 = A.getD i 0 := by
  rw [List.getD_eq_getElem?_getD, List.getD_eq_getElem?_getD, List.getElem?_append_left h]
theorem getD_right (A B : List Nat) (i : Nat) : (A ++ B).getD (A.length + i) 0 = B.getD i 0 := by
  rw [List.getD_eq_getElem?_getD, List.getD_eq_getElem?_getD, List.getElem?_append_right (by omega), Nat.add_sub_cancel_left]

theorem filter_both (T : Nat → ByteArray) (A B : List Nat) : (A ++ B).filter (isLink T) = A.filter (isLink T) ++ B.filter (isLink T) := by simp

/-- What lies behind the first slice of calls: two rows of fields. -/
structure Two (w w2 : World) (ga gb : Nat) (pa pb : List Nat) : Prop where
  bel : Below w.heap.size w w2
  owna : Own w2 ga 43 (pa.map ptr)
  ownb : Own w2 gb 43 (pb.map ptr)
  typs : ∀ p, p ∈ pa ++ pb → w2.cell? ⟨p, 1, none⟩ = some (.string (typ w2 p))

theorem two_mk {w0 w wa wb : World} {pa pb : List Nat} (h0 : Below w0.heap.size w0 w) (ha : Below w.heap.size w wa) (hb : Below wa.heap.size wa wb) (oa : Own wa w.heap.size 43 (pa.map ptr)) (ob : Own wb wa.heap.size 43 (pb.map ptr))
    {B B' : Nat} (fa : Flds wa B pa) (fb : Flds wb B' pb) : Two w0 wb w.heap.size wa.heap.size pa pb := by
  refine ⟨(h0.trans (ha.mono h0.size)).trans (hb.mono (Nat.le_trans h0.size ha.size)), oa.below hb oa.lt, ob, ?_⟩
  have f : Flds wb 0 (pa ++ pb) := by
    intro p hp
    rcases List.mem_append.1 hp with hp | hp
    · obtain ⟨_, t, ht⟩ := fa p hp
      exact ⟨Nat.zero_le _, t, (hb.cell (p := ⟨p, 1, none⟩) (World.block_lt_of_cell? wa _ ht)).trans ht⟩
    · obtain ⟨_, t, ht⟩ := fb p hp
      exact ⟨Nat.zero_le _, t, ht⟩
  exact f.types

/-- Three resources laid one behind the other. -/
theorem box3 (w : World) (x y z : List Value) (W : World) (hW : W = ((w.alloc (.cells x.toArray 41)).alloc (.cells y.toArray 41)).alloc (.cells z.toArray 41)) :
    W.cell? ⟨w.heap.size, 3, none⟩ = x[3]? ∧ W.cell? ⟨w.heap.size + 1, 3, none⟩ = y[3]? ∧ W.cell? ⟨w.heap.size + 2, 3, none⟩ = z[3]? ∧ Below w.heap.size w W ∧ W.heap.size = w.heap.size + 3 := by
  subst hW
  refine ⟨(((Own.new w 41 x).alloc _).alloc _).cell 3, ((Own.newAt 41 y (by simp)).alloc _).cell 3, (Own.newAt 41 z (by simp)).cell 3, ?_, by simp⟩
  exact (((Below.refl _ _).alloc (Nat.le_refl _) _).alloc (by simp) _).alloc (by simp; omega) _

theorem Own.some_cell {w : World} {g n : Nat} {e : TypeId} {cs : List Value} (h : Own w g e cs) (hl : cs.length = n) {k : Nat} (hk : k < n) : ∃ v, w.cell? ⟨g, k, none⟩ = some v :=
  ⟨cs[k]'(by omega), by rw [h.cell k]; simp [hl, hk]⟩

theorem Row.left {w : World} {a : Option Addr} {A B : List Nat} (h : Row w a A.length fun i => ptr (A.getD i 0)) : Row w a A.length fun i => ptr ((A ++ B).getD i 0) := by
  rcases h with h | ⟨b, off, h, hc⟩
  · exact .inl h
  · refine .inr ⟨b, off, h, fun i hi => ?_⟩
    show w.cell? _ = some (ptr ((A ++ B).getD i 0))
    rw [getD_left _ _ _ hi]; exact hc i hi
theorem Row.right {w : World} {a : Option Addr} {A B : List Nat} (h : Row w a B.length fun i => ptr (B.getD i 0)) : Row w a B.length fun i => ptr ((A ++ B).getD (A.length + i) 0) := by
  rcases h with h | ⟨b, off, h, hc⟩
  · exact .inl h
  · refine .inr ⟨b, off, h, fun i hi => ?_⟩
    show w.cell? _ = some (ptr ((A ++ B).getD (A.length + i) 0))
    rw [getD_right]; exact hc i hi

set_option maxHeartbeats 4000000 in
theorem law8 (a1 a2 : Option Addr) (n1 c1 n2 c2 : Nat) (s1 s2 : Nat → ByteArray) (w : World) (hn1 : n1 ≤ 9223372036854775807) (hn2 : n2 ≤ 9223372036854775807)
    (hs1 : ∀ i, (s1 i).size ≤ 9223372036854775807) (hs2 : ∀ i, (s2 i).size ≤ 9223372036854775807)
    (hr1 : Row w a1 n1 fun i => .string (s1 i)) (hr2 : Row w a2 n2 fun i => .string (s2 i)) :
    Calls Try.prog 8 #[.slice a1 n1 c1, .slice a2 n2 c2] w fun e w' => e = .returned (.bool true) ∧ Below w.heap.size w w' := by
  have HR1 : Hid (Row w a1 n1 fun i => .string (s1 i)) := hr1
  have HR2 : Hid (Row w a2 n2 fun i => .string (s2 i)) := hr2
  have HS1 : Hid (∀ i, (s1 i).size ≤ 9223372036854775807) := hs1
  have HS2 : Hid (∀ i, (s2 i).size ≤ 9223372036854775807) := hs2
  clear hr1 hr2 hs1 hs2
  go_enter Try.func8, Try.ntmps8
  go_wp2_with fail
  refine (bytes23 a1 a2 n1 c1 n2 c2 s1 s2 _ hn1 hn2 HS1.out HS2.out HR1.out HR2.out).mono ?_
  rintro e w' ⟨⟨r, rfl⟩, hw⟩
  obtain rfl : w = w' := hw.symm
  cases r with
  | false =>
    go_wp2_with fail
    go_ret
    exact ⟨rfl, Below.refl _ _⟩
  | true =>
  by_cases hbig1 : n1 ≤ 65536
  rotate_left
  · have hgt : (65536 : Int) < (n1 : Int) := by omega
    go_wp2_with fail
    go_ret
    exact ⟨rfl, Below.refl _ _⟩
  have hd1 : decide ((65536 : Int) < (n1 : Int)) = false := decide_eq_false (by omega)
  by_cases hbig2 : n2 ≤ 65536
  rotate_left
  · have hgt : (65536 : Int) < (n2 : Int) := by omega
    go_wp2_with fail
    go_ret
    exact ⟨rfl, Below.refl _ _⟩
  go_wp2_with fail
  refine (len10 a1 n1 c1 s1 _ hn1 HS1.out HR1.out).mono ?_
  rintro e w' ⟨⟨r, rfl⟩, hw⟩
  obtain rfl : w = w' := hw.symm
  go_wp2_with fail
  refine (len10 a2 n2 c2 s2 _ hn2 HS2.out HR2.out).mono ?_
  rintro e w' ⟨⟨r2, rfl⟩, hw⟩
  obtain rfl : w = w' := hw.symm
  by_cases hrs : (1048576 : Int) < wrap64 (r + r2)
  · go_wp2_with fail
    go_ret
    exact ⟨rfl, Below.refl _ _⟩
  go_wp2_with fail
  refine (clone11 a1 n1 c1 s1 _ hbig1 HR1.out).mono ?_
  rintro e w1 ⟨b1, d1, rfl, hrow1, hbel1⟩
  have HB2 : Hid (Row w1 a2 n2 fun i => .string (s2 i)) := HR2.out.later hbel1
  go_wp2_with fail
  refine (clone11 a2 n2 c2 s2 _ hbig2 HB2.out).mono ?_
  rintro e w2 ⟨b2, d2, rfl, hrow2, hbel2⟩
  have HR3 : Hid (Row w2 b1 n1 fun i => .string (s1 i)) := hrow1.later hbel2
  have HR4 : Hid (Row w2 b2 n2 fun i => .string (s2 i)) := hrow2
  have hbelA : Below w.heap.size w w2 := hbel1.trans (hbel2.mono hbel1.size)
  clear hrow1 hrow2 HB2 HR1 HR2 hbel1 hbel2
  go_wp2_with fail
  refine (fields20 b1 n1 d1 s1 _ hbig1 HR3.out).mono ?_
  rintro e w3 ⟨pa, rfl, hownA, hlenA, hflA, hbel3⟩
  have HLA : Hid (pa.length = n1) := hlenA
  have HR5 : Hid (Row w3 b2 n2 fun i => .string (s2 i)) := HR4.out.later hbel3
  clear HR3 HR4 hlenA
  go_wp2_with fail
  refine (fields20 b2 n2 d2 s2 _ hbig2 HR5.out).mono ?_
  rintro e w4 ⟨pb, rfl, hownB, hlenB, hflB, hbel4⟩
  have HLB : Hid (pb.length = n2) := hlenB
  have htwo := two_mk hbelA hbel3 hbel4 hownA hownB hflA hflB
  clear HR5 hlenB hbelA hbel3 hbel4 hownA hownB hflA hflB
  obtain ⟨i0, hi, hz0, hz1, hz2⟩ := info_parts info43
  go_wp2_with (at_make; refine wpList_make_one _ rfl _ _ 34 rfl 43 i0 (.pointer none) 8 Try.underlying34 hi hz0 hz1 hz2 rfl _ _ _ _ (n1 + n2) rfl rfl (by omega) (by omega) (by omega) (by omega) ?_; intro w5 hown5 hbel5 hsz5)
  clear hi hz0 hz1 hz2
  have hgc := htwo.bel.size
  have hga := htwo.owna.lt
  have hgb := htwo.ownb.lt
  have HRA : Hid (Row w4 (some ⟨w2.heap.size, 0, none⟩) n1 fun i => ptr (pa.getD i 0)) := htwo.owna.row _ _ fun i hi => by simp [HLA.out, hi]
  have HRB : Hid (Row w4 (some ⟨w3.heap.size, 0, none⟩) n2 fun i => ptr (pb.getD i 0)) := htwo.ownb.row _ _ fun i hi => by simp [HLB.out, hi]
  have hbelw4 := htwo.bel
  have HT : Hid (∀ p, p ∈ pa ++ pb → w4.cell? ⟨p, 1, none⟩ = some (.string (typ w4 p))) := htwo.typs
  have HCA : Hid (∀ i, i < n1 → w4.cell? ⟨w2.heap.size, i, none⟩ = some (ptr ((pa ++ pb).getD i 0))) := fun i hi => by
    rw [getD_left _ _ _ (HLA.out ▸ hi), htwo.owna.cell i]; simp [HLA.out, hi]
  have HCB : Hid (∀ i, i < n2 → w4.cell? ⟨w3.heap.size, i, none⟩ = some (ptr ((pa ++ pb).getD (n1 + i) 0))) := fun i hi => by
    rw [← HLA.out, getD_right, htwo.ownb.cell i]; simp [HLB.out, hi]
  clear htwo
  generalize hgcx : w4.heap.size = gc at *
  generalize w2.heap.size = ga at *
  generalize w3.heap.size = gb at *
  have HGC : Hid (w4.heap.size = gc) := hgcx
  clear hgcx
  generalize typ w4 = T at *
  go_loopw [8] (fun i wr => ∃ k : Nat, k ≤ n1 ∧ i = .int .i64 k ∧ ∃ cs, Own wr gc 43 cs ∧ cs.length = n1 + n2 ∧ (∀ i, i < k → cs[i]? = some (ptr ((pa ++ pb).getD i 0))) ∧ Below gc w4 wr) (fun i _ => n1 - (intOf i).toNat)
  case atStart => exact ⟨0, Nat.zero_le _, rfl, _, hown5, by simp, fun i hi => by omega, hbel5⟩
  case round =>
    obtain ⟨k, hk, rfl, cs, hown, hlen, hcs, hbel⟩ := hrel
    clear hown5 hbel5 hsz5
    by_cases hlt : k < n1
    · have hcx : wr.cell? ⟨ga, k, none⟩ = some (.pointer (some ⟨(pa ++ pb).getD k 0, 0, none⟩)) := (hbel.cell (p := ⟨ga, k, none⟩) hga).trans (HCA.out k hlt)
      obtain ⟨v0, hcg⟩ := hown.some_cell hlen (k := k) (by omega)
      have hfg := hown.frozen k
      have HST : Hid (∀ i, i < k + 1 → (cs.set k (ptr ((pa ++ pb).getD k 0)))[i]? = some (ptr ((pa ++ pb).getD i 0))) := get_set_step (f := fun i => ptr ((pa ++ pb).getD i 0)) hlen (by omega) hcs
      have HLN : Hid (cs.length = n1 + n2) := hlen
      have hin : (k : Int) < (n1 : Int) + (n2 : Int) := by omega
      clear hcs hlen
      generalize (pa ++ pb).getD k 0 = p at *
      go_wp2
      go_roundw
      case rel => exact ⟨k + 1, by omega, by go_num, _, hown.set k _, by simpa using HLN.out, HST.out, hbel.setCell (Nat.le_refl _) _⟩
      case measure => simp [intOf]; omega
    · have hkn : k = n1 := by omega
      subst hkn
      have HX : Hid (cs.length = k + n2 ∧ ∀ i, i < k + 0 → cs[i]? = some (ptr ((pa ++ pb).getD i 0))) := ⟨hlen, hcs⟩
      clear hlen hcs
      go_wp2
      go_loopw [9] (fun i wr => ∃ j : Nat, j ≤ n2 ∧ i = .int .i64 j ∧ ∃ cs, Own wr gc 43 cs ∧ cs.length = k + n2 ∧ (∀ i, i < k + j → cs[i]? = some (ptr ((pa ++ pb).getD i 0))) ∧ Below gc w4 wr) (fun i _ => n2 - (intOf i).toNat)
      case atStart => exact ⟨0, Nat.zero_le _, rfl, _, hown, HX.out.1, HX.out.2, hbel⟩
      case round =>
        clear hown hbel HX
        obtain ⟨j, hj, rfl, cs, hown, hlen, hcs, hbel⟩ := hrel
        by_cases hlt : j < n2
        · have hcx : wr.cell? ⟨gb, j, none⟩ = some (.pointer (some ⟨(pa ++ pb).getD (k + j) 0, 0, none⟩)) := (hbel.cell (p := ⟨gb, j, none⟩) hgb).trans (HCB.out j hlt)
          obtain ⟨v0, hcg⟩ := hown.some_cell hlen (k := k + j) (by omega)
          have hfg := hown.frozen (k + j)
          have HST : Hid (∀ i, i < k + j + 1 → (cs.set (k + j) (ptr ((pa ++ pb).getD (k + j) 0)))[i]? = some (ptr ((pa ++ pb).getD i 0))) := get_set_step (f := fun i => ptr ((pa ++ pb).getD i 0)) hlen (by omega) hcs
          have HLN : Hid (cs.length = k + n2) := hlen
          have hin : (k : Int) + (j : Int) < (k : Int) + (n2 : Int) := by omega
          clear hcs hlen
          generalize (pa ++ pb).getD (k + j) 0 = p at *
          go_wp2
          go_roundw
          case rel => exact ⟨j + 1, by omega, by go_num, _, hown.set _ _, by simpa using HLN.out, HST.out, hbel.setCell (Nat.le_refl _) _⟩
          case measure => simp [intOf]; omega
        · have hjn : j = n2 := by omega
          subst hjn
          have HRC : Hid (Row wr (some ⟨gc, 0, none⟩) (k + j) fun i => ptr ((pa ++ pb).getD i 0)) := hown.row _ _ hcs
          clear hown hlen hcs HCA HCB
          go_wp2_with fail
          have hbx := fun x y z : List Value => box3 wr x y z _ rfl
          have hsz6 : gc ≤ wr.heap.size := HGC.out ▸ hbel.size
          have HT6 : Hid (∀ p, p ∈ pa ++ pb → wr.cell? ⟨p, 1, none⟩ = some (.string (T p))) := fun p hp =>
            (hbel.cell (p := ⟨p, 1, none⟩) (HGC.out ▸ World.block_lt_of_cell? w4 _ (HT.out p hp))).trans (HT.out p hp)
          have HRA6 : Hid (Row wr (some ⟨ga, 0, none⟩) k fun i => ptr (pa.getD i 0)) := HRA.out.later (HGC.out ▸ hbel)
          have HRB6 : Hid (Row wr (some ⟨gb, 0, none⟩) j fun i => ptr (pb.getD i 0)) := HRB.out.later (HGC.out ▸ hbel)
          have hbel6 : Below w.heap.size w wr := hbelw4.trans (hbel.mono hgc)
          clear HT HRA HRB hbelw4 hbel HGC hgc hga hgb hsz6
          refine (links21 wr.heap.size (some ⟨ga, 0, none⟩) k k pa T _ HLA.out (by omega) (by exact (hbx _ _ _).1) (by exact HRA6.out.later (hbx _ _ _).2.2.2.1)
            (by exact fun p hp => ((hbx _ _ _).2.2.2.1.cell (p := ⟨p, 1, none⟩) (World.block_lt_of_cell? wr _ (HT6.out p (List.mem_append_left _ hp)))).trans (HT6.out p (List.mem_append_left _ hp)))).mono ?_
          rintro e w8 ⟨a8, c8, rfl, hrow8, hbel8⟩
          have h68 : Below wr.heap.size wr w8 := (hbx _ _ _).2.2.2.1.trans (hbel8.mono (hbx _ _ _).2.2.2.1.size)
          have hq2 : w8.cell? ⟨wr.heap.size + 1, 3, none⟩ = some (.slice (some ⟨gb, 0, none⟩) j j) := (hbel8.cell (p := ⟨wr.heap.size + 1, 3, none⟩) (by simp)).trans (hbx _ _ _).2.1
          have hq3 : w8.cell? ⟨wr.heap.size + 2, 3, none⟩ = some (.slice (some ⟨gc, 0, none⟩) (k + j) (k + j)) := (hbel8.cell (p := ⟨wr.heap.size + 2, 3, none⟩) (by simp)).trans (hbx _ _ _).2.2.1
          clear hbx hbel8
          go_wp2_with fail
          refine (links21 (wr.heap.size + 1) (some ⟨gb, 0, none⟩) j j pb T _ HLB.out (by omega) hq2 (by exact HRB6.out.later h68)
            (by exact fun p hp => (h68.cell (p := ⟨p, 1, none⟩) (World.block_lt_of_cell? wr _ (HT6.out p (List.mem_append_right _ hp)))).trans (HT6.out p (List.mem_append_right _ hp)))).mono ?_
          rintro e w9 ⟨a9, c9, rfl, hrow9, hbel9⟩
          have h69 : Below wr.heap.size wr w9 := h68.trans (hbel9.mono h68.size)
          have hq3' : w9.cell? ⟨wr.heap.size + 2, 3, none⟩ = some (.slice (some ⟨gc, 0, none⟩) (k + j) (k + j)) := (hbel9.cell (p := ⟨wr.heap.size + 2, 3, none⟩) (World.block_lt_of_cell? w8 _ hq3)).trans hq3
          have hrow8' := hrow8.later hbel9
          clear hrow8 hq2 hq3 hbel9 h68
          go_wp2_with fail
          refine (links21 (wr.heap.size + 2) (some ⟨gc, 0, none⟩) (k + j) (k + j) (pa ++ pb) T _ (by rw [List.length_append, HLA.out, HLB.out]) (by omega) hq3' (by exact HRC.out.later h69)
            (by exact fun p hp => (h69.cell (p := ⟨p, 1, none⟩) (World.block_lt_of_cell? wr _ (HT6.out p hp))).trans (HT6.out p hp))).mono ?_
          rw [filter_both]
          rintro e w10 ⟨a10, c10, rfl, hrow10, hbel10⟩
          have hX := hrow8'.later hbel10
          have hY := hrow9.later hbel10
          have hbelZ : Below w.heap.size w w10 := (hbel6.trans (h69.mono hbel6.size)).trans (hbel10.mono (Nat.le_trans hbel6.size h69.size))
          have hleA : (pa.filter (isLink T)).length ≤ k := HLA.out ▸ List.length_filter_le _ _
          have hleB : (pb.filter (isLink T)).length ≤ j := HLB.out ▸ List.length_filter_le _ _
          clear hrow8' hrow9 hbel10 hq3' h69 hbel6 HRC HRA6 HRB6 HT6 HLA HLB
          generalize pa.filter (isLink T) = A at *
          generalize pb.filter (isLink T) = B at *
          have HX : Hid (Row w10 a8 A.length fun i => ptr ((A ++ B).getD i 0)) := hX.left
          have HY : Hid (Row w10 a9 B.length fun i => ptr ((A ++ B).getD (A.length + i) 0)) := hY.right
          rw [List.length_append] at hrow10 ⊢
          have HZ : Hid (Row w10 a10 (A.length + B.length) fun i => ptr ((A ++ B).getD i 0)) := hrow10
          clear hX hY hrow10
          generalize A ++ B = C at *
          generalize A.length = x at *
          generalize B.length = y at *
          have hne : ((x : Int) + (y : Int) != (x : Int) + (y : Int)) = false := by simp
          go_wp2
          go_loopw [16] (fun i wq => ∃ t : Nat, t ≤ x ∧ i = .int .i64 t ∧ ∃ d : Nat, wq = w10.drewN d) (fun i _ => x - (intOf i).toNat)
          case atStart => exact ⟨0, Nat.zero_le _, rfl, 0, rfl⟩
          case round =>
            obtain ⟨t, ht, rfl, d, rfl⟩ := hrel
            by_cases hlt3 : t < x
            · rcases HX.out with h | ⟨bx, ox, rfl, hcX⟩
              · omega
              rcases HZ.out with h | ⟨bz, oz, rfl, hcZ⟩
              · omega
              have hc3 : w10.cell? ⟨bx, ox + t, none⟩ = some (.pointer (some ⟨C.getD t 0, 0, none⟩)) := hcX t hlt3
              have hc4 : w10.cell? ⟨bz, oz + t, none⟩ = some (.pointer (some ⟨C.getD t 0, 0, none⟩)) := hcZ t (by omega)
              have hlt' : (t : Int) < (x : Int) := by omega
              have hlt'' : (t : Int) < (x : Int) + (y : Int) := by omega
              clear hcX hcZ HX HY HZ
              generalize C.getD t 0 = p at *
              have hnp := neq_same ⟨p, 0, none⟩
              go_wp2
              go_quiet (fail)
              go_wp2
              go_roundw
              case rel => exact ⟨t + 1, by omega, by go_num, _, rfl⟩
              case measure => simp [intOf]; omega
            · go_wp2
              go_loopw [17] (fun i wq => ∃ s : Nat, s ≤ y ∧ i = .int .i64 s ∧ ∃ d : Nat, wq = w10.drewN d) (fun i _ => y - (intOf i).toNat)
              case atStart => exact ⟨0, Nat.zero_le _, rfl, d, rfl⟩
              case round =>
                obtain ⟨s, hs, rfl, d2, rfl⟩ := hrel
                by_cases hlt4 : s < y
                · rcases HY.out with h | ⟨bx, ox, rfl, hcX⟩
                  · omega
                  rcases HZ.out with h | ⟨bz, oz, rfl, hcZ⟩
                  · omega
                  have hc3 : w10.cell? ⟨bx, ox + s, none⟩ = some (.pointer (some ⟨C.getD (x + s) 0, 0, none⟩)) := hcX s hlt4
                  have hc4 : w10.cell? ⟨bz, oz + (x + s), none⟩ = some (.pointer (some ⟨C.getD (x + s) 0, 0, none⟩)) := hcZ (x + s) (by omega)
                  have hlt' : (s : Int) < (y : Int) := by omega
                  have hlt'' : (x : Int) + (s : Int) < (x : Int) + (y : Int) := by omega
                  clear hcX hcZ HX HY HZ
                  generalize C.getD (x + s) 0 = p at *
                  have hnp := neq_same ⟨p, 0, none⟩
                  go_wp2
                  go_quiet (fail)
                  go_wp2
                  go_roundw
                  case rel => exact ⟨s + 1, by omega, by go_num, _, rfl⟩
                  case measure => simp [intOf]; omega
                · go_wp2
                  go_ret
                  exact ⟨rfl, below_drewN hbelZ _⟩
end Go.Proofs.Qxb6000875a
