/-
  Seat b6602119a: FnPlaceColumnsCoversEachColumnOnce returns true.
-/
import Derived.Test.Qxb6602119aPlace
namespace Go.Proofs.Qxb6602119a
open Go.RowKit

set_option maxHeartbeats 400000 in
/-- ZZplaceColumns hands on what placeColumns says. -/
theorem zz9 (a1 a2 a3 : Option Addr) (g c1 h c2 o c3 : Nat) (sg sh so : Nat → ByteArray) (w : World) (hg : g ≤ 4096) (hh : h ≤ 4096) (ho : o ≤ 4096) (hc1 : g ≤ c1)
    (hr1 : Row w a1 g fun i => .string (sg i)) (hr2 : Row w a2 h fun i => .string (sh i)) (hr3 : Row w a3 o fun i => .string (so i)) :
    Calls Try.prog 9 #[.slice a1 g c1, .slice a2 h c2, .slice a3 o c3] w fun e w' => Placed w.heap.size (if h ≤ g ∧ allSame h sg sh = true then pl h o sg so (g - h) else none) e w' ∧ Below w.heap.size w w' := by
  have HR1 : Hid (Row w a1 g fun i => .string (sg i)) := hr1
  have HR2 : Hid (Row w a2 h fun i => .string (sh i)) := hr2
  have HR3 : Hid (Row w a3 o fun i => .string (so i)) := hr3
  clear hr1 hr2 hr3
  generalize hr : (if h ≤ g ∧ allSame h sg sh = true then pl h o sg so (g - h) else none) = r
  have HRR : Hid ((if h ≤ g ∧ allSame h sg sh = true then pl h o sg so (g - h) else none) = r) := hr
  clear hr
  go_enter Try.func9, Try.ntmps9
  go_wp2_with fail
  refine (place15 a1 a2 a3 g c1 h c2 o c3 sg sh so _ hg hh ho hc1 HR1.out HR2.out HR3.out).mono ?_
  rw [HRR.out]
  rintro e w1 ⟨hpl, hbel⟩
  cases r with
  | none =>
    obtain rfl : e = .returned (.tuple #[.slice none 0 0, .bool false]) := hpl
    go_wp2_with fail
    go_ret2
    exact ⟨rfl, hbel⟩
  | some W =>
    obtain ⟨v, rfl, hir⟩ := hpl
    have HIR : Hid (IntRow w.heap.size w1 v W) := hir
    clear hir
    go_wp2_with fail
    go_ret2
    exact ⟨⟨v, rfl, HIR.out⟩, hbel⟩

/-- The row of slots, read. -/
theorem IntRow.row {B : Nat} {w : World} {v : Value} {W : List Int} (h : IntRow B w v W) : ∃ a c, v = .slice a W.length c ∧ Row w a W.length fun k => .int .i64 (W.getD k 0) := by
  obtain ⟨g, cap, rfl, ho⟩ := h
  refine ⟨_, _, rfl, .inr ⟨g, 0, rfl, fun i hi => ?_⟩⟩
  rw [Nat.zero_add, ho.cellAt i (by omega)]
  simp [hi]

theorem take_count (W : List Int) (k : Nat) (hk : k < W.length) (p : Int) : (W.take (k + 1)).count p = (W.take k).count p + if W.getD k 0 = p then 1 else 0 := by
  rw [List.take_succ_eq_append_getElem hk, List.count_append]
  have e : W.getD k 0 = W[k] := by simp [hk]
  rw [e]
  simp [List.count_cons]

/-- The counts behind k slots. -/
def Counts (W : List Int) (g k : Nat) (cs : List Value) : Prop := cs.length = g ∧ ∀ p, p < g → cs[p]? = some (.int .i64 ((W.take k).count (p : Int) : Nat))

theorem counts_start (W : List Int) (g : Nat) : Counts W g 0 (List.replicate g (.int .i64 0)) := by
  refine ⟨by simp, fun p hp => ?_⟩
  simp [hp]
theorem counts_skip {W : List Int} {g k : Nat} {cs : List Value} (h : Counts W g k cs) (hk : k < W.length) (hneg : W.getD k 0 = -1) : Counts W g (k + 1) cs := by
  refine ⟨h.1, fun p hp => ?_⟩
  rw [take_count W k hk, hneg, if_neg (by omega)]
  exact h.2 p hp
theorem counts_hit {W : List Int} {g k q : Nat} {cs : List Value} (h : Counts W g k cs) (hk : k < W.length) (hq : W.getD k 0 = (q : Int)) :
    Counts W g (k + 1) (cs.set q (.int .i64 (((W.take k).count (q : Int) : Nat) + 1))) := by
  refine ⟨by simpa using h.1, fun p hp => ?_⟩
  rw [take_count W k hk, hq, List.getElem?_set]
  by_cases e : q = p
  · subst e
    rw [if_pos rfl, if_pos (by rw [h.1]; exact hp), if_pos rfl]
    rfl
  · rw [if_neg e, if_neg (by omega)]
    exact h.2 p hp

theorem cell_beside (w : World) {g b : Nat} (h : b < g) (o p : Nat) (v u : Value) (hc : w.cell? ⟨b, p, none⟩ = some u) : (w.setCell ⟨g, o, none⟩ v).cell? ⟨b, p, none⟩ = some u :=
  (World.cell?_of_block (w := w) (a := ⟨b, p, none⟩) (Below.heap_setCell _ _ _ _ (by show b ≠ g; omega))).trans hc

theorem Row.at {w : World} {a : Option Addr} {n : Nat} {f : Nat → Value} (h : Row w a n f) {k : Nat} (hk : k < n) : ∃ b off, a = some ⟨b, off, none⟩ ∧ b < w.heap.size ∧ w.cell? ⟨b, off + k, none⟩ = some (f k) := by
  rcases h with h | ⟨b, off, ha, hc⟩
  · omega
  · exact ⟨b, off, ha, World.block_lt_of_cell? w _ (hc k hk), hc k hk⟩

set_option maxHeartbeats 2000000 in
set_option maxRecDepth 100000 in
theorem law4 (a1 a2 a3 : Option Addr) (g c1 h c2 o c3 : Nat) (sg sh so : Nat → ByteArray) (w : World) (hn1 : g ≤ 9223372036854775807) (hn2 : h ≤ 9223372036854775807) (hn3 : o ≤ 9223372036854775807)
    (hs1 : ∀ i, (sg i).size ≤ 9223372036854775807) (hs2 : ∀ i, (sh i).size ≤ 9223372036854775807) (hs3 : ∀ i, (so i).size ≤ 9223372036854775807)
    (hr1 : Row w a1 g fun i => .string (sg i)) (hr2 : Row w a2 h fun i => .string (sh i)) (hr3 : Row w a3 o fun i => .string (so i)) :
    Calls Try.prog 4 #[.slice a1 g c1, .slice a2 h c2, .slice a3 o c3] w fun e w' => e = .returned (.bool true) ∧ Below w.heap.size w w' := by
  have HR1 : Hid (Row w a1 g fun i => .string (sg i)) := hr1
  have HR2 : Hid (Row w a2 h fun i => .string (sh i)) := hr2
  have HR3 : Hid (Row w a3 o fun i => .string (so i)) := hr3
  have HS1 : Hid (∀ i, (sg i).size ≤ 9223372036854775807) := hs1
  have HS2 : Hid (∀ i, (sh i).size ≤ 9223372036854775807) := hs2
  have HS3 : Hid (∀ i, (so i).size ≤ 9223372036854775807) := hs3
  clear hr1 hr2 hr3 hs1 hs2 hs3
  go_enter Try.func4, Try.ntmps4
  go_wp2_with fail
  refine (bytes12 a1 a2 a3 g c1 h c2 o c3 sg sh so _ hn1 hn2 hn3 HS1.out HS2.out HS3.out HR1.out HR2.out HR3.out).mono ?_
  rintro e w' ⟨⟨r, rfl⟩, hw⟩
  obtain rfl : w = w' := hw.symm
  clear hw
  cases r with
  | false =>
    go_wp2_with fail
    go_ret
    exact ⟨rfl, Below.refl _ _⟩
  | true =>
  go_wp2_with fail
  refine (small7 a1 a2 a3 g c1 h c2 o c3 sg sh so _ hn1 hn2 hn3 HS1.out HS2.out HS3.out HR1.out HR2.out HR3.out).mono ?_
  rintro e w' ⟨⟨r, rfl, hsm⟩, hw⟩
  obtain rfl : w = w' := hw.symm
  clear hw
  cases r with
  | false =>
    go_wp2_with fail
    go_ret
    exact ⟨rfl, Below.refl _ _⟩
  | true =>
  obtain ⟨hg, hh, ho⟩ := hsm rfl
  clear hsm HS1 HS2 HS3 hn1 hn2 hn3
  go_wp2_with fail
  refine (clone8 a1 g c1 sg _ (by omega) HR1.out).mono ?_
  rintro e w1 ⟨b1, d1, rfl, hd1, hrow1, hbel1⟩
  have HQ2 : Hid (Row w1 a2 h fun i => .string (sh i)) := HR2.out.later hbel1
  have HQ3 : Hid (Row w1 a3 o fun i => .string (so i)) := HR3.out.later hbel1
  have HQ1 : Hid (Row w1 b1 g fun i => .string (sg i)) := hrow1
  clear HR1 HR2 HR3 hrow1
  go_wp2_with fail
  refine (clone8 a2 h c2 sh _ (by omega) HQ2.out).mono ?_
  rintro e w2 ⟨b2, d2, rfl, hd2, hrow2, hbel2⟩
  have HP1 : Hid (Row w2 b1 g fun i => .string (sg i)) := HQ1.out.later hbel2
  have HP3 : Hid (Row w2 a3 o fun i => .string (so i)) := HQ3.out.later hbel2
  have HP2 : Hid (Row w2 b2 h fun i => .string (sh i)) := hrow2
  have hbelA : Below w.heap.size w w2 := hbel1.trans (hbel2.mono hbel1.size)
  clear HQ1 HQ2 HQ3 hrow2 hbel1 hbel2
  go_wp2_with fail
  refine (clone8 a3 o c3 so _ (by omega) HP3.out).mono ?_
  rintro e w3 ⟨b3, d3, rfl, hd3, hrow3, hbel3⟩
  have HR1 : Hid (Row w3 b1 g fun i => .string (sg i)) := HP1.out.later hbel3
  have HR2 : Hid (Row w3 b2 h fun i => .string (sh i)) := HP2.out.later hbel3
  have HR3 : Hid (Row w3 b3 o fun i => .string (so i)) := hrow3
  have hbelB : Below w.heap.size w w3 := hbelA.trans (hbel3.mono hbelA.size)
  clear HP1 HP2 HP3 hrow3 hbelA hbel3
  go_wp2_with fail
  refine (zz9 b1 b2 b3 g d1 h d2 o d3 sg sh so _ hg hh ho hd1 HR1.out HR2.out HR3.out).mono ?_
  by_cases hacc : h ≤ g ∧ allSame h sg sh = true
  rotate_left
  · rw [if_neg hacc]
    rintro e w4 ⟨he, hbel4⟩
    obtain rfl : e = .returned (.tuple #[.slice none 0 0, .bool false]) := he
    clear hacc
    go_wp2_with fail
    go_ret
    exact ⟨rfl, hbelB.trans (hbel4.mono hbelB.size)⟩
  rw [if_pos hacc]
  obtain ⟨hhg, hall⟩ := hacc
  have HALL : Hid (∀ j, j < h → same (sg j) (sh j) = true) := allSame_of hall
  clear hall
  cases hpl : pl h o sg so (g - h) with
  | none =>
    rintro e w4 ⟨he, hbel4⟩
    obtain rfl : e = .returned (.tuple #[.slice none 0 0, .bool false]) := he
    clear hpl
    go_wp2_with fail
    go_ret
    exact ⟨rfl, hbelB.trans (hbel4.mono hbelB.size)⟩
  | some W =>
  rintro e w4 ⟨⟨v, rfl, hir⟩, hbel4⟩
  obtain ⟨aw, cw, rfl, hrw⟩ := hir.row
  have hgood := good_of hpl
  have hlen := hgood.len
  rw [hlen] at hrw ⊢
  have HGD : Hid (Good h o sg so (g - h) W) := hgood
  have HRW : Hid (Row w4 aw (h + o) fun k => .int .i64 (W.getD k 0)) := hrw
  have HQ1 : Hid (Row w4 b1 g fun i => .string (sg i)) := HR1.out.later hbel4
  have HQ2 : Hid (Row w4 b2 h fun i => .string (sh i)) := HR2.out.later hbel4
  have HQ3 : Hid (Row w4 b3 o fun i => .string (so i)) := HR3.out.later hbel4
  have hbelC : Below w.heap.size w w4 := hbelB.trans (hbel4.mono hbelB.size)
  clear hpl hir hgood hlen hrw HR1 HR2 HR3 hbelB hbel4 hd1 hd2 hd3
  have hne : ((h : Int) + (o : Int) != (h : Int) + (o : Int)) = false := by simp
  obtain ⟨i0, hi, hz0, hz1, hz2⟩ := info_parts info3
  go_wp2_with (at_make; refine wpList_make_one _ rfl _ _ 25 rfl 3 i0 (.int .i64 0) 8 Try.underlying25 hi hz0 hz1 hz2 rfl _ _ _ _ g rfl rfl rfl rfl (by omega) (by omega) ?_; intro w5 hown5 hbel5 hsz5)
  clear hi hz0 hz1 hz2
  go_loopw [11] (fun i wr => ∃ k : Nat, k ≤ h + o ∧ i = .int .i64 k ∧ ∃ cs, Own wr w4.heap.size 3 cs ∧ Counts W g k cs ∧ Below w4.heap.size w4 wr) (fun i _ => (h + o) - (intOf i).toNat)
  case atStart => exact ⟨0, Nat.zero_le _, rfl, _, hown5, counts_start W g, hbel5⟩
  case round =>
    clear hown5 hbel5 hsz5
    obtain ⟨k, hk, rfl, cs, hown, hcs, hbel⟩ := hrel
    have HCS : Hid (Counts W g k cs) := hcs
    clear hcs
    by_cases hlt : k < h + o
    · obtain ⟨bw, ow, rfl, hbw, hcw⟩ := HRW.out.at hlt
      have hcw' := (hbel.cell (p := ⟨bw, ow + k, none⟩) hbw).trans hcw
      have hkW : k < W.length := by rw [HGD.out.len]; exact hlt
      have hlt' : (k : Int) < (h : Int) + (o : Int) := by omega
      clear hcw
      by_cases hkh : k < h
      · -- a header's slot
        have hz := HGD.out.head k hkh
        have hcw2 : wr.cell? ⟨bw, ow + k, none⟩ = some (.int .i64 (k : Int)) := by rw [← hz]; exact hcw'
        clear hcw'
        have HC2 : Hid (Counts W g (k + 1) (cs.set k (.int .i64 (((W.take k).count (k : Int) : Nat) + 1)))) := counts_hit HCS.out hkW hz
        have hcc : wr.cell? ⟨w4.heap.size, k, none⟩ = some (.int .i64 ((W.take k).count (k : Int) : Nat)) := (hown.cell k).trans (HCS.out.2 k (by omega))
        have hcb : (W.take k).count (k : Int) ≤ 8192 := Nat.le_trans List.count_le_length (by simp; omega)
        generalize (W.take k).count (k : Int) = t at *
        have hfc := hown.frozen k
        obtain ⟨bh, oh, rfl, hbh, hch⟩ := HQ2.out.at hkh
        obtain ⟨bg, og, rfl, hbg, hcg⟩ := HQ1.out.at (show k < g by omega)
        have hch2 := fun v => cell_beside wr hbh k (oh + k) v _ ((hbel.cell (p := ⟨bh, oh + k, none⟩) hbh).trans hch)
        have hcg2 := fun v => cell_beside wr hbg k (og + k) v _ ((hbel.cell (p := ⟨bg, og + k, none⟩) hbg).trans hcg)
        have hsame : ((sg k).toList == (sh k).toList) = true := HALL.out k hkh
        have hsame2 : ((sg k).toList != (sh k).toList) = false := by rw [bne, hsame]; rfl
        have hm1 : ((k : Int) == -1) = false := by first | (simp; done) | (simp; omega)
        have hd0 : decide ((k : Int) < 0) = false := decide_eq_false (by omega)
        have hkg : (k : Int) < (g : Int) := by omega
        have hkh' : (k : Int) < (h : Int) := by omega
        clear hz hch hcg hbw hbh hbg
        go_wp2_with fail
        go_roundw
        case rel => exact ⟨k + 1, by omega, by go_num, _, hown.set _ _, HC2.out, hbel.setCell (Nat.le_refl _) _⟩
        case measure => simp [intOf]; omega
      · obtain ⟨j, rfl⟩ : ∃ j, k = h + j := ⟨k - h, by omega⟩
        have hjo : j < o := by omega
        have hkh' : ¬ ((h : Int) + (j : Int) < (h : Int)) := by omega
        rcases HGD.out.opt j hjo with hz | ⟨q, hz, hq1, hq2, hq3⟩
        · -- an optional slot that is not met
          have hcw2 : wr.cell? ⟨bw, ow + (h + j), none⟩ = some (.int .i64 (-1)) := by rw [← hz]; exact hcw'
          clear hcw'
          have HC2 : Hid (Counts W g (h + j + 1) cs) := counts_skip HCS.out hkW hz
          clear hz
          go_wp2_with fail
          go_roundw
          case rel => exact ⟨h + j + 1, by omega, by go_num, _, hown, HC2.out, hbel⟩
          case measure => simp [intOf]; omega
        · have hcw2 : wr.cell? ⟨bw, ow + (h + j), none⟩ = some (.int .i64 (q : Int)) := by rw [← hz]; exact hcw'
          clear hcw'
          have hqg : q < g := by omega
          have HC2 : Hid (Counts W g (h + j + 1) (cs.set q (.int .i64 (((W.take (h + j)).count (q : Int) : Nat) + 1)))) := counts_hit HCS.out hkW hz
          have hcc : wr.cell? ⟨w4.heap.size, q, none⟩ = some (.int .i64 ((W.take (h + j)).count (q : Int) : Nat)) := (hown.cell q).trans (HCS.out.2 q hqg)
          have hcb : (W.take (h + j)).count (q : Int) ≤ 8192 := Nat.le_trans List.count_le_length (by simp; omega)
          generalize (W.take (h + j)).count (q : Int) = t at *
          have hfc := hown.frozen q
          obtain ⟨bh, oh, rfl, hbh, hch⟩ := HQ3.out.at hjo
          obtain ⟨bg, og, rfl, hbg, hcg⟩ := HQ1.out.at hqg
          have hch2 := fun v => cell_beside wr hbh q (oh + j) v _ ((hbel.cell (p := ⟨bh, oh + j, none⟩) hbh).trans hch)
          have hcg2 := fun v => cell_beside wr hbg q (og + q) v _ ((hbel.cell (p := ⟨bg, og + q, none⟩) hbg).trans hcg)
          have hsame : ((sg q).toList == (so j).toList) = true := hq3
          have hsame2 : ((sg q).toList != (so j).toList) = false := by rw [bne, hsame]; rfl
          have hm1 : ((q : Int) == -1) = false := by first | (simp; done) | (simp; omega)
          have hd0 : decide ((q : Int) < 0) = false := decide_eq_false (by omega)
          have hqg' : (q : Int) < (g : Int) := by omega
          have hjo' : (j : Int) < (o : Int) := by omega
          clear hz hch hcg hq3 hbw hbh hbg
          go_wp2_with fail
          go_roundw
          case rel => exact ⟨h + j + 1, by omega, by go_num, _, hown.set _ _, HC2.out, hbel.setCell (Nat.le_refl _) _⟩
          case measure => simp [intOf]; omega
    · have hkn : k = h + o := by omega
      have HONE : Hid (∀ p, p < g → cs[p]? = some (.int .i64 1)) := fun p hp => by
        have h1 := HCS.out.2 p hp
        rw [hkn, List.take_of_length_le (by rw [HGD.out.len]; exact Nat.le_refl _), HGD.out.cnt p, if_pos (by omega)] at h1
        exact h1
      have hlt' : ¬ ((k : Int) < (h : Int) + (o : Int)) := by omega
      clear hkn
      have hbelD : Below w.heap.size w wr := hbelC.trans (hbel.mono hbelC.size)
      go_wp2_with fail
      go_loop [14] (fun i => ∃ p : Nat, p ≤ g ∧ i = .int .i64 p) (fun i => g - (intOf i).toNat)
      case atStart => exact ⟨0, Nat.zero_le _, rfl⟩
      case round =>
        obtain ⟨p, hp, rfl⟩ := hrel
        by_cases hpg : p < g
        · have hc1 : wr.cell? ⟨w4.heap.size, p, none⟩ = some (.int .i64 1) := (hown.cell p).trans (HONE.out p hpg)
          go_wp2_with fail
          go_round
          case rel => exact ⟨p + 1, by omega, by go_num⟩
          case measure => simp [intOf]; omega
        · go_wp2_with fail
          go_ret
          exact ⟨rfl, hbelD⟩
end Go.Proofs.Qxb6602119a
