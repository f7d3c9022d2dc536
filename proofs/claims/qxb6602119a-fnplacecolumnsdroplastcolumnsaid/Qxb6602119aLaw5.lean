/-
  Seat b6602119a: FnPlaceColumnsDropLastColumn returns true.
-/
import Derived.Test.Qxb6602119aLaw4
namespace Go.Proofs.Qxb6602119a
open Go.RowKit

/-- One column more: the slots before it, and which one it takes. -/
theorem pl_last {h o : Nat} {g s : Nat → ByteArray} {m : Nat} {W : List Int} (hpl : pl h o g s (m + 1) = some W) :
    ∃ (W' : List Int) (i : Nat), pl h o g s m = some W' ∧ i < o ∧ W'.getD (h + i) 0 = -1 ∧ W = W'.set (h + i) ((h + m : Nat) : Int) := by
  simp only [pl] at hpl
  split at hpl
  · cases hpl
  · rename_i W' hW'
    split at hpl
    · cases hpl
    · rename_i i hi
      split at hpl
      · cases hpl
      · rename_i hneg
        simp only [Option.some.injEq] at hpl
        refine ⟨W', i, hW', (idx_of hi).1, ?_, hpl.symm⟩
        rcases (good_of hW').opt i (idx_of hi).1 with h1 | ⟨p, h1, _⟩
        · exact h1
        · omega

/-- The slots with and without the last column, slot by slot. -/
theorem last_slots {h o : Nat} {g s : Nat → ByteArray} {m : Nat} {W W' : List Int} {i : Nat} (hW' : Good h o g s m W') (hi : i < o) (hold : W'.getD (h + i) 0 = -1) (hW : W = W'.set (h + i) ((h + m : Nat) : Int)) (k : Nat) (hk : k < h + o) :
    (W.getD k 0 = ((h + m : Nat) : Int) ∧ W'.getD k 0 = -1) ∨ (W.getD k 0 ≠ ((h + m : Nat) : Int) ∧ W'.getD k 0 = W.getD k 0) := by
  have hlt : h + i < W'.length := by rw [hW'.len]; omega
  have hset : W.getD k 0 = if h + i = k then ((h + m : Nat) : Int) else W'.getD k 0 := by
    rw [hW, List.getD_eq_getElem?_getD, List.getElem?_set]
    by_cases e : h + i = k
    · subst e; simp [hlt]
    · simp [e]
  by_cases e : h + i = k
  · subst e
    rw [if_pos rfl] at hset
    exact .inl ⟨hset, hold⟩
  · rw [if_neg e] at hset
    refine .inr ⟨?_, hset.symm⟩
    rw [hset]
    intro hc
    have hcnt := hW'.cnt (h + m)
    rw [if_neg (by omega)] at hcnt
    rw [List.count_eq_zero] at hcnt
    apply hcnt
    have hkl : k < W'.length := by rw [hW'.len]; exact hk
    have hm : W'.getD k 0 ∈ W' := by simp [hkl]
    rw [hc] at hm
    exact hm

set_option maxHeartbeats 2000000 in
set_option maxRecDepth 100000 in
theorem law5 (a1 a2 a3 : Option Addr) (g c1 h c2 o c3 : Nat) (sg sh so : Nat → ByteArray) (w : World) (hn1 : g ≤ 9223372036854775807) (hn2 : h ≤ 9223372036854775807) (hn3 : o ≤ 9223372036854775807)
    (hs1 : ∀ i, (sg i).size ≤ 9223372036854775807) (hs2 : ∀ i, (sh i).size ≤ 9223372036854775807) (hs3 : ∀ i, (so i).size ≤ 9223372036854775807)
    (hr1 : Row w a1 g fun i => .string (sg i)) (hr2 : Row w a2 h fun i => .string (sh i)) (hr3 : Row w a3 o fun i => .string (so i)) :
    Calls Try.prog 5 #[.slice a1 g c1, .slice a2 h c2, .slice a3 o c3] w fun e w' => e = .returned (.bool true) ∧ Below w.heap.size w w' := by
  have HR1 : Hid (Row w a1 g fun i => .string (sg i)) := hr1
  have HR2 : Hid (Row w a2 h fun i => .string (sh i)) := hr2
  have HR3 : Hid (Row w a3 o fun i => .string (so i)) := hr3
  have HS1 : Hid (∀ i, (sg i).size ≤ 9223372036854775807) := hs1
  have HS2 : Hid (∀ i, (sh i).size ≤ 9223372036854775807) := hs2
  have HS3 : Hid (∀ i, (so i).size ≤ 9223372036854775807) := hs3
  clear hr1 hr2 hr3 hs1 hs2 hs3
  go_enter Try.func5, Try.ntmps5
  go_wp2_with fail
  refine (bytes13 a1 a2 a3 g c1 h c2 o c3 sg sh so _ hn1 hn2 hn3 HS1.out HS2.out HS3.out HR1.out HR2.out HR3.out).mono ?_
  rintro e w' ⟨⟨r, rfl⟩, hw⟩
  obtain rfl : w = w' := hw.symm
  clear hw
  cases r with
  | false =>
    go_wp2_with fail
    go_ret
    exact ⟨rfl, Below.refl _ _⟩
  | true =>
  go_wp2_with fail
  refine (small7 a1 a2 a3 g c1 h c2 o c3 sg sh so _ hn1 hn2 hn3 HS1.out HS2.out HS3.out HR1.out HR2.out HR3.out).mono ?_
  rintro e w' ⟨⟨r, rfl, hsm⟩, hw⟩
  obtain rfl : w = w' := hw.symm
  clear hw
  cases r with
  | false =>
    go_wp2_with fail
    go_ret
    exact ⟨rfl, Below.refl _ _⟩
  | true =>
  obtain ⟨hg, hh, ho⟩ := hsm rfl
  clear hsm HS1 HS2 HS3 hn1 hn2 hn3
  go_wp2_with fail
  refine (clone8 a1 g c1 sg _ (by omega) HR1.out).mono ?_
  rintro e w1 ⟨b1, d1, rfl, hd1, hrow1, hbel1⟩
  have HQ2 : Hid (Row w1 a2 h fun i => .string (sh i)) := HR2.out.later hbel1
  have HQ3 : Hid (Row w1 a3 o fun i => .string (so i)) := HR3.out.later hbel1
  have HQ1 : Hid (Row w1 b1 g fun i => .string (sg i)) := hrow1
  clear HR1 HR2 HR3 hrow1
  go_wp2_with fail
  refine (clone8 a2 h c2 sh _ (by omega) HQ2.out).mono ?_
  rintro e w2 ⟨b2, d2, rfl, hd2, hrow2, hbel2⟩
  have HP1 : Hid (Row w2 b1 g fun i => .string (sg i)) := HQ1.out.later hbel2
  have HP3 : Hid (Row w2 a3 o fun i => .string (so i)) := HQ3.out.later hbel2
  have HP2 : Hid (Row w2 b2 h fun i => .string (sh i)) := hrow2
  have hbelA : Below w.heap.size w w2 := hbel1.trans (hbel2.mono hbel1.size)
  clear HQ1 HQ2 HQ3 hrow2 hbel1 hbel2
  go_wp2_with fail
  refine (clone8 a3 o c3 so _ (by omega) HP3.out).mono ?_
  rintro e w3 ⟨b3, d3, rfl, hd3, hrow3, hbel3⟩
  have HR1 : Hid (Row w3 b1 g fun i => .string (sg i)) := HP1.out.later hbel3
  have HR2 : Hid (Row w3 b2 h fun i => .string (sh i)) := HP2.out.later hbel3
  have HR3 : Hid (Row w3 b3 o fun i => .string (so i)) := hrow3
  have hbelB : Below w.heap.size w w3 := hbelA.trans (hbel3.mono hbelA.size)
  clear HP1 HP2 HP3 hrow3 hbelA hbel3
  go_wp2_with fail
  refine (zz9 b1 b2 b3 g d1 h d2 o d3 sg sh so _ hg hh ho hd1 HR1.out HR2.out HR3.out).mono ?_
  by_cases hacc : h ≤ g ∧ allSame h sg sh = true
  rotate_left
  · rw [if_neg hacc]
    rintro e w4 ⟨he, hbel4⟩
    obtain rfl : e = .returned (.tuple #[.slice none 0 0, .bool false]) := he
    clear hacc
    go_wp2_with fail
    go_ret
    exact ⟨rfl, hbelB.trans (hbel4.mono hbelB.size)⟩
  rw [if_pos hacc]
  obtain ⟨hhg, hall⟩ := hacc
  have HALL : Hid (∀ j, j < h → same (sg j) (sh j) = true) := allSame_of hall
  clear hall
  cases hpl : pl h o sg so (g - h) with
  | none =>
    rintro e w4 ⟨he, hbel4⟩
    obtain rfl : e = .returned (.tuple #[.slice none 0 0, .bool false]) := he
    clear hpl
    go_wp2_with fail
    go_ret
    exact ⟨rfl, hbelB.trans (hbel4.mono hbelB.size)⟩
  | some W =>
  rintro e w4 ⟨⟨v, rfl, hir⟩, hbel4⟩
  obtain ⟨aw, cw, rfl, hrw⟩ := hir.row
  have hgood := good_of hpl
  have hlen := hgood.len
  rw [hlen] at hrw ⊢
  have HRW : Hid (Row w4 aw (h + o) fun k => .int .i64 (W.getD k 0)) := hrw
  have HQ1 : Hid (Row w4 b1 g fun i => .string (sg i)) := HR1.out.later hbel4
  have HQ2 : Hid (Row w4 b2 h fun i => .string (sh i)) := HR2.out.later hbel4
  have HQ3 : Hid (Row w4 b3 o fun i => .string (so i)) := HR3.out.later hbel4
  have hbelC : Below w.heap.size w w4 := hbelB.trans (hbel4.mono hbelB.size)
  have HPL : Hid (pl h o sg so (g - h) = some W) := hpl
  clear hpl hir hgood hlen hrw HR1 HR2 HR3 hbelB hbel4 hd2 hd3
  by_cases hgt : h < g
  rotate_left
  · have hle : (g : Int) ≤ (h : Int) := by omega
    go_wp2_with fail
    go_ret
    exact ⟨rfl, hbelC⟩
  obtain ⟨m, hm⟩ : ∃ m, g = h + m + 1 := ⟨g - h - 1, by omega⟩
  subst hm
  have e1 : h + m + 1 - h = m + 1 := by omega
  obtain ⟨W', i, hpl', hio, hold, hset⟩ := pl_last (e1 ▸ HPL.out)
  have hgd' := good_of hpl'
  have HSL : Hid (∀ k, k < h + o → (W.getD k 0 = ((h + m : Nat) : Int) ∧ W'.getD k 0 = -1) ∨ (W.getD k 0 ≠ ((h + m : Nat) : Int) ∧ W'.getD k 0 = W.getD k 0)) := last_slots hgd' hio hold hset
  have HL' : Hid (W'.length = h + o) := hgd'.len
  have HPL' : Hid (pl h o sg so (h + m - h) = some W') := by
    have e2 : h + m - h = m := by omega
    show pl h o sg so (h + m - h) = some W'
    rw [e2]; exact hpl'
  clear hset hold hio hpl' hgd' e1 HPL
  obtain ⟨asl, hsl, hrs⟩ := slice_head w4 b1 (h + m + 1) d1 (h + m) _ (by omega) hd1 HQ1.out
  have HRS : Hid (Row w4 asl (h + m) fun i => .string (sg i)) := hrs
  clear hrs
  have hsl2 : ∀ W : World, (Instr.slice 22 (.slice b1 (h + m + 1) d1) none (some (.int .i64 ((h : Int) + (m : Int)))) none).run Try.prog W = .ok (.slice asl (h + m) d1) W := by
    have e3 : (h : Int) + (m : Int) = ((h + m : Nat) : Int) := by omega
    rw [e3]; exact hsl
  have hgt' : ¬ ((h : Int) + (m : Int) + 1 ≤ (h : Int)) := by omega
  clear hsl
  go_wp2_with fail
  have HALL2 : Hid (allSame h sg sh = true) := allSame_yes HALL.out
  refine (zz9 asl b2 b3 (h + m) d1 h d2 o d3 sg sh so _ (by omega) hh ho (by omega) HRS.out HQ2.out HQ3.out).mono ?_
  rw [if_pos ⟨by omega, HALL2.out⟩, HPL'.out]
  rintro e w5 ⟨⟨v, rfl, hir⟩, hbel5⟩
  obtain ⟨av, cv, rfl, hrv⟩ := hir.row
  rw [HL'.out] at hrv ⊢
  have HRV : Hid (Row w5 av (h + o) fun k => .int .i64 (W'.getD k 0)) := hrv
  have HRW5 : Hid (Row w5 aw (h + o) fun k => .int .i64 (W.getD k 0)) := HRW.out.later hbel5
  have hbelD : Below w.heap.size w w5 := hbelC.trans (hbel5.mono hbelC.size)
  have hne : ((h : Int) + (o : Int) != (h : Int) + (o : Int)) = false := by simp
  clear hir hrv HRW HRS HALL HALL2 HPL' HL' HQ1 HQ2 HQ3 hbelC hbel5 hsl2 hd1
  go_wp2_with fail
  go_loopw [13] (fun i wr => ∃ k : Nat, k ≤ h + o ∧ i = .int .i64 k ∧ ∃ d : Nat, wr = w5.drewN d) (fun i _ => (h + o) - (intOf i).toNat)
  case atStart => exact ⟨0, Nat.zero_le _, rfl, 0, rfl⟩
  case round =>
    obtain ⟨k, hk, rfl, d, rfl⟩ := hrel
    by_cases hlt : k < h + o
    · obtain ⟨bw, ow, rfl, _, hcw⟩ := HRW5.out.at hlt
      obtain ⟨bv, ov, rfl, _, hcv⟩ := HRV.out.at hlt
      have hlt' : (k : Int) < (h : Int) + (o : Int) := by omega
      rcases HSL.out k hlt with ⟨e1, e2⟩ | ⟨e1, e2⟩
      · rw [e1] at hcw
        rw [e2] at hcv
        have ee : (((h + m : Nat) : Int) == (h : Int) + (m : Int)) = true := by simp
        clear e1 e2
        go_wp2_with fail
        go_roundw
        case rel => exact ⟨k + 1, by omega, by go_num, _, rfl⟩
        case measure => simp [intOf]; omega
      · rw [e2] at hcv
        have ee : (W.getD k 0 == (h : Int) + (m : Int)) = false := by
          rw [beq_eq_false_iff_ne]; intro hc; apply e1; omega
        have en : (W.getD k 0 != W.getD k 0) = false := by simp
        clear e1 e2
        generalize W.getD k 0 = z at *
        go_wp2_with fail
        go_quiet (fail)
        go_wp2_with fail
        go_roundw
        case rel => exact ⟨k + 1, by omega, by go_num, _, rfl⟩
        case measure => simp [intOf]; omega
    · have hlt' : ¬ ((k : Int) < (h : Int) + (o : Int)) := by omega
      go_wp2_with fail
      go_ret
      exact ⟨rfl, below_drewN hbelD _⟩
end Go.Proofs.Qxb6602119a
