/-
  Seat b6602119a: placeColumns computes 'pl'.
-/
import Derived.Test.Qxb6602119aCallees
namespace Go.Proofs.Qxb6602119a
open Go.RowKit

/-- A new row of ints that the call made: its cells are W. -/
def IntRow (B : Nat) (w : World) (v : Value) (W : List Int) : Prop := ∃ g cap, v = .slice (some ⟨g, 0, none⟩) W.length cap ∧ w.ownsRow B 3 1 v W.length (W.map (Value.int .i64))

/-- What placeColumns hands back. -/
def Placed (B : Nat) (r : Option (List Int)) (e : Ending) (w : World) : Prop :=
  match r with
  | none => e = .returned (.tuple #[.slice none 0 0, .bool false])
  | some W => ∃ v, e = .returned (.tuple #[v, .bool true]) ∧ IntRow B w v W

/-- 'got[:k]'. -/
theorem slice_head (w : World) (a : Option Addr) (n c k : Nat) (f : Nat → Value) (hk : k ≤ n) (hc : n ≤ c) (hr : Row w a n f) :
    ∃ a', (∀ W : World, (Instr.slice 22 (.slice a n c) none (some (.int .i64 (k : Int))) none).run Try.prog W = .ok (.slice a' k c) W) ∧ Row w a' k f := by
  refine ⟨if c = 0 then a else a.map (·.add 0), fun W => ?_, ?_⟩
  · obtain ⟨i0, hi, hz0, hz1, hz2⟩ := info_parts info9
    rw [run_slice_h W 22 a n c (by rw [Try.underlying22]; kernel_rfl) .i64 (k : Int) (by omega) (by omega)]
    have e2 : Try.prog.elem 22 = 9 := by kernel_rfl
    rw [e2]
    simp [sizeOf, typeInfo, hi, hz1, sliced]
  · rcases hr with h | ⟨b, off, rfl, hcell⟩
    · exact .inl (by omega)
    · right
      refine ⟨b, off, ?_, fun i hi => hcell i (by omega)⟩
      split
      · rfl
      · simp [Addr.add]

theorem row_snoc (k : Nat) : ((List.range (k + 1)).map fun i : Nat => (i : Int)).map (Value.int .i64) = ((List.range k).map fun i : Nat => (i : Int)).map (Value.int .i64) ++ [.int .i64 (k : Int)] := by
  rw [List.range_succ]; simp
theorem start_snoc (h j : Nat) : (start h (j + 1)).map (Value.int .i64) = (start h j).map (Value.int .i64) ++ [.int .i64 (-1)] := by
  unfold start
  rw [List.replicate_succ']; simp

set_option maxHeartbeats 2000000 in
set_option maxRecDepth 100000 in
theorem place15 (a1 a2 a3 : Option Addr) (g c1 h c2 o c3 : Nat) (sg sh so : Nat → ByteArray) (w : World) (hg : g ≤ 4096) (hh : h ≤ 4096) (ho : o ≤ 4096) (hc1 : g ≤ c1)
    (hr1 : Row w a1 g fun i => .string (sg i)) (hr2 : Row w a2 h fun i => .string (sh i)) (hr3 : Row w a3 o fun i => .string (so i)) :
    Calls Try.prog 15 #[.slice a1 g c1, .slice a2 h c2, .slice a3 o c3] w fun e w' => Placed w.heap.size (if h ≤ g ∧ allSame h sg sh = true then pl h o sg so (g - h) else none) e w' ∧ Below w.heap.size w w' := by
  by_cases hgh : h ≤ g
  rotate_left
  · rw [if_neg (fun x => hgh x.1)]
    have hd : (g : Int) < (h : Int) := by omega
    go_enter Try.func15, Try.ntmps15
    go_wp2_with fail
    go_ret2
    exact ⟨rfl, Below.refl _ _⟩
  have hd : decide ((g : Int) < (h : Int)) = false := decide_eq_false (by omega)
  obtain ⟨a1', hsl, hrs⟩ := slice_head w a1 g c1 h _ hgh hc1 hr1
  have HRS : Hid (Row w a1' h fun i => .string (sg i)) := hrs
  have HR1 : Hid (Row w a1 g fun i => .string (sg i)) := hr1
  have HR2 : Hid (Row w a2 h fun i => .string (sh i)) := hr2
  have HR3 : Hid (Row w a3 o fun i => .string (so i)) := hr3
  clear hrs hr1 hr2 hr3
  cases hall : allSame h sg sh with
  | false =>
    rw [if_neg (by simp)]
    have HALL : Hid (allSame h sg sh = false) := hall
    clear hall
    go_enter Try.func15, Try.ntmps15
    go_wp2_with fail
    refine (equal17 a1' a2 h c1 c2 sg sh _ hh HRS.out HR2.out).mono ?_
    rintro e w1 ⟨rfl, d, rfl⟩
    rw [HALL.out]
    go_wp2_with fail
    go_ret2
    exact ⟨rfl, below_drewN (Below.refl _ _) _⟩
  | true =>
  have HALL : Hid (allSame h sg sh = true) := hall
  rw [if_pos ⟨hgh, rfl⟩]
  clear hall
  go_enter Try.func15, Try.ntmps15
  go_wp2_with fail
  refine (equal17 a1' a2 h c1 c2 sg sh _ hh HRS.out HR2.out).mono ?_
  rintro e w1 ⟨rfl, d, rfl⟩
  rw [HALL.out]
  clear hsl HRS HALL
  obtain ⟨i0, hi, hz0, hz1, hz2⟩ := info_parts info3
  go_wp2_with (at_make; refine wpList_make_own _ rfl _ _ 25 rfl w.heap.size 3 i0 (.int .i64 0) 1 Try.underlying25 hi hz0 hz1 _ _ _ (h + o) rfl rfl (by omega) (by rw [hz2]; omega) (by unfold maxLen; omega) (by exact Nat.le_refl _) ?_; intro w2 hown2 hgrow2)
  have hbel2 : Below w.heap.size w w2 := Below.grown (below_drewN (Below.refl _ w) d) hgrow2 (Nat.le_refl _) (fun k hk => by cases hk)
  clear hgrow2
  go_loopw [8, 34] (fun v i wr => ∃ k : Nat, k ≤ h ∧ i = .int .i64 k ∧ v = .slice (some ⟨w.heap.size, 0, none⟩) k (h + o) ∧ wr.ownsRow w.heap.size 3 1 (.slice (some ⟨w.heap.size, 0, none⟩) k (h + o)) k (((List.range k).map fun i : Nat => (i : Int)).map (Value.int .i64)) ∧ Below w.heap.size w wr) (fun _ i _ => h - (intOf i).toNat)
  case atStart => exact ⟨0, Nat.zero_le _, rfl, rfl, hown2, hbel2⟩
  case round =>
    clear hown2 hbel2
    obtain ⟨k, hk, rfl, rfl, hown, hbel⟩ := hrel
    by_cases hlt : k < h
    · have hsz := hbel.size
      go_wp2_with (at_builtin; refine wpList_append_fits _ rfl (.tmp 37) (.tmp 39) 25 rfl w.heap.size 3 i0 1 Try.underlying25 hi hz1 w.heap.size k (h + o) _ rfl (hown.alloc _) ⟨wr.heap.size, 0, none⟩ 1 1 [.int .i64 (k : Int)] rfl rfl (cell_one_new _ _ _) (by intro u hu; simp at hu; subst hu; rfl) (by omega) ?_; intro w3 hown3 hgrow3)
      have hbel3 : Below w.heap.size w w3 := (hbel.alloc hsz _).grown hgrow3 (by simp; omega) (fun k hk => by simp at hk; omega)
      clear hgrow3 hown hbel
      go_roundw
      case rel => exact ⟨k + 1, by omega, by go_num, rfl, by rw [row_snoc k]; exact hown3, hbel3⟩
      case measure => simp [intOf]; omega
    · have hkh : h = k := by omega
      subst hkh
      have hown' : wr.ownsRow w.heap.size 3 1 (.slice (some ⟨w.heap.size, 0, none⟩) (h + 0) (h + o)) (h + 0) ((start h 0).map (Value.int .i64)) := by simpa [start] using hown
      clear hown
      go_wp2_with fail
      go_loopw [8, 44] (fun v i wr => ∃ j : Nat, j ≤ o ∧ i = .int .i64 j ∧ v = .slice (some ⟨w.heap.size, 0, none⟩) (h + j) (h + o) ∧ wr.ownsRow w.heap.size 3 1 (.slice (some ⟨w.heap.size, 0, none⟩) (h + j) (h + o)) (h + j) ((start h j).map (Value.int .i64)) ∧ Below w.heap.size w wr) (fun _ i _ => o - (intOf i).toNat)
      case atStart => exact ⟨0, Nat.zero_le _, rfl, rfl, hown', hbel⟩
      case round =>
        clear hown' hbel
        obtain ⟨j, hj, rfl, rfl, hown, hbel⟩ := hrel
        by_cases hlt2 : j < o
        · have hsz := hbel.size
          go_wp2_with (at_builtin; refine wpList_append_fits _ rfl (.tmp 46) (.tmp 47) 25 rfl w.heap.size 3 i0 1 Try.underlying25 hi hz1 w.heap.size (h + j) (h + o) _ rfl (hown.alloc _) ⟨wr.heap.size, 0, none⟩ 1 1 [.int .i64 (-1)] rfl rfl (cell_one_new _ _ _) (by intro u hu; simp at hu; subst hu; rfl) (by omega) ?_; intro w3 hown3 hgrow3)
          have hbel3 : Below w.heap.size w w3 := (hbel.alloc hsz _).grown hgrow3 (by simp; omega) (fun k hk => by simp at hk; omega)
          clear hgrow3 hown hbel
          go_roundw
          case rel => exact ⟨j + 1, by omega, by go_num, rfl, by rw [start_snoc h j]; exact hown3, hbel3⟩
          case measure => simp [intOf]; omega
        · have hjo : o = j := by omega
          subst hjo
          clear hi hz0 hz1 hz2
          go_wp2_with fail
          go_loopw [10] (fun t wr => ∃ k : Nat, k ≤ g - h ∧ t = .int .i64 ((h + k : Nat) : Int) ∧ ∃ W, pl h o sg so k = some W ∧ wr.ownsRow w.heap.size 3 1 (.slice (some ⟨w.heap.size, 0, none⟩) (h + o) (h + o)) (h + o) (W.map (Value.int .i64)) ∧ Below w.heap.size w wr) (fun t _ => g - (intOf t).toNat)
          case atStart => exact ⟨0, Nat.zero_le _, rfl, _, rfl, hown, hbel⟩
          case round =>
            clear hown hbel
            obtain ⟨k, hk, rfl, W, hpl, hown, hbel⟩ := hrel
            have HPL : Hid (pl h o sg so k = some W) := hpl
            have HGD : Hid (Good h o sg so k W) := good_of hpl
            clear hpl
            have HR3' : Hid (Row wr a3 o fun i => .string (so i)) := HR3.out.later hbel
            by_cases hlt3 : h + k < g
            · rcases HR1.out.later hbel with hx | ⟨b, off, rfl, hcb⟩
              · omega
              have hcell : wr.cell? ⟨b, off + (h + k), none⟩ = some (.string (sg (h + k))) := hcb (h + k) hlt3
              have hlt3' : (h : Int) + (k : Int) < (g : Int) := by omega
              clear hcb
              go_wp2_with fail
              refine (index18 a3 o c3 so (sg (h + k)) _ ho HR3'.out).mono ?_
              rintro e w4 ⟨rfl, hw4⟩
              obtain rfl : wr = w4 := hw4.symm
              clear hw4
              cases hidx : idx o so (sg (h + k)) with
              | none =>
                have HP : Hid (pl h o sg so (g - h) = none) := pl_none (k := k + 1) (by simp only [pl, HPL.out, hidx]) (by omega)
                have e1 : idxVal o so (sg (h + k)) = -1 := by unfold idxVal; rw [hidx]
                rw [e1]
                clear hidx e1
                go_wp2_with fail
                go_ret2
                exact ⟨by rw [HP.out]; exact rfl, hbel⟩
              | some i =>
                have hio := (idx_of hidx).1
                have e1 : idxVal o so (sg (h + k)) = (i : Int) := by unfold idxVal; rw [hidx]
                rw [e1]
                clear e1
                have hwl : (W.map (Value.int .i64)).length = h + o := by simpa using HGD.out.len
                have hci : wr.cell? ⟨w.heap.size, h + i, none⟩ = some (.int .i64 (W.getD (h + i) 0)) := by
                  rw [hown.cellAt (h + i) (by omega)]
                  have : h + i < W.length := by rw [HGD.out.len]; omega
                  simp [this]
                have hfi := hown.frozenAt (h + i)
                have hi1 : (h : Int) + (i : Int) < (h : Int) + (o : Int) := by omega
                have hi2 : decide ((i : Int) < 0) = false := decide_eq_false (by omega)
                clear hwl
                by_cases hneg : 0 ≤ W.getD (h + i) 0
                · have HP : Hid (pl h o sg so (g - h) = none) := pl_none (k := k + 1) (by simp only [pl, HPL.out, hidx]; rw [if_pos hneg]) (by omega)
                  clear hidx
                  generalize W.getD (h + i) 0 = z at *
                  go_wp2_with fail
                  go_ret2
                  exact ⟨by rw [HP.out]; exact rfl, hbel⟩
                · have HP : Hid (pl h o sg so (k + 1) = some (W.set (h + i) ((h + k : Nat) : Int))) := by
                    show pl h o sg so (k + 1) = _
                    simp only [pl, HPL.out, hidx]; rw [if_neg hneg]
                  clear hidx
                  have hst := hown.stored (h + i) (.int .i64 ((h + k : Nat) : Int))
                  have HST : Hid ((wr.setCell ⟨w.heap.size, h + i, none⟩ (.int .i64 ((h + k : Nat) : Int))).ownsRow w.heap.size 3 1 (.slice (some ⟨w.heap.size, 0, none⟩) (h + o) (h + o)) (h + o) ((W.set (h + i) ((h + k : Nat) : Int)).map (Value.int .i64))) := by
                    rw [List.map_set]; exact hst.1
                  clear hst
                  generalize W.getD (h + i) 0 = z at *
                  go_wp2_with fail
                  go_roundw
                  case rel => exact ⟨k + 1, by omega, by go_num, _, HP.out, HST.out, hbel.setCell (Nat.le_refl _) _⟩
                  case measure => simp [intOf]; omega
            · have hkg : g - h = k := by omega
              have HP : Hid (pl h o sg so (g - h) = some W) := hkg ▸ HPL.out
              have hlen := HGD.out.len
              have HIR : Hid (IntRow w.heap.size wr (.slice (some ⟨w.heap.size, 0, none⟩) (h + o) (h + o)) W) := ⟨_, _, by rw [hlen], by rw [hlen]; exact hown⟩
              clear hkg hlen
              go_wp2_with fail
              go_ret2
              exact ⟨by rw [HP.out]; exact ⟨_, rfl, HIR.out⟩, hbel⟩
end Go.Proofs.Qxb6602119a
