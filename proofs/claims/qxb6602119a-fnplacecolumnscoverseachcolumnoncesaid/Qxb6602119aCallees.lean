/-
  Seat b6602119a: zzb1Bytes, zzb1Small, zzb1Clone, slices.Equal, slices.Index.
-/
import Derived.Test.Qxb6602119aBytes
import Derived.Test.Qxb6602119aPlain
import Derived.Lib.SliceRun
import Derived.Deep.QuietTactic
import Derived.BigQuiet
namespace Go.Proofs.Qxb6602119a
open Go.RowKit

theorem get_set_step {α : Type} {cs : List α} {k n : Nat} {f : Nat → α} (hlen : cs.length = n) (hk : k < n) (h : ∀ i, i < k → cs[i]? = some (f i)) :
    ∀ i, i < k + 1 → (cs.set k (f k))[i]? = some (f i) := by
  intro i hi
  rw [List.getElem?_set]
  by_cases e : k = i
  · subst e; simp; omega
  · rw [if_neg e]; exact h i (by omega)

set_option maxHeartbeats 400000 in
theorem clone_pos (b off n c : Nat) (ss : Nat → ByteArray) (w : World) (hn : n ≤ 65536)
    (hc : ∀ i, i < n → w.cell? ⟨b, off + i, none⟩ = some (.string (ss i))) (hb : b < w.heap.size) :
    Calls Try.prog 8 #[.slice (some ⟨b, off, none⟩) n c] w fun e w' => ∃ a' c', e = .returned (.slice a' n c') ∧ n ≤ c' ∧ Row w' a' n (fun i => .string (ss i)) ∧ Below w.heap.size w w' := by
  obtain ⟨i0, hi, hz0, hz1, hz2⟩ := info_parts info9
  have hnil := fun w a n c => Lib.run_eql_slice_nil (P := Try.prog) w 22 9 a n c 0 0 Try.underlying22
  go_enter Try.func8, Try.ntmps8
  go_wp2_with (at_make; refine wpList_make_one _ rfl _ _ 22 rfl 9 i0 (.string ⟨#[]⟩) 16 Try.underlying22 hi hz0 hz1 hz2 rfl _ _ _ _ n rfl rfl rfl rfl (by omega) (by omega) ?_; intro w1 hown1 hbel1 hsz1)
  clear hnil hi hz0 hz1 hz2
  go_loopw [4] (fun i wr => ∃ k : Nat, k ≤ n ∧ i = .int .i64 k ∧ ∃ cs, Own wr w.heap.size 9 cs ∧ cs.length = n ∧ (∀ i, i < k → cs[i]? = some (.string (ss i))) ∧ Below w.heap.size w wr) (fun i _ => n - (intOf i).toNat)
  case atStart => exact ⟨0, Nat.zero_le _, rfl, _, hown1, by simp, fun i hi => by omega, hbel1⟩
  case round =>
    obtain ⟨k, hk, rfl, cs, hown, hlen, hcs, hbel⟩ := hrel
    have hcx : k < n → wr.cell? ⟨b, off + k, none⟩ = some (.string (ss k)) := fun h => (hbel.cell (p := ⟨b, off + k, none⟩) hb).trans (hc k h)
    have hcg := hown.cell k
    have hfg := hown.frozen k
    clear hown1 hbel1 hsz1 hc
    go_wp2
    · have hlt : k < n := by assumption
      go_roundw
      case rel => exact ⟨k + 1, by omega, by go_num, _, hown.set k _, by simpa using hlen, get_set_step hlen hlt hcs, hbel.setCell (Nat.le_refl _) _⟩
      case measure => simp [intOf]; omega
    · have hge : ¬ k < n := by assumption
      go_ret
      exact ⟨_, _, rfl, Nat.le_refl _, hown.row _ _ fun i hi => hcs i (by omega), hbel⟩

set_option maxHeartbeats 400000 in
theorem clone_nil (c : Nat) (w : World) :
    Calls Try.prog 8 #[.slice none 0 c] w fun e w' => e = .returned (.slice none 0 0) ∧ w' = w := by
  have hnil := fun w a n c => Lib.run_eql_slice_nil (P := Try.prog) w 22 9 a n c 0 0 Try.underlying22
  go_enter Try.func8, Try.ntmps8
  go_wp2
  go_ret
  exact ⟨rfl, rfl⟩

set_option maxHeartbeats 400000 in
theorem clone_empty (x : Addr) (c : Nat) (w : World) :
    Calls Try.prog 8 #[.slice (some x) 0 c] w fun e w' => e = .returned (.slice (some ⟨w.heap.size, 0, none⟩) 0 0) ∧ Below w.heap.size w w' := by
  obtain ⟨i0, hi, hz0, hz1, hz2⟩ := info_parts info9
  have hnil := fun w a n c => Lib.run_eql_slice_nil (P := Try.prog) w 22 9 a n c 0 0 Try.underlying22
  go_enter Try.func8, Try.ntmps8
  go_wp2_with (at_make; refine wpList_make_one _ rfl _ _ 22 rfl 9 i0 (.string ⟨#[]⟩) 16 Try.underlying22 hi hz0 hz1 hz2 rfl _ _ _ _ 0 rfl rfl rfl rfl (by omega) (by omega) ?_; intro w1 hown1 hbel1 hsz1)
  clear hnil hi hz0 hz1 hz2
  refine wp_loop_rounds 1 ?_
  rw [rounds_succ]
  go_wp2
  go_ret
  exact ⟨rfl, hbel1⟩

/-- zzCloneB1. -/
theorem clone8 (a : Option Addr) (n c : Nat) (ss : Nat → ByteArray) (w : World) (hn : n ≤ 65536) (hr : Row w a n fun i => .string (ss i)) :
    Calls Try.prog 8 #[.slice a n c] w fun e w' => ∃ a' c', e = .returned (.slice a' n c') ∧ n ≤ c' ∧ Row w' a' n (fun i => .string (ss i)) ∧ Below w.heap.size w w' := by
  by_cases h0 : n = 0
  · subst h0
    cases a with
    | none => exact (clone_nil c w).mono fun e w' ⟨he, hw⟩ => ⟨_, _, he, Nat.le_refl _, .inl rfl, hw ▸ Below.refl _ _⟩
    | some x => exact (clone_empty x c w).mono fun e w' ⟨he, hw⟩ => ⟨_, _, he, Nat.le_refl _, .inl rfl, hw⟩
  · rcases hr with h | ⟨b, off, rfl, hc⟩
    · exact absurd h h0
    · exact clone_pos b off n c ss w hn hc (World.block_lt_of_cell? w _ (hc 0 (by omega)))


set_option maxHeartbeats 400000 in
/-- zzb1Bytes: some int, not negative. -/
theorem bytes14 (a : Option Addr) (n c : Nat) (ss : Nat → ByteArray) (w : World) (hn : n ≤ 9223372036854775807) (hs : ∀ i, (ss i).size ≤ 9223372036854775807)
    (hr : Row w a n fun i => .string (ss i)) :
    Calls Try.prog 14 #[.slice a n c] w fun e w' => IsInt e ∧ w' = w := by
  have HR : Hid (Row w a n fun i => .string (ss i)) := hr
  have HS : Hid (∀ i, (ss i).size ≤ 9223372036854775807) := hs
  clear hr hs
  go_enter Try.func14, Try.ntmps14
  go_wp2
  go_loop [3, 4] (fun t i => ∃ k : Nat, k ≤ n ∧ i = .int .i64 k ∧ ∃ q : Int, t = .int .i64 q ∧ 0 ≤ q ∧ q ≤ 1048576) (fun _ i => n - (intOf i).toNat)
  case atStart => exact ⟨0, Nat.zero_le _, rfl, _, rfl, by omega, by omega⟩
  case round =>
    obtain ⟨k, hk, rfl, q, rfl, hq0, hq1⟩ := hrel
    by_cases hlt : k < n
    · rcases HR.out with h | ⟨b, off, rfl, hc⟩
      · omega
      have hcell : w.cell? ⟨b, off + k, none⟩ = some (.string (ss k)) := hc k hlt
      have hsk := HS.out k
      clear hc
      go_wp2
      · go_ret; exact ⟨isInt_mk _, rfl⟩
      · go_ret; exact ⟨isInt_mk _, rfl⟩
      · go_round
        case rel => exact ⟨k + 1, by omega, by go_num, _, rfl, by omega, by omega⟩
        case measure => simp [intOf]; omega
    · go_wp2
      go_ret; exact ⟨isInt_mk _, rfl⟩

/-- It says some bool; where it says yes each length is small. -/
def SaysSmall (n1 n2 n3 : Nat) (e : Ending) : Prop := ∃ r : Bool, e = .returned (.bool r) ∧ (r = true → n1 ≤ 4096 ∧ n2 ≤ 4096 ∧ n3 ≤ 4096)
theorem saysSmall_no (n1 n2 n3 : Nat) : SaysSmall n1 n2 n3 (.returned (.bool false)) := ⟨_, rfl, fun h => by cases h⟩
theorem saysSmall_yes {n1 n2 n3 : Nat} (h1 : n1 ≤ 4096) (h2 : n2 ≤ 4096) (h3 : n3 ≤ 4096) : SaysSmall n1 n2 n3 (.returned (.bool true)) := ⟨_, rfl, fun _ => ⟨h1, h2, h3⟩⟩

set_option maxHeartbeats 1000000 in
theorem small7 (a1 a2 a3 : Option Addr) (n1 c1 n2 c2 n3 c3 : Nat) (s1 s2 s3 : Nat → ByteArray) (w : World) (hn1 : n1 ≤ 9223372036854775807) (hn2 : n2 ≤ 9223372036854775807) (hn3 : n3 ≤ 9223372036854775807)
    (hs1 : ∀ i, (s1 i).size ≤ 9223372036854775807) (hs2 : ∀ i, (s2 i).size ≤ 9223372036854775807) (hs3 : ∀ i, (s3 i).size ≤ 9223372036854775807)
    (hr1 : Row w a1 n1 fun i => .string (s1 i)) (hr2 : Row w a2 n2 fun i => .string (s2 i)) (hr3 : Row w a3 n3 fun i => .string (s3 i)) :
    Calls Try.prog 7 #[.slice a1 n1 c1, .slice a2 n2 c2, .slice a3 n3 c3] w fun e w' => SaysSmall n1 n2 n3 e ∧ w' = w := by
  have HR1 : Hid (Row w a1 n1 fun i => .string (s1 i)) := hr1
  have HR2 : Hid (Row w a2 n2 fun i => .string (s2 i)) := hr2
  have HR3 : Hid (Row w a3 n3 fun i => .string (s3 i)) := hr3
  have HS1 : Hid (∀ i, (s1 i).size ≤ 9223372036854775807) := hs1
  have HS2 : Hid (∀ i, (s2 i).size ≤ 9223372036854775807) := hs2
  have HS3 : Hid (∀ i, (s3 i).size ≤ 9223372036854775807) := hs3
  clear hr1 hr2 hr3 hs1 hs2 hs3
  go_enter Try.func7, Try.ntmps7
  go_wp2_with fail
  refine (bytes14 a1 n1 c1 s1 _ hn1 HS1.out HR1.out).mono ?_
  rintro e w' ⟨⟨r1, rfl⟩, hw⟩
  obtain rfl : w = w' := hw.symm
  clear hw
  go_wp2_with fail
  refine (bytes14 a2 n2 c2 s2 _ hn2 HS2.out HR2.out).mono ?_
  rintro e w' ⟨⟨r2, rfl⟩, hw⟩
  obtain rfl : w = w' := hw.symm
  clear hw
  go_wp2_with fail
  refine (bytes14 a3 n3 c3 s3 _ hn3 HS3.out HR3.out).mono ?_
  rintro e w' ⟨⟨r3, rfl⟩, hw⟩
  obtain rfl : w = w' := hw.symm
  clear hw
  by_cases hrs : (1048576 : Int) < wrap64 (wrap64 (r1 + r2) + r3)
  · go_wp2_with fail
    go_ret; exact ⟨saysSmall_no _ _ _, rfl⟩
  by_cases h1 : n1 ≤ 4096
  rotate_left
  · have hgt : (4096 : Int) < (n1 : Int) := by omega
    go_wp2_with fail
    go_ret; exact ⟨saysSmall_no _ _ _, rfl⟩
  have hd1 : decide ((4096 : Int) < (n1 : Int)) = false := decide_eq_false (by omega)
  by_cases h2 : n2 ≤ 4096
  rotate_left
  · have hgt : (4096 : Int) < (n2 : Int) := by omega
    go_wp2_with fail
    go_ret; exact ⟨saysSmall_no _ _ _, rfl⟩
  have hd2 : decide ((4096 : Int) < (n2 : Int)) = false := decide_eq_false (by omega)
  by_cases h3 : n3 ≤ 4096
  rotate_left
  · have hgt : (4096 : Int) < (n3 : Int) := by omega
    go_wp2_with fail
    go_ret; exact ⟨saysSmall_no _ _ _, rfl⟩
  go_wp2_with fail
  go_ret; exact ⟨saysSmall_yes h1 h2 h3, rfl⟩

/-- The number that slices.Index hands back. -/
def idxVal (n : Nat) (s : Nat → ByteArray) (v : ByteArray) : Int := match idx n s v with | some i => (i : Int) | none => -1

set_option maxHeartbeats 400000 in
theorem index18 (a : Option Addr) (n c : Nat) (ss : Nat → ByteArray) (v : ByteArray) (w : World) (hn : n ≤ 4096) (hr : Row w a n fun i => .string (ss i)) :
    Calls Try.prog 18 #[.slice a n c, .string v] w fun e w' => e = .returned (.int .i64 (idxVal n ss v)) ∧ w' = w := by
  have HR : Hid (Row w a n fun i => .string (ss i)) := hr
  clear hr
  go_enter Try.func18, Try.ntmps18
  go_wp2
  go_loop [8] (fun i => ∃ k : Nat, k ≤ n ∧ i = .int .i64 k ∧ ∀ j, j < k → same v (ss j) = false) (fun i => n - (intOf i).toNat)
  case atStart => exact ⟨0, Nat.zero_le _, rfl, fun j hj => by omega⟩
  case round =>
    obtain ⟨k, hk, rfl, hno⟩ := hrel
    have HNO : Hid (∀ j, j < k → same v (ss j) = false) := hno
    clear hno
    by_cases hlt : k < n
    · rcases HR.out with h | ⟨b, off, rfl, hc⟩
      · omega
      have hcell : w.cell? ⟨b, off + k, none⟩ = some (.string (ss k)) := hc k hlt
      clear hc
      cases hit : same v (ss k) with
      | true =>
        have hit' : (v.toList == (ss k).toList) = true := hit
        have hv : idxVal n ss v = (k : Int) := by unfold idxVal; rw [idx_some hlt hit HNO.out]
        have HV : Hid (idxVal n ss v = (k : Int)) := hv
        clear hv hit
        go_wp2
        go_ret
        exact ⟨by rw [HV.out]; first | done | rfl, rfl⟩
      | false =>
        have hit' : (v.toList == (ss k).toList) = false := hit
        have HN2 : Hid (∀ j, j < k + 1 → same v (ss j) = false) := fun j hj => by
          by_cases e : j = k
          · subst e; exact hit
          · exact HNO.out j (by omega)
        clear hit
        go_wp2
        go_round
        case rel => exact ⟨k + 1, by omega, by go_num, HN2.out⟩
        case measure => simp [intOf]; omega
    · have hkn : n = k := by omega
      have hv : idxVal n ss v = -1 := by unfold idxVal; rw [idx_none (hkn ▸ HNO.out)]
      have HV : Hid (idxVal n ss v = -1) := hv
      clear hv hkn
      go_wp2
      go_ret
      exact ⟨by rw [HV.out]; first | done | rfl, rfl⟩

/-- Are the first n texts of both one? -/
def allSame (n : Nat) (s t : Nat → ByteArray) : Bool := (List.range n).all fun i => same (s i) (t i)
theorem allSame_yes {n : Nat} {s t : Nat → ByteArray} (h : ∀ j, j < n → same (s j) (t j) = true) : allSame n s t = true := by
  unfold allSame; rw [List.all_eq_true]; intro x hx; simp at hx; exact h x hx
theorem allSame_no {n k : Nat} {s t : Nat → ByteArray} (hk : k < n) (h : same (s k) (t k) = false) : allSame n s t = false := by
  unfold allSame; rw [List.all_eq_false]; exact ⟨k, by simpa using hk, by simp [h]⟩
theorem allSame_of {n : Nat} {s t : Nat → ByteArray} (h : allSame n s t = true) : ∀ j, j < n → same (s j) (t j) = true := by
  unfold allSame at h; rw [List.all_eq_true] at h; intro j hj; exact h j (by simpa using hj)

set_option maxHeartbeats 400000 in
theorem equal17 (a1 a2 : Option Addr) (n c1 c2 : Nat) (s t : Nat → ByteArray) (w : World) (hn : n ≤ 4096) (hr1 : Row w a1 n fun i => .string (s i)) (hr2 : Row w a2 n fun i => .string (t i)) :
    Calls Try.prog 17 #[.slice a1 n c1, .slice a2 n c2] w fun e w' => e = .returned (.bool (allSame n s t)) ∧ ∃ d, w' = w.drewN d := by
  have HR1 : Hid (Row w a1 n fun i => .string (s i)) := hr1
  have HR2 : Hid (Row w a2 n fun i => .string (t i)) := hr2
  clear hr1 hr2
  have hne : ((n : Int) != (n : Int)) = false := by simp
  go_enter Try.func17, Try.ntmps17
  go_wp2
  go_loopw [13] (fun i wr => ∃ k : Nat, k ≤ n ∧ i = .int .i64 k ∧ (∀ j, j < k → same (s j) (t j) = true) ∧ ∃ d : Nat, wr = w.drewN d) (fun i _ => n - (intOf i).toNat)
  case atStart => exact ⟨0, Nat.zero_le _, rfl, fun j hj => by omega, 0, rfl⟩
  case round =>
    obtain ⟨k, hk, rfl, hall, d, rfl⟩ := hrel
    have HALL : Hid (∀ j, j < k → same (s j) (t j) = true) := hall
    clear hall
    by_cases hlt : k < n
    · rcases HR1.out with h | ⟨b, off, rfl, hc⟩
      · omega
      rcases HR2.out with h | ⟨b2, off2, rfl, hc2⟩
      · omega
      have x1 : w.cell? ⟨b, off + k, none⟩ = some (.string (s k)) := hc k hlt
      have x2 : w.cell? ⟨b2, off2 + k, none⟩ = some (.string (t k)) := hc2 k hlt
      have hlt' : (k : Int) < (n : Int) := by omega
      clear hc hc2
      cases hit : same (s k) (t k) with
      | true =>
        have hit' : ((s k).toList == (t k).toList) = true := hit
        have hit2 : ((s k).toList != (t k).toList) = false := by rw [bne, hit']; rfl
        have HN2 : Hid (∀ j, j < k + 1 → same (s j) (t j) = true) := fun j hj => by
          by_cases e : j = k
          · subst e; exact hit
          · exact HALL.out j (by omega)
        clear hit
        go_wp2
        go_quiet (fail)
        go_wp2
        go_roundw
        case rel => exact ⟨k + 1, by omega, by go_num, HN2.out, _, rfl⟩
        case measure => simp [intOf]; omega
      | false =>
        have hit' : ((s k).toList == (t k).toList) = false := hit
        have hit2 : ((s k).toList != (t k).toList) = true := by rw [bne, hit']; rfl
        have HV : Hid (allSame n s t = false) := allSame_no hlt hit
        clear hit
        go_wp2
        go_quiet (fail)
        go_wp2
        go_ret
        exact ⟨by rw [HV.out]; first | done | rfl, _, World.drewN_drewN _ _ _⟩
    · have hkn : n = k := by omega
      have HV : Hid (allSame n s t = true) := allSame_yes (hkn ▸ HALL.out)
      clear hkn
      go_wp2
      go_ret
      exact ⟨by rw [HV.out]; first | done | rfl, _, rfl⟩
end Go.Proofs.Qxb6602119a
