/-
  Seat b6000875a: FnLinksIdempotent returns true.
-/
import Derived.Test.Qxb6000875aLinks
import Derived.Deep.QuietTactic
import Derived.BigQuiet
import Derived.Lib.Builder
namespace Go.Proofs.Qxb6000875a
open Go.RowKit

theorem info49 : (Try.prog.info? 49).isSome = true := by kernel_rfl
/-- 'p != p' at two pointers to one field. -/
theorem neq_same (a : Addr) (w : World) : (binOp .neq 43 (.pointer (some a)) (.pointer (some a))).run Try.prog w = .ok (.bool false) w := by
  obtain ⟨j, hj⟩ := Option.isSome_iff_exists.1 info49
  exact Lib.run_neq_ptr_same w a Try.underlying43 hj

theorem filter_twice (T : Nat → ByteArray) (ps : List Nat) : (ps.filter (isLink T)).filter (isLink T) = ps.filter (isLink T) := by simp

set_option maxHeartbeats 1000000 in
theorem law7 (a : Option Addr) (n c : Nat) (ss : Nat → ByteArray) (w : World) (hn : n ≤ 9223372036854775807) (hs : ∀ i, (ss i).size ≤ 9223372036854775807)
    (hr : Row w a n fun i => .string (ss i)) :
    Calls Try.prog 7 #[.slice a n c] w fun e w' => e = .returned (.bool true) ∧ Below w.heap.size w w' := by
  have H22 := fun w hr => bytes22 a n c ss w hn hs hr
  have H10 := fun w hr => len10 a n c ss w hn hs hr
  have HR : Hid (Row w a n fun i => .string (ss i)) := hr
  clear hr hs
  go_enter Try.func7, Try.ntmps7
  go_wp2_with fail
  refine (H22 _ HR.out).mono ?_
  rintro e w' ⟨⟨r, rfl⟩, rfl⟩
  cases r with
  | false =>
    go_wp2_with fail
    go_ret
    exact ⟨rfl, Below.refl _ _⟩
  | true =>
  by_cases hbig : n ≤ 65536
  rotate_left
  · have hgt : (65536 : Int) < (n : Int) := by omega
    go_wp2_with fail
    go_ret
    exact ⟨rfl, Below.refl _ _⟩
  go_wp2_with fail
  refine (H10 _ HR.out).mono ?_
  rintro e w' ⟨⟨r, rfl⟩, rfl⟩
  by_cases hrs : (1048576 : Int) < r
  · go_wp2_with fail
    go_ret
    exact ⟨rfl, Below.refl _ _⟩
  clear H22 H10
  go_wp2_with fail
  refine (clone11 a n c ss _ hbig HR.out).mono ?_
  rintro e w1 ⟨a1, c1, rfl, hrow1, hbel1⟩
  have HR1 : Hid (Row w1 a1 n fun i => .string (ss i)) := hrow1
  clear hrow1 HR
  go_wp2_with fail
  refine (fields20 a1 n c1 ss _ hbig HR1.out).mono ?_
  rintro e w2 ⟨ps, rfl, hown2, hlen2, hfl2, hbel2⟩
  have HL : Hid (ps.length = n) := hlen2
  have HT : Hid (∀ p, p ∈ ps → w2.cell? ⟨p, 1, none⟩ = some (.string (typ w2 p))) := hfl2.types
  have HR2 : Hid (Row w2 (some ⟨w1.heap.size, 0, none⟩) n fun i => ptr (ps.getD i 0)) := hown2.row _ _ fun i hi => by simp [hlen2, hi]
  have hbelA : Below w'.heap.size w' w2 := hbel1.trans (hbel2.mono hbel1.size)
  clear hlen2 hfl2 hown2 HR1 hbel1 hbel2
  go_wp2_with fail
  have hgrow3 : ∀ o, Below w2.heap.size w2 (w2.alloc o) := fun o => (Below.refl _ _).alloc (Nat.le_refl _) o
  have hq3 : ∀ cs : List Value, (w2.alloc (.cells cs.toArray 41)).cell? ⟨w2.heap.size, 3, none⟩ = cs[3]? := fun cs => (Own.new w2 41 cs).cell 3
  refine (links21 w2.heap.size (some ⟨w1.heap.size, 0, none⟩) n n ps (typ w2) _ HL.out (by omega) (by exact hq3 _) (by exact HR2.out.later (hgrow3 _)) (by exact fun p hp => ((hgrow3 _).cell (p := ⟨p, 1, none⟩) (World.block_lt_of_cell? w2 _ (HT.out p hp))).trans (HT.out p hp))).mono ?_
  rintro e w3 ⟨a3, c3, rfl, hrow3, hbel3⟩
  have hbel23 : Below w2.heap.size w2 w3 := (hgrow3 _).trans (hbel3.mono (hgrow3 _).size)
  have HT3 : Hid (∀ p, p ∈ ps.filter (isLink (typ w2)) → w3.cell? ⟨p, 1, none⟩ = some (.string (typ w2 p))) := fun p hp =>
    have h := HT.out p (List.mem_filter.1 hp).1
    (hbel23.cell (p := ⟨p, 1, none⟩) (World.block_lt_of_cell? w2 _ h)).trans h
  have HF : Hid ((ps.filter (isLink (typ w2))).filter (isLink (typ w2)) = ps.filter (isLink (typ w2))) := filter_twice _ _
  have hle : (ps.filter (isLink (typ w2))).length ≤ n := HL.out ▸ List.length_filter_le _ _
  have hbelB : Below w'.heap.size w' w3 := hbelA.trans (hbel23.mono hbelA.size)
  clear hbel3 hbel23 hbelA hgrow3 hq3 HL HT HR2
  generalize ps.filter (isLink (typ w2)) = ls at *
  generalize typ w2 = T at *
  generalize hm : ls.length = m at *
  have HM : Hid (ls.length = m) := hm
  have HR3 : Hid (Row w3 a3 m fun i => ptr (ls.getD i 0)) := hrow3
  clear hm hrow3
  go_wp2_with fail
  have hgrow4 : ∀ o, Below w3.heap.size w3 (w3.alloc o) := fun o => (Below.refl _ _).alloc (Nat.le_refl _) o
  have hq4 : ∀ cs : List Value, (w3.alloc (.cells cs.toArray 41)).cell? ⟨w3.heap.size, 3, none⟩ = cs[3]? := fun cs => (Own.new w3 41 cs).cell 3
  refine (links21 w3.heap.size a3 m c3 ls T _ HM.out (by omega) (by exact hq4 _) (by exact HR3.out.later (hgrow4 _)) (by exact fun p hp => ((hgrow4 _).cell (p := ⟨p, 1, none⟩) (World.block_lt_of_cell? w3 _ (HT3.out p hp))).trans (HT3.out p hp))).mono ?_
  rw [HF.out, HM.out]
  rintro e w4 ⟨a4, c4, rfl, hrow4, hbel4⟩
  have hbel34 : Below w3.heap.size w3 w4 := (hgrow4 _).trans (hbel4.mono (hgrow4 _).size)
  have hbelC : Below w'.heap.size w' w4 := hbelB.trans (hbel34.mono hbelB.size)
  have hrow3' := HR3.out.later hbel34
  clear hbel4 hbel34 hbelB hgrow4 hq4 HR3 HT3 HF HM
  have hne : ((m : Int) != (m : Int)) = false := by simp
  rcases Nat.eq_zero_or_pos m with hm0 | hm0
  · subst hm0
    clear hrow3' hrow4
    go_wp2
    refine wp_loop_rounds 1 ?_
    rw [rounds_succ]
    go_wp2
    go_ret
    exact ⟨rfl, hbelC⟩
  · rcases hrow3' with h | ⟨b3, o3, rfl, hc3⟩
    · omega
    rcases hrow4 with h | ⟨b4, o4, rfl, hc4⟩
    · omega
    have HC3 : Hid (∀ i, i < m → w4.cell? ⟨b3, o3 + i, none⟩ = some (ptr (ls.getD i 0))) := hc3
    have HC4 : Hid (∀ i, i < m → w4.cell? ⟨b4, o4 + i, none⟩ = some (ptr (ls.getD i 0))) := hc4
    clear hc3 hc4
    go_wp2
    go_loopw [7] (fun i wr => ∃ k : Nat, k ≤ m ∧ i = .int .i64 k ∧ ∃ d : Nat, wr = w4.drewN d) (fun i _ => m - (intOf i).toNat)
    case atStart => exact ⟨0, Nat.zero_le _, rfl, 0, rfl⟩
    case round =>
      obtain ⟨k, hk, rfl, d, rfl⟩ := hrel
      by_cases hlt : k < m
      · have hc3 : w4.cell? ⟨b3, o3 + k, none⟩ = some (.pointer (some ⟨ls.getD k 0, 0, none⟩)) := HC3.out k hlt
        have hc4 : w4.cell? ⟨b4, o4 + k, none⟩ = some (.pointer (some ⟨ls.getD k 0, 0, none⟩)) := HC4.out k hlt
        have hlt' : (k : Int) < (m : Int) := by omega
        generalize ls.getD k 0 = p at *
        have hnp := neq_same ⟨p, 0, none⟩
        go_wp2
        go_quiet (fail)
        go_wp2
        go_roundw
        case rel => exact ⟨k + 1, by omega, by go_num, _, rfl⟩
        case measure => simp [intOf]; omega
      · go_wp2
        go_ret
        exact ⟨rfl, below_drewN hbelC _⟩
end Go.Proofs.Qxb6000875a
