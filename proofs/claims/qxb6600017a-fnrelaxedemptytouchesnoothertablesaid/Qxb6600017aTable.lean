/-
  Seat b6600017a: zzTableEqual_b1: it returns true where the two tables say the same.
-/
import Derived.Test.Qxb6600017aSide
namespace Go.Proofs.Qxb6600017a
open Go.RowKit

theorem Row5.later {w w' : World} {a : Option Addr} {n : Nat} {f : Nat → Int × Bool} (h : Row5 w a n f) (hb : Below w.heap.size w w') : Row5 w' a n f := by
  rcases h with h | ⟨b, off, ha, hc⟩
  · exact .inl h
  · refine .inr ⟨b, off, ha, fun i hi => ?_⟩
    have hlt : b < w.heap.size := World.block_lt_of_cell? w _ (hc i hi).1
    rw [hb.cell (p := ⟨b, off + i * 5 + 3, none⟩) hlt, hb.cell (p := ⟨b, off + i * 5 + 4, none⟩) hlt]; exact hc i hi

set_option maxHeartbeats 2000000 in
theorem table34 (x : Tab) (u0 u1 u2 u3 u4 u5 u7 u8 u9 : Value) (a13 a14 a15 : Option Addr) (c13 c14 c15 B : Nat) (w : World)
    (hfn : x.fn ≤ 1048576) (hwn : x.wn ≤ 1048576) (hbn : x.bn ≤ 1048576) (hin : x.In w) (h13 : Row4 B w a13 x.fn x.fol) (h14 : Row5 w a14 x.wn x.fwd) (h15 : Row5 w a15 x.bn x.bck) :
    Calls Try.prog 34 #[.agg #[u0, u1, u2, u3, u4, u5, .int .i32 x.pred, u7, u8, u9, .int .i32 x.succ, .bool x.nop, .bool x.quiet, .slice a13 x.fn c13, .slice a14 x.wn c14, .slice a15 x.bn c15], 
      .agg #[.int .i32 x.pred, .int .i32 x.succ, .bool x.nop, .bool x.quiet, .slice x.fa x.fn x.fc, .slice x.wa x.wn x.wc, .slice x.ba x.bn x.bc]] w fun e w' => e = .returned (.bool true) ∧ Below w.heap.size w w' := by
  have HIN : Hid (x.In w) := hin
  have H13 : Hid (Row4 B w a13 x.fn x.fol) := h13
  have H14 : Hid (Row5 w a14 x.wn x.fwd) := h14
  have H15 : Hid (Row5 w a15 x.bn x.bck) := h15
  clear hin h13 h14 h15
  have n1 : (x.pred != x.pred) = false := by simp
  have n2 : (x.succ != x.succ) = false := by simp
  have n3 : (x.nop != x.nop) = false := by simp
  have n4 : (x.quiet != x.quiet) = false := by simp
  have n5 : ((x.fn : Int) != (x.fn : Int)) = false := by simp
  go_enter Try.func34, Try.ntmps34
  go_wp2
  refine wp_via (fun W => Own W w.heap.size 60 [u0, u1, u2, u3, u4, u5, .int .i32 x.pred, u7, u8, u9, .int .i32 x.succ, .bool x.nop, .bool x.quiet, .slice a13 x.fn c13, .slice a14 x.wn c14, .slice a15 x.bn c15] ∧
    Own W (w.heap.size + 1) 33 [.int .i32 x.pred, .int .i32 x.succ, .bool x.nop, .bool x.quiet, .slice x.fa x.fn x.fc, .slice x.wa x.wn x.wc, .slice x.ba x.bn x.bc] ∧ Below w.heap.size w W) ?_ ?_
  · exact ⟨(Own.new w 60 _).alloc _, Own.newAt 33 _ (by simp), Below.allocL (Below.allocL (Below.refl _ _) (Nat.le_refl _) _) (Nat.le_refl _) _⟩
  intro W ⟨hA, hB, hbel⟩
  have g13 : W.cell? ⟨w.heap.size, 13, none⟩ = some (.slice a13 x.fn c13) := hA.cell 13
  have g14 : W.cell? ⟨w.heap.size, 14, none⟩ = some (.slice a14 x.wn c14) := hA.cell 14
  have g15 : W.cell? ⟨w.heap.size, 15, none⟩ = some (.slice a15 x.bn c15) := hA.cell 15
  have f4 : W.cell? ⟨w.heap.size + 1, 4, none⟩ = some (.slice x.fa x.fn x.fc) := hB.cell 4
  have f5 : W.cell? ⟨w.heap.size + 1, 5, none⟩ = some (.slice x.wa x.wn x.wc) := hB.cell 5
  have f6 : W.cell? ⟨w.heap.size + 1, 6, none⟩ = some (.slice x.ba x.bn x.bc) := hB.cell 6
  clear hA hB
  go_loopw [5] (fun i wr => ∃ k : Nat, k ≤ x.fn ∧ i = .int .i64 k ∧ ∃ d : Nat, wr = W.drewN d) (fun i _ => x.fn - (intOf i).toNat)
  case atStart => exact ⟨0, Nat.zero_le _, rfl, 0, rfl⟩
  case round =>
    obtain ⟨k, hk, rfl, d, rfl⟩ := hrel
    by_cases hlt : k < x.fn
    · rcases H13.out.later hbel with h | ⟨b, hBb, hab, hcb⟩
      · omega
      rcases (HIN.out.fol).later hbel with h | ⟨c, p, hac, hcc⟩
      · omega
      have x1 := hcb k hlt
      have y1 : W.cell? ⟨c, p + k, none⟩ = some (.int .i32 (x.fol k)) := hcc k hlt
      rw [hab] at g13
      rw [hac] at f4
      have hu : (x.fol k != x.fol k) = false := by simp
      have hlt' : (k : Int) < (x.fn : Int) := by omega
      clear hab hac hcb hcc
      go_wp2
      go_quiet (fail)
      go_wp2
      go_roundw
      case rel => exact ⟨k + 1, by omega, by go_num, _, rfl⟩
      case measure => simp [intOf]; omega
    · have hbel' : Below w.heap.size w (W.drewN d) := below_drewN hbel d
      go_wp2_with fail
      refine (side43 a14 x.wa x.wn c14 x.wc x.fwd _ hwn (by exact H14.out.later hbel') (by exact HIN.out.fwd.later hbel')).mono ?_
      rintro e w5 ⟨rfl, d5, rfl⟩
      have hbel2 : Below w.heap.size w (W.drewN (d + d5)) := below_drewN hbel _
      go_wp2_with fail
      refine (side43 a15 x.ba x.bn c15 x.bc x.bck _ hbn (by exact H15.out.later hbel2) (by exact HIN.out.bck.later hbel2)).mono ?_
      rintro e w6 ⟨rfl, d6, rfl⟩
      go_wp2_with fail
      go_ret
      exact ⟨rfl, below_drewN hbel _⟩
end Go.Proofs.Qxb6600017a
