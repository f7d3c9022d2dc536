/-
  Seat b6600017a: zzSideEqual_b1: it returns true where the two sides say the same.
-/
import Derived.Test.Qxb6600017aState
import Derived.Deep.QuietTactic
import Derived.BigQuiet
namespace Go.Proofs.Qxb6600017a
open Go.RowKit

/-- A slice of Fingers: five cells an element. -/
def Row5 (w : World) (a : Option Addr) (n : Nat) (f : Nat → Int × Bool) : Prop :=
  n = 0 ∨ ∃ b off, a = some ⟨b, off, none⟩ ∧ ∀ i, i < n → w.cell? ⟨b, off + i * 5 + 3, none⟩ = some (.int .i32 (f i).1) ∧ w.cell? ⟨b, off + i * 5 + 4, none⟩ = some (.bool (f i).2)

set_option maxHeartbeats 1000000 in
theorem side43 (a1 a2 : Option Addr) (n c1 c2 : Nat) (f : Nat → Int × Bool) (w : World) (hn : n ≤ 1048576) (h5 : Row5 w a1 n f) (h2 : Row2 w a2 n f) :
    Calls Try.prog 43 #[.slice a1 n c1, .slice a2 n c2] w fun e w' => e = .returned (.bool true) ∧ ∃ d, w' = w.drewN d := by
  have H5 : Hid (Row5 w a1 n f) := h5
  have H2 : Hid (Row2 w a2 n f) := h2
  clear h5 h2
  have hne : ((n : Int) != (n : Int)) = false := by simp
  go_enter Try.func43, Try.ntmps43
  go_wp2
  go_loopw [5] (fun i wr => ∃ k : Nat, k ≤ n ∧ i = .int .i64 k ∧ ∃ d : Nat, wr = w.drewN d) (fun i _ => n - (intOf i).toNat)
  case atStart => exact ⟨0, Nat.zero_le _, rfl, 0, rfl⟩
  case round =>
    obtain ⟨k, hk, rfl, d, rfl⟩ := hrel
    by_cases hlt : k < n
    · rcases H5.out with h | ⟨b, off, rfl, hb⟩
      · omega
      rcases H2.out with h | ⟨c, p, rfl, hc⟩
      · omega
      obtain ⟨x1, x2⟩ := hb k hlt
      obtain ⟨y1, y2⟩ := hc k hlt
      have hlt' : (k : Int) < (n : Int) := by omega
      clear hb hc H5 H2
      generalize f k = g at *
      obtain ⟨u, v⟩ := g
      have hu : (u != u) = false := by simp
      have hv : (v != v) = false := by simp
      go_wp2
      go_quiet (fail)
      go_wp2
      go_roundw
      case rel => exact ⟨k + 1, by omega, by go_num, _, rfl⟩
      case measure => simp [intOf]; omega
    · go_wp2
      go_ret
      exact ⟨rfl, _, rfl⟩
end Go.Proofs.Qxb6600017a
