/-
  Seat b6600017a: zzBytes_FnRelaxedEmptyTouchesNoOtherTable: what it says where it says yes.
-/
import Derived.Test.Qxb6600017aBase
namespace Go.Proofs.Qxb6600017a
open Go.RowKit

/-- The lengths of the first k tables, summed. -/
def lens (x : Nat → Tab) : Nat → Nat
  | 0 => 0
  | k + 1 => lens x k + (x k).fn + (x k).wn + (x k).bn

/-- It says some bool; where it says yes the sum is small. -/
def SaysFit (n L : Nat) (e : Ending) : Prop := ∃ r : Bool, e = .returned (.bool r) ∧ (r = true → n + L ≤ 1048576)
theorem saysFit_no (n L : Nat) : SaysFit n L (.returned (.bool false)) := ⟨_, rfl, fun h => by cases h⟩
theorem saysFit_yes {n L : Nat} (h : n + L ≤ 1048576) : SaysFit n L (.returned (.bool true)) := ⟨_, rfl, fun _ => h⟩

set_option maxHeartbeats 1000000 in
theorem bytes33 (a : Option Addr) (n c : Nat) (x : Nat → Tab) (node : Int) (w : World) (hn : n ≤ 9223372036854775807) (ht : Tabs w a n x) :
    Calls Try.prog 33 #[.slice a n c, .int .i64 node] w fun e w' => SaysFit n (lens x n) e ∧ w' = w := by
  have HT : Hid (Tabs w a n x) := ht
  clear ht
  go_enter Try.func33, Try.ntmps33
  by_cases hb1 : n ≤ 1048576
  rotate_left
  · have hgt : (1048576 : Int) < (n : Int) := by omega
    go_wp2
    go_ret; exact ⟨saysFit_no _ _, rfl⟩
  go_wp2
  go_loop [5, 6] (fun t i => ∃ k : Nat, k ≤ n ∧ i = .int .i64 k ∧ t = .int .i64 (n + lens x k : Nat) ∧ n + lens x k ≤ 1048576) (fun _ i => n - (intOf i).toNat)
  case atStart => exact ⟨0, Nat.zero_le _, rfl, by simp [lens], by simp [lens]; omega⟩
  case round =>
    obtain ⟨k, hk, rfl, rfl, hq⟩ := hrel
    by_cases hlt : k < n
    · rcases HT.out.1 with h | ⟨b, off, rfl, hc⟩
      · omega
      have hat := hc k hlt
      have hin := HT.out.2 k hlt
      have e4 := hat.c4
      have e5 := hat.c5
      have e6 := hat.c6
      have l4 := hin.fnl
      have l5 := hin.wnl
      have l6 := hin.bnl
      clear hc hat hin
      go_wp2
      iterate 6 (go_ret; exact ⟨saysFit_no _ _, rfl⟩)
      go_round
      case rel => exact ⟨k + 1, by omega, by go_num, by simp [lens]; omega, by simp only [lens]; omega⟩
      case measure => simp [intOf]; omega
    · have hkn : k = n := by omega
      go_wp2
      go_ret; exact ⟨saysFit_yes (hkn ▸ hq), rfl⟩
end Go.Proofs.Qxb6600017a
