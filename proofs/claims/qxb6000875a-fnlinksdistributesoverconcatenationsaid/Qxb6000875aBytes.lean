/-
  Seat b6000875a: the functions that only count: they return, and turn nothing.
-/
import Derived.Test.Qxb6000875aBase
namespace Go.Proofs.Qxb6000875a
open Go.RowKit

theorem isBool_mk (r : Bool) : IsBool (.returned (.bool r)) := ⟨r, rfl⟩
theorem isInt_mk (r : Int) : IsInt (.returned (.int .i64 r)) := ⟨r, rfl⟩

set_option maxHeartbeats 400000 in
theorem bytes22_pos (b off n c : Nat) (ss : Nat → ByteArray) (w : World) (hn : n ≤ 9223372036854775807) (hs : ∀ i, (ss i).size ≤ 9223372036854775807)
    (hc : ∀ i, i < n → w.cell? ⟨b, off + i, none⟩ = some (.string (ss i))) :
    Calls Try.prog 22 #[.slice (some ⟨b, off, none⟩) n c] w fun e w' => IsBool e ∧ w' = w := by
  go_enter Try.func22, Try.ntmps22
  go_wp2
  · go_ret; exact ⟨isBool_mk _, rfl⟩
  · go_loop [3, 4] (fun t i => ∃ k : Nat, k ≤ n ∧ i = .int .i64 k ∧ ∃ q : Int, t = .int .i64 q ∧ 0 ≤ q ∧ q ≤ 1048576) (fun _ i => n - (intOf i).toNat)
    case atStart => exact ⟨0, Nat.zero_le _, rfl, _, rfl, by omega, by omega⟩
    case round =>
      obtain ⟨k, hk, rfl, q, rfl, hq0, hq1⟩ := hrel
      have hcell : k < n → w.cell? ⟨b, off + k, none⟩ = some (.string (ss k)) := fun h => hc k h
      have hsk := hs k
      clear hc hs
      go_wp2
      · go_ret; exact ⟨isBool_mk _, rfl⟩
      · go_ret; exact ⟨isBool_mk _, rfl⟩
      · go_round
        case rel => exact ⟨k + 1, by omega, by go_num, _, rfl, by omega, by omega⟩
        case measure => simp [intOf]; omega
      · go_ret; exact ⟨isBool_mk _, rfl⟩

set_option maxHeartbeats 400000 in
theorem bytes22_nil (a : Option Addr) (c : Nat) (w : World) :
    Calls Try.prog 22 #[.slice a 0 c] w fun e w' => IsBool e ∧ w' = w := by
  go_enter Try.func22, Try.ntmps22
  go_wp2
  refine wp_loop_rounds 1 ?_
  rw [rounds_succ]
  go_wp2
  go_ret; exact ⟨isBool_mk _, rfl⟩

/-- zzBytes_FnLinksIdempotent: it returns some bool. -/
theorem bytes22 (a : Option Addr) (n c : Nat) (ss : Nat → ByteArray) (w : World) (hn : n ≤ 9223372036854775807) (hs : ∀ i, (ss i).size ≤ 9223372036854775807)
    (hr : Row w a n fun i => .string (ss i)) :
    Calls Try.prog 22 #[.slice a n c] w fun e w' => IsBool e ∧ w' = w := by
  rcases hr with rfl | ⟨b, off, rfl, hc⟩
  · exact bytes22_nil a c w
  · exact bytes22_pos b off n c ss w hn hs hc

set_option maxHeartbeats 400000 in
theorem len10_pos (b off n c : Nat) (ss : Nat → ByteArray) (w : World) (hn : n ≤ 9223372036854775807) (hs : ∀ i, (ss i).size ≤ 9223372036854775807)
    (hc : ∀ i, i < n → w.cell? ⟨b, off + i, none⟩ = some (.string (ss i))) :
    Calls Try.prog 10 #[.slice (some ⟨b, off, none⟩) n c] w fun e w' => IsInt e ∧ w' = w := by
  go_enter Try.func10, Try.ntmps10
  go_wp2
  · go_ret; exact ⟨isInt_mk _, rfl⟩
  · go_loop [3, 4] (fun t i => ∃ k : Nat, k ≤ n ∧ i = .int .i64 k ∧ ∃ q : Int, t = .int .i64 q ∧ 0 ≤ q ∧ q ≤ 1048576) (fun _ i => n - (intOf i).toNat)
    case atStart => exact ⟨0, Nat.zero_le _, rfl, _, rfl, by omega, by omega⟩
    case round =>
      obtain ⟨k, hk, rfl, q, rfl, hq0, hq1⟩ := hrel
      have hcell : k < n → w.cell? ⟨b, off + k, none⟩ = some (.string (ss k)) := fun h => hc k h
      have hsk := hs k
      clear hc hs
      go_wp2
      · go_ret; exact ⟨isInt_mk _, rfl⟩
      · go_ret; exact ⟨isInt_mk _, rfl⟩
      · go_round
        case rel => exact ⟨k + 1, by omega, by go_num, _, rfl, by omega, by omega⟩
        case measure => simp [intOf]; omega
      · go_ret; exact ⟨isInt_mk _, rfl⟩

set_option maxHeartbeats 400000 in
theorem len10_nil (a : Option Addr) (c : Nat) (w : World) :
    Calls Try.prog 10 #[.slice a 0 c] w fun e w' => IsInt e ∧ w' = w := by
  go_enter Try.func10, Try.ntmps10
  go_wp2
  refine wp_loop_rounds 1 ?_
  rw [rounds_succ]
  go_wp2
  go_ret; exact ⟨isInt_mk _, rfl⟩

/-- zzStringsBytesB1: it returns some int. -/
theorem len10 (a : Option Addr) (n c : Nat) (ss : Nat → ByteArray) (w : World) (hn : n ≤ 9223372036854775807) (hs : ∀ i, (ss i).size ≤ 9223372036854775807)
    (hr : Row w a n fun i => .string (ss i)) :
    Calls Try.prog 10 #[.slice a n c] w fun e w' => IsInt e ∧ w' = w := by
  rcases hr with rfl | ⟨b, off, rfl, hc⟩
  · exact len10_nil a c w
  · exact len10_pos b off n c ss w hn hs hc
end Go.Proofs.Qxb6000875a
