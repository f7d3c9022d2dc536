/-
  Seat b6000875a: zzBytes_FnLinksDistributesOverConcatenation: it returns some bool and turns nothing.
-/
import Derived.Test.Qxb6000875aBytes
namespace Go.Proofs.Qxb6000875a
open Go.RowKit

set_option maxHeartbeats 1000000 in
theorem bytes23 (a1 a2 : Option Addr) (n1 c1 n2 c2 : Nat) (s1 s2 : Nat → ByteArray) (w : World) (hn1 : n1 ≤ 9223372036854775807) (hn2 : n2 ≤ 9223372036854775807)
    (hs1 : ∀ i, (s1 i).size ≤ 9223372036854775807) (hs2 : ∀ i, (s2 i).size ≤ 9223372036854775807)
    (hr1 : Row w a1 n1 fun i => .string (s1 i)) (hr2 : Row w a2 n2 fun i => .string (s2 i)) :
    Calls Try.prog 23 #[.slice a1 n1 c1, .slice a2 n2 c2] w fun e w' => IsBool e ∧ w' = w := by
  have HR1 : Hid (Row w a1 n1 fun i => .string (s1 i)) := hr1
  have HR2 : Hid (Row w a2 n2 fun i => .string (s2 i)) := hr2
  have HS1 : Hid (∀ i, (s1 i).size ≤ 9223372036854775807) := hs1
  have HS2 : Hid (∀ i, (s2 i).size ≤ 9223372036854775807) := hs2
  clear hr1 hr2 hs1 hs2
  go_enter Try.func23, Try.ntmps23
  by_cases hb1 : n1 ≤ 1048576
  rotate_left
  · have hgt : (1048576 : Int) < (n1 : Int) := by omega
    go_wp2
    go_ret; exact ⟨isBool_mk _, rfl⟩
  go_wp2
  go_loop [5, 6] (fun t i => ∃ k : Nat, k ≤ n1 ∧ i = .int .i64 k ∧ ∃ q : Int, t = .int .i64 q ∧ 0 ≤ q ∧ q ≤ 1048576) (fun _ i => n1 - (intOf i).toNat)
  case atStart => exact ⟨0, Nat.zero_le _, rfl, _, rfl, by omega, by omega⟩
  case round =>
    obtain ⟨k, hk, rfl, q, rfl, hq0, hq1⟩ := hrel
    by_cases hlt : k < n1
    · rcases HR1.out with h | ⟨b, off, rfl, hc⟩
      · omega
      have hcell : w.cell? ⟨b, off + k, none⟩ = some (.string (s1 k)) := hc k hlt
      have hsk := HS1.out k
      clear hc
      go_wp2
      · go_ret; exact ⟨isBool_mk _, rfl⟩
      · go_ret; exact ⟨isBool_mk _, rfl⟩
      · go_round
        case rel => exact ⟨k + 1, by omega, by go_num, _, rfl, by omega, by omega⟩
        case measure => simp [intOf]; omega
    · by_cases hb2 : n2 ≤ 1048576
      rotate_left
      · have hgt : (1048576 : Int) < (n2 : Int) := by omega
        go_wp2
        go_ret; exact ⟨isBool_mk _, rfl⟩
      by_cases hb3 : (1048576 : Int) < q + (n2 : Int)
      · go_wp2
        go_ret; exact ⟨isBool_mk _, rfl⟩
      go_wp2
      go_loop [5, 7] (fun t i => ∃ k : Nat, k ≤ n2 ∧ i = .int .i64 k ∧ ∃ q : Int, t = .int .i64 q ∧ 0 ≤ q ∧ q ≤ 1048576) (fun _ i => n2 - (intOf i).toNat)
      case atStart => exact ⟨0, Nat.zero_le _, rfl, _, rfl, by omega, by omega⟩
      case round =>
        obtain ⟨k, hk, rfl, q, rfl, hq0, hq1⟩ := hrel
        by_cases hlt : k < n2
        · rcases HR2.out with h | ⟨b, off, rfl, hc⟩
          · omega
          have hcell : w.cell? ⟨b, off + k, none⟩ = some (.string (s2 k)) := hc k hlt
          have hsk := HS2.out k
          clear hc
          go_wp2
          · go_ret; exact ⟨isBool_mk _, rfl⟩
          · go_ret; exact ⟨isBool_mk _, rfl⟩
          · go_round
            case rel => exact ⟨k + 1, by omega, by go_num, _, rfl, by omega, by omega⟩
            case measure => simp [intOf]; omega
        · go_wp2
          go_ret; exact ⟨isBool_mk _, rfl⟩
end Go.Proofs.Qxb6000875a
