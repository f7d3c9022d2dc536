/-
  Seat b6602119a: the functions that only count: they return, and turn nothing.
-/
import Derived.Test.Qxb6602119aBase
namespace Go.Proofs.Qxb6602119a
open Go.RowKit

theorem isBool_mk (r : Bool) : IsBool (.returned (.bool r)) := ⟨r, rfl⟩
theorem isInt_mk (r : Int) : IsInt (.returned (.int .i64 r)) := ⟨r, rfl⟩

set_option maxHeartbeats 2000000 in
theorem bytes12 (a1 a2 a3 : Option Addr) (n1 c1 n2 c2 n3 c3 : Nat) (s1 s2 s3 : Nat → ByteArray) (w : World) (hn1 : n1 ≤ 9223372036854775807) (hn2 : n2 ≤ 9223372036854775807) (hn3 : n3 ≤ 9223372036854775807)
    (hs1 : ∀ i, (s1 i).size ≤ 9223372036854775807) (hs2 : ∀ i, (s2 i).size ≤ 9223372036854775807) (hs3 : ∀ i, (s3 i).size ≤ 9223372036854775807)
    (hr1 : Row w a1 n1 fun i => .string (s1 i)) (hr2 : Row w a2 n2 fun i => .string (s2 i)) (hr3 : Row w a3 n3 fun i => .string (s3 i)) :
    Calls Try.prog 12 #[.slice a1 n1 c1, .slice a2 n2 c2, .slice a3 n3 c3] w fun e w' => IsBool e ∧ w' = w := by
  have HR1 : Hid (Row w a1 n1 fun i => .string (s1 i)) := hr1
  have HR2 : Hid (Row w a2 n2 fun i => .string (s2 i)) := hr2
  have HR3 : Hid (Row w a3 n3 fun i => .string (s3 i)) := hr3
  have HS1 : Hid (∀ i, (s1 i).size ≤ 9223372036854775807) := hs1
  have HS2 : Hid (∀ i, (s2 i).size ≤ 9223372036854775807) := hs2
  have HS3 : Hid (∀ i, (s3 i).size ≤ 9223372036854775807) := hs3
  clear hr1 hr2 hr3 hs1 hs2 hs3
  go_enter Try.func12, Try.ntmps12
  by_cases hb1 : n1 ≤ 1048576
  rotate_left
  · have hgt : (1048576 : Int) < (n1 : Int) := by omega
    go_wp2
    go_ret; exact ⟨isBool_mk _, rfl⟩
  go_wp2
  go_loop [7, 8] (fun t i => ∃ k : Nat, k ≤ n1 ∧ i = .int .i64 k ∧ ∃ q : Int, t = .int .i64 q ∧ 0 ≤ q ∧ q ≤ 1048576) (fun _ i => n1 - (intOf i).toNat)
  case atStart => exact ⟨0, Nat.zero_le _, rfl, _, rfl, by omega, by omega⟩
  case round =>
    obtain ⟨k, hk, rfl, q, rfl, hq0, hq1⟩ := hrel
    by_cases hlt : k < n1
    · rcases HR1.out with h | ⟨b, off, rfl, hc⟩
      · omega
      have hcell : w.cell? ⟨b, off + k, none⟩ = some (.string (s1 k)) := hc k hlt
      have hsk := HS1.out k
      clear hc
      go_wp2
      · go_ret; exact ⟨isBool_mk _, rfl⟩
      · go_ret; exact ⟨isBool_mk _, rfl⟩
      · go_round
        case rel => exact ⟨k + 1, by omega, by go_num, _, rfl, by omega, by omega⟩
        case measure => simp [intOf]; omega
    · by_cases hb2 : n2 ≤ 1048576
      rotate_left
      · have hgt : (1048576 : Int) < (n2 : Int) := by omega
        go_wp2
        go_ret; exact ⟨isBool_mk _, rfl⟩
      by_cases hbs2 : (1048576 : Int) < q + (n2 : Int)
      · go_wp2
        go_ret; exact ⟨isBool_mk _, rfl⟩
      go_wp2
      go_loop [7, 9] (fun t i => ∃ k : Nat, k ≤ n2 ∧ i = .int .i64 k ∧ ∃ q : Int, t = .int .i64 q ∧ 0 ≤ q ∧ q ≤ 1048576) (fun _ i => n2 - (intOf i).toNat)
      case atStart => exact ⟨0, Nat.zero_le _, rfl, _, rfl, by omega, by omega⟩
      case round =>
        obtain ⟨k, hk, rfl, q, rfl, hq0, hq1⟩ := hrel
        by_cases hlt : k < n2
        · rcases HR2.out with h | ⟨b, off, rfl, hc⟩
          · omega
          have hcell : w.cell? ⟨b, off + k, none⟩ = some (.string (s2 k)) := hc k hlt
          have hsk := HS2.out k
          clear hc
          go_wp2
          · go_ret; exact ⟨isBool_mk _, rfl⟩
          · go_ret; exact ⟨isBool_mk _, rfl⟩
          · go_round
            case rel => exact ⟨k + 1, by omega, by go_num, _, rfl, by omega, by omega⟩
            case measure => simp [intOf]; omega
        · by_cases hb3 : n3 ≤ 1048576
          rotate_left
          · have hgt : (1048576 : Int) < (n3 : Int) := by omega
            go_wp2
            go_ret; exact ⟨isBool_mk _, rfl⟩
          by_cases hbs3 : (1048576 : Int) < q + (n3 : Int)
          · go_wp2
            go_ret; exact ⟨isBool_mk _, rfl⟩
          go_wp2
          go_loop [7, 10] (fun t i => ∃ k : Nat, k ≤ n3 ∧ i = .int .i64 k ∧ ∃ q : Int, t = .int .i64 q ∧ 0 ≤ q ∧ q ≤ 1048576) (fun _ i => n3 - (intOf i).toNat)
          case atStart => exact ⟨0, Nat.zero_le _, rfl, _, rfl, by omega, by omega⟩
          case round =>
            obtain ⟨k, hk, rfl, q, rfl, hq0, hq1⟩ := hrel
            by_cases hlt : k < n3
            · rcases HR3.out with h | ⟨b, off, rfl, hc⟩
              · omega
              have hcell : w.cell? ⟨b, off + k, none⟩ = some (.string (s3 k)) := hc k hlt
              have hsk := HS3.out k
              clear hc
              go_wp2
              · go_ret; exact ⟨isBool_mk _, rfl⟩
              · go_ret; exact ⟨isBool_mk _, rfl⟩
              · go_round
                case rel => exact ⟨k + 1, by omega, by go_num, _, rfl, by omega, by omega⟩
                case measure => simp [intOf]; omega
            · go_wp2
              go_ret; exact ⟨isBool_mk _, rfl⟩

set_option maxHeartbeats 2000000 in
theorem bytes13 (a1 a2 a3 : Option Addr) (n1 c1 n2 c2 n3 c3 : Nat) (s1 s2 s3 : Nat → ByteArray) (w : World) (hn1 : n1 ≤ 9223372036854775807) (hn2 : n2 ≤ 9223372036854775807) (hn3 : n3 ≤ 9223372036854775807)
    (hs1 : ∀ i, (s1 i).size ≤ 9223372036854775807) (hs2 : ∀ i, (s2 i).size ≤ 9223372036854775807) (hs3 : ∀ i, (s3 i).size ≤ 9223372036854775807)
    (hr1 : Row w a1 n1 fun i => .string (s1 i)) (hr2 : Row w a2 n2 fun i => .string (s2 i)) (hr3 : Row w a3 n3 fun i => .string (s3 i)) :
    Calls Try.prog 13 #[.slice a1 n1 c1, .slice a2 n2 c2, .slice a3 n3 c3] w fun e w' => IsBool e ∧ w' = w := by
  have HR1 : Hid (Row w a1 n1 fun i => .string (s1 i)) := hr1
  have HR2 : Hid (Row w a2 n2 fun i => .string (s2 i)) := hr2
  have HR3 : Hid (Row w a3 n3 fun i => .string (s3 i)) := hr3
  have HS1 : Hid (∀ i, (s1 i).size ≤ 9223372036854775807) := hs1
  have HS2 : Hid (∀ i, (s2 i).size ≤ 9223372036854775807) := hs2
  have HS3 : Hid (∀ i, (s3 i).size ≤ 9223372036854775807) := hs3
  clear hr1 hr2 hr3 hs1 hs2 hs3
  go_enter Try.func13, Try.ntmps13
  by_cases hb1 : n1 ≤ 1048576
  rotate_left
  · have hgt : (1048576 : Int) < (n1 : Int) := by omega
    go_wp2
    go_ret; exact ⟨isBool_mk _, rfl⟩
  go_wp2
  go_loop [7, 8] (fun t i => ∃ k : Nat, k ≤ n1 ∧ i = .int .i64 k ∧ ∃ q : Int, t = .int .i64 q ∧ 0 ≤ q ∧ q ≤ 1048576) (fun _ i => n1 - (intOf i).toNat)
  case atStart => exact ⟨0, Nat.zero_le _, rfl, _, rfl, by omega, by omega⟩
  case round =>
    obtain ⟨k, hk, rfl, q, rfl, hq0, hq1⟩ := hrel
    by_cases hlt : k < n1
    · rcases HR1.out with h | ⟨b, off, rfl, hc⟩
      · omega
      have hcell : w.cell? ⟨b, off + k, none⟩ = some (.string (s1 k)) := hc k hlt
      have hsk := HS1.out k
      clear hc
      go_wp2
      · go_ret; exact ⟨isBool_mk _, rfl⟩
      · go_ret; exact ⟨isBool_mk _, rfl⟩
      · go_round
        case rel => exact ⟨k + 1, by omega, by go_num, _, rfl, by omega, by omega⟩
        case measure => simp [intOf]; omega
    · by_cases hb2 : n2 ≤ 1048576
      rotate_left
      · have hgt : (1048576 : Int) < (n2 : Int) := by omega
        go_wp2
        go_ret; exact ⟨isBool_mk _, rfl⟩
      by_cases hbs2 : (1048576 : Int) < q + (n2 : Int)
      · go_wp2
        go_ret; exact ⟨isBool_mk _, rfl⟩
      go_wp2
      go_loop [7, 9] (fun t i => ∃ k : Nat, k ≤ n2 ∧ i = .int .i64 k ∧ ∃ q : Int, t = .int .i64 q ∧ 0 ≤ q ∧ q ≤ 1048576) (fun _ i => n2 - (intOf i).toNat)
      case atStart => exact ⟨0, Nat.zero_le _, rfl, _, rfl, by omega, by omega⟩
      case round =>
        obtain ⟨k, hk, rfl, q, rfl, hq0, hq1⟩ := hrel
        by_cases hlt : k < n2
        · rcases HR2.out with h | ⟨b, off, rfl, hc⟩
          · omega
          have hcell : w.cell? ⟨b, off + k, none⟩ = some (.string (s2 k)) := hc k hlt
          have hsk := HS2.out k
          clear hc
          go_wp2
          · go_ret; exact ⟨isBool_mk _, rfl⟩
          · go_ret; exact ⟨isBool_mk _, rfl⟩
          · go_round
            case rel => exact ⟨k + 1, by omega, by go_num, _, rfl, by omega, by omega⟩
            case measure => simp [intOf]; omega
        · by_cases hb3 : n3 ≤ 1048576
          rotate_left
          · have hgt : (1048576 : Int) < (n3 : Int) := by omega
            go_wp2
            go_ret; exact ⟨isBool_mk _, rfl⟩
          by_cases hbs3 : (1048576 : Int) < q + (n3 : Int)
          · go_wp2
            go_ret; exact ⟨isBool_mk _, rfl⟩
          go_wp2
          go_loop [7, 10] (fun t i => ∃ k : Nat, k ≤ n3 ∧ i = .int .i64 k ∧ ∃ q : Int, t = .int .i64 q ∧ 0 ≤ q ∧ q ≤ 1048576) (fun _ i => n3 - (intOf i).toNat)
          case atStart => exact ⟨0, Nat.zero_le _, rfl, _, rfl, by omega, by omega⟩
          case round =>
            obtain ⟨k, hk, rfl, q, rfl, hq0, hq1⟩ := hrel
            by_cases hlt : k < n3
            · rcases HR3.out with h | ⟨b, off, rfl, hc⟩
              · omega
              have hcell : w.cell? ⟨b, off + k, none⟩ = some (.string (s3 k)) := hc k hlt
              have hsk := HS3.out k
              clear hc
              go_wp2
              · go_ret; exact ⟨isBool_mk _, rfl⟩
              · go_ret; exact ⟨isBool_mk _, rfl⟩
              · go_round
                case rel => exact ⟨k + 1, by omega, by go_num, _, rfl, by omega, by omega⟩
                case measure => simp [intOf]; omega
            · go_wp2
              go_ret; exact ⟨isBool_mk _, rfl⟩

end Go.Proofs.Qxb6602119a
