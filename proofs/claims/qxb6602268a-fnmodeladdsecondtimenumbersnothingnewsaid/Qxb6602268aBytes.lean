/-
  Seat b6602268a: the functions that only count: they return, and turn nothing.
-/
import Derived.Test.Qxb6602268aTxn
namespace Go.Proofs.Qxb6602268a
open Go.RowKit Go.Maps

/-- It returns a number that is small and not negative. -/
def IsNat (e : Ending) : Prop := ∃ r : Int, e = .returned (.int .i64 r) ∧ 0 ≤ r ∧ r ≤ 4194304
theorem isNat_mk {r : Int} (h : 0 ≤ r ∧ r ≤ 4194304) : IsNat (.returned (.int .i64 r)) := ⟨r, rfl, h⟩

set_option maxHeartbeats 4000000 in
set_option maxRecDepth 100000 in
theorem bytes33 (cl c r : Int) (n1 c1 n2 c2 n3 c3 n4 c4 : Nat) (a1 a2 a3 a4 : Option Addr) (s1 s3 : Nat → ByteArray) (p2 p4 : Nat → Option Addr) (o : ByteArray) (w : World) (hn1 : n1 ≤ 9223372036854775807) (hn2 : n2 ≤ 9223372036854775807) (hn3 : n3 ≤ 9223372036854775807) (hn4 : n4 ≤ 9223372036854775807)
    (hs1 : ∀ i, (s1 i).size ≤ 9223372036854775807) (hs3 : ∀ i, (s3 i).size ≤ 9223372036854775807) (ho : o.size ≤ 9223372036854775807) (hp2 : ∀ i, i < n2 → GoodP w (p2 i)) (hp4 : ∀ i, i < n4 → GoodP w (p4 i))
    (hr1 : Row w a1 n1 fun i => .string (s1 i)) (hr2 : Row w a2 n2 fun i => .pointer (p2 i)) (hr3 : Row w a3 n3 fun i => .string (s3 i)) (hr4 : Row w a4 n4 fun i => .pointer (p4 i)) :
    Calls Try.prog 33 #[.int .i64 cl, .int .i64 c, .int .i64 r, .slice a1 n1 c1, .slice a2 n2 c2, .slice a3 n3 c3, .slice a4 n4 c4, .string o] w fun e w' => IsBool e ∧ w' = w := by
  have HR1 : Hid (Row w a1 n1 fun i => .string (s1 i)) := hr1
  have HR2 : Hid (Row w a2 n2 fun i => .pointer (p2 i)) := hr2
  have HR3 : Hid (Row w a3 n3 fun i => .string (s3 i)) := hr3
  have HR4 : Hid (Row w a4 n4 fun i => .pointer (p4 i)) := hr4
  have HS1 : Hid (∀ i, (s1 i).size ≤ 9223372036854775807) := hs1
  have HS3 : Hid (∀ i, (s3 i).size ≤ 9223372036854775807) := hs3
  have HP2 : Hid (∀ i, i < n2 → GoodP w (p2 i)) := hp2
  have HP4 : Hid (∀ i, i < n4 → GoodP w (p4 i)) := hp4
  clear hr1 hr2 hr3 hr4 hs1 hs3 hp2 hp4
  go_enter Try.func33, Try.ntmps33
  go_wp2
  · go_ret; exact ⟨isBool_mk _, rfl⟩
  go_loop [17, 18] (fun t i => ∃ k : Nat, k ≤ n1 ∧ i = .int .i64 k ∧ ∃ q : Int, t = .int .i64 q ∧ 0 ≤ q ∧ q ≤ 1048576) (fun _ i => n1 - (intOf i).toNat)
  case atStart => exact ⟨0, Nat.zero_le _, rfl, _, rfl, by omega, by omega⟩
  case round =>
    obtain ⟨k, hk, rfl, q, rfl, hq0, hq1⟩ := hrel
    by_cases hlt : k < n1
    · rcases HR1.out with h | ⟨b, off, rfl, hc⟩
      · omega
      have hcell := hc k hlt
      have hsk := HS1.out k
      clear hc
      go_wp2
      iterate 2 (go_ret; exact ⟨isBool_mk _, rfl⟩)
      go_round
      case rel => exact ⟨k + 1, by omega, by go_num, _, rfl, by omega, by omega⟩
      case measure => simp [intOf]; omega
    · clear hk
      go_wp2
      iterate 2 (go_ret; exact ⟨isBool_mk _, rfl⟩)
      go_loop [17, 19] (fun t i => ∃ k : Nat, k ≤ n2 ∧ i = .int .i64 k ∧ ∃ q : Int, t = .int .i64 q ∧ 0 ≤ q ∧ q ≤ 1048576) (fun _ i => n2 - (intOf i).toNat)
      case atStart => exact ⟨0, Nat.zero_le _, rfl, _, rfl, by omega, by omega⟩
      case round =>
        obtain ⟨k, hk, rfl, q, rfl, hq0, hq1⟩ := hrel
        by_cases hlt : k < n2
        · rcases HR2.out with h | ⟨b, off, rfl, hc⟩
          · omega
          have hcell := hc k hlt
          clear hc
          simp only [] at hcell
          rcases HP2.out k hlt with hnil | ⟨pa, s, hpa, hps, hsz⟩
          · rw [hnil] at hcell
            clear hnil
            go_wp2
            go_round
            case rel => exact ⟨k + 1, by omega, by go_num, _, rfl, by omega, by omega⟩
            case measure => simp [intOf]; omega
          · rw [hpa] at hcell
            clear hpa
            unfold maxLen at hsz
            go_wp2
            iterate 2 (go_ret; exact ⟨isBool_mk _, rfl⟩)
            go_round
            case rel => exact ⟨k + 1, by omega, by go_num, _, rfl, by omega, by omega⟩
            case measure => simp [intOf]; omega
        · clear hk
          go_wp2
          iterate 2 (go_ret; exact ⟨isBool_mk _, rfl⟩)
          go_loop [17, 20] (fun t i => ∃ k : Nat, k ≤ n3 ∧ i = .int .i64 k ∧ ∃ q : Int, t = .int .i64 q ∧ 0 ≤ q ∧ q ≤ 1048576) (fun _ i => n3 - (intOf i).toNat)
          case atStart => exact ⟨0, Nat.zero_le _, rfl, _, rfl, by omega, by omega⟩
          case round =>
            obtain ⟨k, hk, rfl, q, rfl, hq0, hq1⟩ := hrel
            by_cases hlt : k < n3
            · rcases HR3.out with h | ⟨b, off, rfl, hc⟩
              · omega
              have hcell := hc k hlt
              have hsk := HS3.out k
              clear hc
              go_wp2
              iterate 2 (go_ret; exact ⟨isBool_mk _, rfl⟩)
              go_round
              case rel => exact ⟨k + 1, by omega, by go_num, _, rfl, by omega, by omega⟩
              case measure => simp [intOf]; omega
            · clear hk
              go_wp2
              iterate 2 (go_ret; exact ⟨isBool_mk _, rfl⟩)
              go_loop [17, 21] (fun t i => ∃ k : Nat, k ≤ n4 ∧ i = .int .i64 k ∧ ∃ q : Int, t = .int .i64 q ∧ 0 ≤ q ∧ q ≤ 1048576) (fun _ i => n4 - (intOf i).toNat)
              case atStart => exact ⟨0, Nat.zero_le _, rfl, _, rfl, by omega, by omega⟩
              case round =>
                obtain ⟨k, hk, rfl, q, rfl, hq0, hq1⟩ := hrel
                by_cases hlt : k < n4
                · rcases HR4.out with h | ⟨b, off, rfl, hc⟩
                  · omega
                  have hcell := hc k hlt
                  clear hc
                  simp only [] at hcell
                  rcases HP4.out k hlt with hnil | ⟨pa, s, hpa, hps, hsz⟩
                  · rw [hnil] at hcell
                    clear hnil
                    go_wp2
                    go_round
                    case rel => exact ⟨k + 1, by omega, by go_num, _, rfl, by omega, by omega⟩
                    case measure => simp [intOf]; omega
                  · rw [hpa] at hcell
                    clear hpa
                    unfold maxLen at hsz
                    go_wp2
                    iterate 2 (go_ret; exact ⟨isBool_mk _, rfl⟩)
                    go_round
                    case rel => exact ⟨k + 1, by omega, by go_num, _, rfl, by omega, by omega⟩
                    case measure => simp [intOf]; omega
                · clear hk
                  go_wp2
                  iterate 2 (go_ret; exact ⟨isBool_mk _, rfl⟩)
                  go_ret; exact ⟨isBool_mk _, rfl⟩

set_option maxHeartbeats 1000000 in
set_option maxRecDepth 100000 in
theorem lens39 (q0 : Int) (n c : Nat) (a : Option Addr) (ss : Nat → ByteArray) (w : World) (hq : 0 ≤ q0 ∧ q0 ≤ 1048576) (hn : n ≤ 9223372036854775807) (hs : ∀ i, (ss i).size ≤ 9223372036854775807) (hr : Row w a n fun i => .string (ss i)) :
    Calls Try.prog 39 #[.int .i64 q0, .slice a n c] w fun e w' => IsNat e ∧ w' = w := by
  have HR : Hid (Row w a n fun i => .string (ss i)) := hr
  have HS : Hid (∀ i, (ss i).size ≤ 9223372036854775807) := hs
  clear hr hs
  obtain ⟨hq0, hq1⟩ := hq
  go_enter Try.func39, Try.ntmps39
  go_wp2
  go_loop [0, 5] (fun t i => ∃ k : Nat, k ≤ n ∧ i = .int .i64 k ∧ ∃ q : Int, t = .int .i64 q ∧ 0 ≤ q ∧ q ≤ 1048576) (fun _ i => n - (intOf i).toNat)
  case atStart => exact ⟨0, Nat.zero_le _, rfl, _, rfl, by omega, by omega⟩
  case round =>
    obtain ⟨k, hk, rfl, q, rfl, hq0, hq1⟩ := hrel
    by_cases hlt : k < n
    · rcases HR.out with h | ⟨b, off, rfl, hc⟩
      · omega
      have hcell := hc k hlt
      have hsk := HS.out k
      clear hc
      go_wp2
      · go_ret; exact ⟨isNat_mk (by omega), rfl⟩
      · go_ret; exact ⟨isNat_mk (by omega), rfl⟩
      go_round
      case rel => exact ⟨k + 1, by omega, by go_num, _, rfl, by omega, by omega⟩
      case measure => simp [intOf]; omega
    · clear hk
      go_wp2
      go_ret; exact ⟨isNat_mk (by omega), rfl⟩

set_option maxHeartbeats 1000000 in
set_option maxRecDepth 100000 in
theorem lens40 (q0 : Int) (n c : Nat) (a : Option Addr) (ps : Nat → Option Addr) (w : World) (hq : 0 ≤ q0 ∧ q0 ≤ 1048576) (hn : n ≤ 9223372036854775807) (hp : ∀ i, i < n → GoodP w (ps i)) (hr : Row w a n fun i => .pointer (ps i)) :
    Calls Try.prog 40 #[.int .i64 q0, .slice a n c] w fun e w' => IsNat e ∧ w' = w := by
  have HR : Hid (Row w a n fun i => .pointer (ps i)) := hr
  have HP : Hid (∀ i, i < n → GoodP w (ps i)) := hp
  clear hr hp
  obtain ⟨hq0, hq1⟩ := hq
  go_enter Try.func40, Try.ntmps40
  go_wp2
  go_loop [0, 5] (fun t i => ∃ k : Nat, k ≤ n ∧ i = .int .i64 k ∧ ∃ q : Int, t = .int .i64 q ∧ 0 ≤ q ∧ q ≤ 1048576) (fun _ i => n - (intOf i).toNat)
  case atStart => exact ⟨0, Nat.zero_le _, rfl, _, rfl, by omega, by omega⟩
  case round =>
    obtain ⟨k, hk, rfl, q, rfl, hq0, hq1⟩ := hrel
    by_cases hlt : k < n
    · rcases HR.out with h | ⟨b, off, rfl, hc⟩
      · omega
      have hcell := hc k hlt
      clear hc
      simp only [] at hcell
      rcases HP.out k hlt with hnil | ⟨pa, s, hpa, hps, hsz⟩
      · rw [hnil] at hcell
        clear hnil
        go_wp2
        go_round
        case rel => exact ⟨k + 1, by omega, by go_num, _, rfl, by omega, by omega⟩
        case measure => simp [intOf]; omega
      · rw [hpa] at hcell
        clear hpa
        unfold maxLen at hsz
        go_wp2
        · go_ret; exact ⟨isNat_mk (by omega), rfl⟩
        · go_ret; exact ⟨isNat_mk (by omega), rfl⟩
        go_round
        case rel => exact ⟨k + 1, by omega, by go_num, _, rfl, by omega, by omega⟩
        case measure => simp [intOf]; omega
    · clear hk
      go_wp2
      go_ret; exact ⟨isNat_mk (by omega), rfl⟩
end Go.Proofs.Qxb6602268a
