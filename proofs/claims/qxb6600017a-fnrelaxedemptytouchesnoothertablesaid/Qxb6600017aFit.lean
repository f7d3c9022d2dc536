/-
  Seat b6600017a: zzTableBytes_b1, zzTablesFit_b1, zzPeer_b1: they return, and turn nothing that was there.
-/
import Derived.Test.Qxb6600017aBytes
namespace Go.Proofs.Qxb6600017a
open Go.RowKit

def IsInt (e : Ending) : Prop := ∃ r : Int, e = .returned (.int .i64 r)
theorem isInt_mk (r : Int) : IsInt (.returned (.int .i64 r)) := ⟨r, rfl⟩

set_option maxHeartbeats 1000000 in
theorem tableBytes22 (x : Tab) (w : World) (l4 : x.fn ≤ 9223372036854775807) (l5 : x.wn ≤ 9223372036854775807) (l6 : x.bn ≤ 9223372036854775807) :
    Calls Try.prog 22 #[x.val] w fun e w' => IsInt e ∧ Below w.heap.size w w' := by
  unfold Tab.val
  by_cases h4 : x.fn ≤ 1048576
  rotate_left
  · have hd4 : decide ((1048576 : Int) < (x.fn : Int)) = true := by simp; omega
    have hd4' : (1048576 : Int) < (x.fn : Int) := by omega
    go_enter Try.func22, Try.ntmps22
    go_wp2
    go_ret
    exact ⟨isInt_mk _, (Below.refl _ _).alloc (Nat.le_refl _) _⟩
  have hd4 : decide ((1048576 : Int) < (x.fn : Int)) = false := by simp; omega
  by_cases h5 : x.wn ≤ 1048576
  rotate_left
  · have hd5 : decide ((1048576 : Int) < (x.wn : Int)) = true := by simp; omega
    have hd5' : (1048576 : Int) < (x.wn : Int) := by omega
    go_enter Try.func22, Try.ntmps22
    go_wp2
    go_ret
    exact ⟨isInt_mk _, (Below.refl _ _).alloc (Nat.le_refl _) _⟩
  have hd5 : decide ((1048576 : Int) < (x.wn : Int)) = false := by simp; omega
  by_cases h6 : x.bn ≤ 1048576
  rotate_left
  · have hd6 : decide ((1048576 : Int) < (x.bn : Int)) = true := by simp; omega
    have hd6' : (1048576 : Int) < (x.bn : Int) := by omega
    go_enter Try.func22, Try.ntmps22
    go_wp2
    go_ret
    exact ⟨isInt_mk _, (Below.refl _ _).alloc (Nat.le_refl _) _⟩
  have hd6 : decide ((1048576 : Int) < (x.bn : Int)) = false := by simp; omega
  go_enter Try.func22, Try.ntmps22
  go_wp2
  go_ret
  exact ⟨isInt_mk _, (Below.refl _ _).alloc (Nat.le_refl _) _⟩

set_option maxHeartbeats 1000000 in
theorem tablesFit11 (a : Option Addr) (n c : Nat) (x : Nat → Tab) (w : World) (hn : n ≤ 9223372036854775807) (ht : Tabs w a n x) :
    Calls Try.prog 11 #[.slice a n c] w fun e w' => IsBool e ∧ Below w.heap.size w w' := by
  have HT : Hid (Tabs w a n x) := ht
  clear ht
  go_enter Try.func11, Try.ntmps11
  by_cases hb1 : n ≤ 65536
  rotate_left
  · have hgt : (65536 : Int) < (n : Int) := by omega
    go_wp2
    go_ret; exact ⟨isBool_mk _, Below.refl _ _⟩
  go_wp2
  go_loopw [3, 4] (fun t i wr => ∃ k : Nat, k ≤ n ∧ i = .int .i64 k ∧ ∃ q : Int, t = .int .i64 q ∧ Below w.heap.size w wr) (fun _ i _ => n - (intOf i).toNat)
  case atStart => exact ⟨0, Nat.zero_le _, rfl, _, rfl, Below.refl _ _⟩
  case round =>
    obtain ⟨k, hk, rfl, q, rfl, hbel⟩ := hrel
    by_cases hlt : k < n
    · rcases HT.out.1 with h | ⟨b, off, rfl, hc⟩
      · omega
      have hat := (hc k hlt).later hbel
      have hin := HT.out.2 k hlt
      have e0 := hat.c0
      have e1 := hat.c1
      have e2 := hat.c2
      have e3 := hat.c3
      have e4 := hat.c4
      have e5 := hat.c5
      have e6 := hat.c6
      have l4 := hin.fnl
      have l5 := hin.wnl
      have l6 := hin.bnl
      clear hc hat hin
      go_wp2_with (go_at_call 22; refine (tableBytes22 (x k) _ l4 l5 l6).mono ?_; rintro e w2 ⟨⟨q2, rfl⟩, hbel2⟩)
      · have hb' : Below w.heap.size w w2 := hbel.trans (hbel2.mono hbel.size)
        go_ret; exact ⟨isBool_mk _, hb'⟩
      · have hb' : Below w.heap.size w w2 := hbel.trans (hbel2.mono hbel.size)
        go_roundw
        case rel => exact ⟨k + 1, by omega, by go_num, _, rfl, hb'⟩
        case measure => simp [intOf]; omega
    · go_wp2
      go_ret; exact ⟨isBool_mk _, hbel⟩
end Go.Proofs.Qxb6600017a
