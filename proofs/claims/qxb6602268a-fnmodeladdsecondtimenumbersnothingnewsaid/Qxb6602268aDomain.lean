/-
  Seat b6602268a: zzAddInDomain: it returns some bool.
-/
import Derived.Test.Qxb6602268aBytes
namespace Go.Proofs.Qxb6602268a
open Go.RowKit Go.Maps

set_option maxHeartbeats 4000000 in
set_option maxRecDepth 100000 in
theorem dom18 (n1 c1 n2 c2 n3 c3 n4 c4 : Nat) (a1 a2 a3 a4 : Option Addr) (s1 s3 : Nat → ByteArray) (p2 p4 : Nat → Option Addr) (o : ByteArray) (w : World) (hn1 : n1 ≤ 1048576) (hn2 : n2 ≤ 1048576) (hn3 : n3 ≤ 1048576) (hn4 : n4 ≤ 1048576)
    (hs1 : ∀ i, (s1 i).size ≤ 9223372036854775807) (hs3 : ∀ i, (s3 i).size ≤ 9223372036854775807) (ho : o.size ≤ 1048576) (hp2 : ∀ i, i < n2 → GoodP w (p2 i)) (hp4 : ∀ i, i < n4 → GoodP w (p4 i))
    (hr1 : Row w a1 n1 fun i => .string (s1 i)) (hr2 : Row w a2 n2 fun i => .pointer (p2 i)) (hr3 : Row w a3 n3 fun i => .string (s3 i)) (hr4 : Row w a4 n4 fun i => .pointer (p4 i)) :
    Calls Try.prog 18 #[.slice none 0 0, .slice none 0 0, .slice none 0 0, .slice none 0 0, .slice a1 n1 c1, .slice a2 n2 c2, .slice a3 n3 c3, .slice a4 n4 c4, .string o] w fun e w' => IsBool e ∧ w' = w := by
  have HR1 : Hid (Row w a1 n1 fun i => .string (s1 i)) := hr1
  have HR2 : Hid (Row w a2 n2 fun i => .pointer (p2 i)) := hr2
  have HR3 : Hid (Row w a3 n3 fun i => .string (s3 i)) := hr3
  have HR4 : Hid (Row w a4 n4 fun i => .pointer (p4 i)) := hr4
  have HS1 : Hid (∀ i, (s1 i).size ≤ 9223372036854775807) := hs1
  have HS3 : Hid (∀ i, (s3 i).size ≤ 9223372036854775807) := hs3
  have HP2 : Hid (∀ i, i < n2 → GoodP w (p2 i)) := hp2
  have HP4 : Hid (∀ i, i < n4 → GoodP w (p4 i)) := hp4
  clear hr1 hr2 hr3 hr4 hs1 hs3 hp2 hp4
  go_enter Try.func18, Try.ntmps18
  go_wp2_with fail
  · go_ret; exact ⟨isBool_mk _, rfl⟩
  refine (lens39 _ 0 0 none (fun _ => ⟨#[]⟩) _ (by omega) (by omega) (fun _ => by decide) (.inl rfl)).mono ?_
  rintro e w1 ⟨⟨q1, rfl, hq1⟩, rfl⟩
  go_wp2_with fail
  · go_ret; exact ⟨isBool_mk _, rfl⟩
  refine (lens39 _ 0 0 none (fun _ => ⟨#[]⟩) _ (by omega) (by omega) (fun _ => by decide) (.inl rfl)).mono ?_
  rintro e w2 ⟨⟨q2, rfl, hq2⟩, rfl⟩
  go_wp2_with fail
  · go_ret; exact ⟨isBool_mk _, rfl⟩
  refine (lens39 _ n1 c1 a1 s1 _ (by omega) (by omega) HS1.out HR1.out).mono ?_
  rintro e w3 ⟨⟨q3, rfl, hq3⟩, rfl⟩
  go_wp2_with fail
  · go_ret; exact ⟨isBool_mk _, rfl⟩
  refine (lens39 _ n3 c3 a3 s3 _ (by omega) (by omega) HS3.out HR3.out).mono ?_
  rintro e w4 ⟨⟨q4, rfl, hq4⟩, rfl⟩
  go_wp2_with fail
  · go_ret; exact ⟨isBool_mk _, rfl⟩
  refine (lens40 _ n2 c2 a2 p2 _ (by omega) (by omega) HP2.out HR2.out).mono ?_
  rintro e w5 ⟨⟨q5, rfl, hq5⟩, rfl⟩
  go_wp2_with fail
  · go_ret; exact ⟨isBool_mk _, rfl⟩
  refine (lens40 _ n4 c4 a4 p4 _ (by omega) (by omega) HP4.out HR4.out).mono ?_
  rintro e w6 ⟨⟨q6, rfl, hq6⟩, rfl⟩
  go_wp2_with fail
  go_ret; exact ⟨isBool_mk _, rfl⟩
end Go.Proofs.Qxb6602268a
