/-
  Seat b6602268a: THE STATEMENT Rows.FnModelAddSecondTimeNumbersNothingNewSaid, PROVED.
-/
import Derived.Test.Qxb6602268aLaw6
import Derived.Test.Qxb6602268aIn
import Derived.OpenShut
import Derived.ChangeMaps5
namespace Go.Proofs.Qxb6602268a
open Go.ChangeShapes Go.WideShapes Go.ChangeAt Go.RowKit

set_option maxRecDepth 100000 in
theorem lifted6 (os : Os) (started : os.Started) (H : Type) (enc : TypeId × Value → H) :
    ReturnsInHanded {} Try.checked os 6 .any (Rows.fnModelAddSecondTimeNumbersNothingNewSpec.pre6 enc Try.prog Try.f6 Rows.fnModelAddSecondTimeNumbersNothingNewRow.domain false) (Rows.fnModelAddSecondTimeNumbersNothingNewSpec.post enc Try.prog Try.f6 false true false false) := by
  refine returnsInHanded_of_change (C := Try.checked) own started (by kernel_rfl) Try.func6
    (ChangeSpec.witness6 (enc := enc) (C := Try.checked) false ⟨#[], #[.int .i64 0, .int .i64 0, .int .i64 0, .slice none 0 0, .slice none 0 0, .slice none 0 0, .slice none 0 0, .string ⟨#[]⟩], []⟩ 8 (by kernel_rfl) (by kernel_rfl) (by kernel_rfl) (by kernel_rfl)) ?_
  intro W base args ds gs before hval0 hW hcnd _
  have hval : ∀ (j : Nat) t v, Try.f6.params[j]? = some t → args[j]? = some v → Value.okWide Try.prog W .any base t v := hval0
  have hW' := hW
  obtain ⟨p, q, hA0, hV, rfl, hfz, hnd⟩ := hW
  have hA : DataW.TrodAll enc Try.prog W 0 (fun _ => true) true Try.f6.params.toList args.toList ds p := hA0
  rw [Try.params6] at hA hval
  obtain ⟨v0, vs0, d0, ds0, p0, q0, hargs, rfl, rfl, h0, r0⟩ := trodAll_cons hA
  obtain ⟨v1, vs1, d1, ds1, p1, q1, rfl, rfl, rfl, h1, r1⟩ := trodAll_cons r0
  obtain ⟨v2, vs2, d2, ds2, p2, q2, rfl, rfl, rfl, h2, r2⟩ := trodAll_cons r1
  obtain ⟨v3, vs3, d3, ds3, p3, q3, rfl, rfl, rfl, h3, r3⟩ := trodAll_cons r2
  obtain ⟨v4, vs4, d4, ds4, p4, q4, rfl, rfl, rfl, h4, r4⟩ := trodAll_cons r3
  obtain ⟨v5, vs5, d5, ds5, p5, q5, rfl, rfl, rfl, h5, r5⟩ := trodAll_cons r4
  obtain ⟨v6, vs6, d6, ds6, p6, q6, rfl, rfl, rfl, h6, r6⟩ := trodAll_cons r5
  obtain ⟨v7, vs7, d7, ds7, p7, q7, rfl, rfl, rfl, h7, r7⟩ := trodAll_cons r6
  obtain ⟨rfl, rfl, rfl⟩ := trodAll_nil r7
  obtain rfl : args = #[v0, v1, v2, v3, v4, v5, v6, v7] := by cases args; simp_all
  obtain ⟨rfl, rfl⟩ := trodVars_none hV
  obtain ⟨cl, rfl, rfl, rfl, hw0⟩ := open_int Try.underlying3 (hval 0 3 v0 rfl rfl) h0
  obtain ⟨c, rfl, rfl, rfl, hw1⟩ := open_int Try.underlying2 (hval 1 2 v1 rfl rfl) h1
  obtain ⟨r, rfl, rfl, rfl, hw2⟩ := open_int Try.underlying2 (hval 2 2 v2 rfl rfl) h2
  obtain ⟨a3, n3, c3, ss3, rfl, hn3, hs3, hr3⟩ := strs_in (hval 3 40 v3 rfl rfl) h3
  obtain ⟨a4, n4, c4, ps4, rfl, hn4, hs4, hr4⟩ := ptrs_in (hval 4 41 v4 rfl rfl) h4
  obtain ⟨a5, n5, c5, ss5, rfl, hn5, hs5, hr5⟩ := strs_in (hval 5 40 v5 rfl rfl) h5
  obtain ⟨a6, n6, c6, ps6, rfl, hn6, hs6, hr6⟩ := ptrs_in (hval 6 41 v6 rfl rfl) h6
  obtain ⟨o, rfl, rfl, rfl, ho⟩ := ChangeMaps.open_string Try.underlying9 (hval 7 9 v7 rfl rfl) h7
  have k3 := h3
  have lt3 := trod_lts k3
  have k4 := h4
  have lt4 := trod_lts k4
  have k5 := h5
  have lt5 := trod_lts k5
  have k6 := h6
  have lt6 := trod_lts k6
  clear hA0 hval0
  refine (law6 cl c r n3 c3 n4 c4 n5 c5 n6 c6 a3 a4 a5 a6 ss3 ss5 ps4 ps6 o W hn3 hn4 hn5 hn6 hs3 hs5 (by unfold maxLen at ho; omega) hs4 hs6 hr3 hr4 hr5 hr6).mono fun e W' ⟨he, bel⟩ => ?_
  subst he
  exact ⟨_, rfl, _, _, _, [], _, [], hW', trodAll_mk1 (shut_bool Try.underlying4 _), (trodAll_cons_mk (shut_int Try.underlying3 hw0) (trodAll_cons_mk (shut_int Try.underlying2 hw1) (trodAll_cons_mk (shut_int Try.underlying2 hw2)
    (trodAll_cons_mk (Below.trod laidOut (by kernel_rfl) (of_decide_eq_true (by kernel_rfl)) k3 bel lt3) (trodAll_cons_mk (Below.trod laidOut (by kernel_rfl) (of_decide_eq_true (by kernel_rfl)) k4 bel lt4) (trodAll_cons_mk (Below.trod laidOut (by kernel_rfl) (of_decide_eq_true (by kernel_rfl)) k5 bel lt5) (trodAll_cons_mk (Below.trod laidOut (by kernel_rfl) (of_decide_eq_true (by kernel_rfl)) k6 bel lt6)
      (trodAll_cons_mk (ChangeMaps.shut_string Try.underlying9 ho) trodAll_mk0)))))))), rfl, bel.frame _, fun h => by cases h⟩

/-- THE STATEMENT. -/
theorem modelAddSecondTime : Rows.FnModelAddSecondTimeNumbersNothingNewSaid :=
  OpenClaim.holds_of_wide 6 Try.f6 rfl rfl rfl rfl rfl rfl rfl ⟨rfl, rfl, rfl, rfl, rfl⟩ rfl rfl rfl rfl rfl (by kernel_rfl) Try.func6 (by kernel_rfl)
    (of_decide_eq_true (by kernel_rfl)) (by unfold Func.isWrapper; first | (rw [if_pos (by decide +kernel)]; kernel_rfl) | (rw [if_neg (by decide +kernel)]; exact ⟨rfl, rfl⟩))
    (fun os started H enc _ => lifted6 os started H enc)
#print axioms modelAddSecondTime
end Go.Proofs.Qxb6602268a
