/-
  Seat b6602119a: THE STATEMENT Rows.FnPlaceColumnsDropLastColumnSaid, PROVED.
-/
import Derived.Test.Qxb6602119aLaw5
import Derived.Test.Qxb6602119aIn
import Derived.OpenShut
namespace Go.Proofs.Qxb6602119a
open Go.ChangeShapes Go.WideShapes Go.ChangeAt Go.RowKit

set_option maxRecDepth 100000 in
theorem lifted5 (os : Os) (started : os.Started) (H : Type) (enc : TypeId × Value → H) :
    ReturnsInHanded {} Try.checked os 5 .any (Rows.fnPlaceColumnsDropLastColumnSpec.pre6 enc Try.prog Try.f5 Rows.fnPlaceColumnsDropLastColumnRow.domain false) (Rows.fnPlaceColumnsDropLastColumnSpec.post enc Try.prog Try.f5 false true false false) := by
  refine returnsInHanded_of_change (C := Try.checked) own started (by kernel_rfl) Try.func5
    (ChangeSpec.witness6 (enc := enc) (C := Try.checked) false ⟨#[], #[.slice none 0 0, .slice none 0 0, .slice none 0 0], []⟩ 8 (by kernel_rfl) (by kernel_rfl) (by kernel_rfl) (by kernel_rfl)) ?_
  intro W base args ds gs before hval0 hW hcnd _
  have hval : ∀ (j : Nat) t v, Try.f5.params[j]? = some t → args[j]? = some v → Value.okWide Try.prog W .any base t v := hval0
  have hW' := hW
  obtain ⟨p, q, hA0, hV, rfl, hfz, hnd⟩ := hW
  have hA : DataW.TrodAll enc Try.prog W 0 (fun _ => true) true Try.f5.params.toList args.toList ds p := hA0
  rw [Try.params5] at hA hval
  obtain ⟨v0, vs0, d0, ds0, p0, q0, hargs, rfl, rfl, h0, r0⟩ := trodAll_cons hA
  obtain ⟨v1, vs1, d1, ds1, p1, q1, rfl, rfl, rfl, h1, r1⟩ := trodAll_cons r0
  obtain ⟨v2, vs2, d2, ds2, p2, q2, rfl, rfl, rfl, h2, r2⟩ := trodAll_cons r1
  obtain ⟨rfl, rfl, rfl⟩ := trodAll_nil r2
  obtain rfl : args = #[v0, v1, v2] := by cases args; simp_all
  obtain ⟨rfl, rfl⟩ := trodVars_none hV
  obtain ⟨a, n, c, ss, rfl, hn, hs, hr⟩ := strs_in (hval 0 22 v0 rfl rfl) h0
  obtain ⟨a', n', c', ss', rfl, hn', hs', hr'⟩ := strs_in (hval 1 22 v1 rfl rfl) h1
  obtain ⟨a'', n'', c'', ss'', rfl, hn'', hs'', hr''⟩ := strs_in (hval 2 22 v2 rfl rfl) h2
  have k0 := h0
  have lt0 := trod_lts k0
  have k1 := h1
  have lt1 := trod_lts k1
  have k2 := h2
  have lt2 := trod_lts k2
  clear hA0 hval0
  refine (law5 a a' a'' n c n' c' n'' c'' ss ss' ss'' W hn hn' hn'' hs hs' hs'' hr hr' hr'').mono fun e W' ⟨he, bel⟩ => ?_
  subst he
  exact ⟨_, rfl, _, _, _, [], _, [], hW', trodAll_mk1 (shut_bool Try.underlying4 _), (trodAll_cons_mk (Below.trod laidOut (by kernel_rfl) (of_decide_eq_true (by kernel_rfl)) k0 bel lt0) (trodAll_cons_mk (Below.trod laidOut (by kernel_rfl) (of_decide_eq_true (by kernel_rfl)) k1 bel lt1) (trodAll_cons_mk (Below.trod laidOut (by kernel_rfl) (of_decide_eq_true (by kernel_rfl)) k2 bel lt2) trodAll_mk0))), rfl, bel.frame _, fun h => by cases h⟩

/-- THE STATEMENT. -/
theorem dropLastColumn : Rows.FnPlaceColumnsDropLastColumnSaid :=
  OpenClaim.holds_of_wide 5 Try.f5 rfl rfl rfl rfl rfl rfl rfl ⟨rfl, rfl, rfl, rfl, rfl⟩ rfl rfl rfl rfl rfl (by kernel_rfl) Try.func5 (by kernel_rfl)
    (of_decide_eq_true (by kernel_rfl)) (by unfold Func.isWrapper; first | (rw [if_pos (by decide +kernel)]; kernel_rfl) | (rw [if_neg (by decide +kernel)]; exact ⟨rfl, rfl⟩))
    (fun os started H enc _ => lifted5 os started H enc)
#print axioms dropLastColumn
end Go.Proofs.Qxb6602119a
