/-
  Seat b6602268a: zzPair: some function of its two numbers; and the counting of them.
-/
import Derived.Test.Qxb6602268aBase
import Derived.OpenShut
namespace Go.Proofs.Qxb6602268a
open Go.RowKit Go.Maps

/-- What zzPair reckons (nothing is asked of it). -/
def PP (x y : Int) : Int := bits BinOp.or IntKind.i64 (wrap64 (wrap64 x * 4294967296)) (y % 4294967296)
theorem PP_wf (x y : Int) : (Lit.int .i64 (PP x y)).wf = true := by
  unfold PP bits
  exact wf_wrap _ _

theorem pair44 (x y : Int) (w : World) : Calls Try.prog 44 #[.int .i32 x, .int .i32 y] w fun e w' => e = .returned (.int .i64 (PP x y)) ∧ w' = w := by
  go_enter Try.func44, Try.ntmps44
  go_wp2
  go_ret
  exact ⟨rfl, rfl⟩
end Go.Proofs.Qxb6602268a
