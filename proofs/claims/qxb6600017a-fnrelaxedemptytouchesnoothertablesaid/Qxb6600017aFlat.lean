/-
  Seat b6600017a: the plain facts on where each finger lies in the shared array. No Go in sight.
-/
import Derived.Test.Qxb6600017aBytes
namespace Go.Proofs.Qxb6600017a
open Go.RowKit

/-- How many fingers the first k tables have. -/
def offs (x : Nat → Tab) : Nat → Nat
  | 0 => 0
  | k + 1 => offs x k + ((x k).wn + (x k).bn)

theorem offs_le_lens (x : Nat → Tab) : ∀ k, offs x k ≤ lens x k
  | 0 => Nat.le_refl _
  | k + 1 => by have := offs_le_lens x k; simp only [offs, lens]; omega

theorem lens_mono (x : Nat → Tab) {i k : Nat} (h : i ≤ k) : lens x i ≤ lens x k := by
  induction k with
  | zero => obtain rfl : i = 0 := by omega
            exact Nat.le_refl _
  | succ k ih =>
    by_cases e : i = k + 1
    · subst e; exact Nat.le_refl _
    · have := ih (by omega); simp only [lens]; omega

theorem offs_mono (x : Nat → Tab) {i k : Nat} (h : i ≤ k) : offs x i ≤ offs x k := by
  induction k with
  | zero => obtain rfl : i = 0 := by omega
            exact Nat.le_refl _
  | succ k ih =>
    by_cases e : i = k + 1
    · subst e; exact Nat.le_refl _
    · have := ih (by omega); simp only [offs]; omega

theorem fn_le_lens (x : Nat → Tab) {i n : Nat} (h : i < n) : (x i).fn ≤ lens x n := by
  have := lens_mono x (show i + 1 ≤ n from h); simp only [lens] at this; omega

/-- The fingers of one table: Forward, then Back. -/
def seg (t : Tab) : List (Int × Bool) := (List.range t.wn).map t.fwd ++ (List.range t.bn).map t.bck
/-- The fingers of the first k tables, one behind the other. -/
def flat (x : Nat → Tab) : Nat → List (Int × Bool)
  | 0 => []
  | k + 1 => flat x k ++ seg (x k)

theorem flat_length (x : Nat → Tab) : ∀ k, (flat x k).length = offs x k
  | 0 => rfl
  | k + 1 => by simp [flat, offs, seg, flat_length x k]

theorem flat_in (x : Nat → Tab) {t n : Nat} (h : t < n) (q : Nat) (hq : q < (x t).wn + (x t).bn) : (flat x n)[offs x t + q]? = (seg (x t))[q]? := by
  induction n with
  | zero => omega
  | succ n ih =>
    simp only [flat]
    by_cases e : t = n
    · subst e
      rw [List.getElem?_append_right (by rw [flat_length]; omega), flat_length, Nat.add_sub_cancel_left]
    · have hm := offs_mono x (show t + 1 ≤ n from by omega)
      simp only [offs] at hm
      rw [List.getElem?_append_left (by rw [flat_length]; omega)]
      exact ih (by omega)

/-- The finger at place q of the shared array. -/
def G (x : Nat → Tab) (n q : Nat) : Int × Bool := (flat x n).getD q (0, false)

theorem G_fwd (x : Nat → Tab) {t n : Nat} (h : t < n) {k : Nat} (hk : k < (x t).wn) : G x n (offs x t + k) = (x t).fwd k := by
  unfold G
  rw [List.getD_eq_getElem?_getD, flat_in x h k (by omega), seg, List.getElem?_append_left (by simpa using hk)]
  simp [hk]
theorem G_bck (x : Nat → Tab) {t n : Nat} (h : t < n) {k : Nat} (hk : k < (x t).bn) : G x n (offs x t + (x t).wn + k) = (x t).bck k := by
  unfold G
  rw [List.getD_eq_getElem?_getD, Nat.add_assoc, flat_in x h _ (by omega)]
  simp [seg, hk]

/-- Two tables' stretches of the array do not meet. -/
theorem offs_apart (x : Nat → Tab) {s t q : Nat} (hst : s ≠ t) (h1 : offs x s ≤ q) (h2 : q < offs x (s + 1)) : q < offs x t ∨ offs x (t + 1) ≤ q := by
  by_cases h : s < t
  · have := offs_mono x (show s + 1 ≤ t from h); omega
  · have := offs_mono x (show t + 1 ≤ s from by omega); omega

end Go.Proofs.Qxb6600017a
