/-
  Seat b6602119a: THE PLAIN LAW: what placeColumns computes, as plain functions, and what is so of it. No Go in sight.
-/
import Derived.Test.Qxb6602119aRows
namespace Go.Proofs.Qxb6602119a

/-- Are the two texts one? -/
def same (a b : ByteArray) : Bool := a.toList == b.toList

/-- The first place of v among the first n texts of s. -/
def idx (n : Nat) (s : Nat → ByteArray) (v : ByteArray) : Option Nat := (List.range n).find? fun i => same v (s i)

theorem idx_some {n : Nat} {s : Nat → ByteArray} {v : ByteArray} {k : Nat} (hk : k < n) (h : same v (s k) = true) (hlt : ∀ j, j < k → same v (s j) = false) : idx n s v = some k := by
  unfold idx
  rw [List.find?_eq_some_iff_getElem]
  refine ⟨h, k, by simpa using hk, by simp, fun j hj => ?_⟩
  simp [hlt j hj]

theorem idx_none {n : Nat} {s : Nat → ByteArray} {v : ByteArray} (h : ∀ j, j < n → same v (s j) = false) : idx n s v = none := by
  unfold idx
  rw [List.find?_eq_none]
  intro x hx
  simp at hx
  simp [h x hx]

theorem idx_of {n : Nat} {s : Nat → ByteArray} {v : ByteArray} {i : Nat} (h : idx n s v = some i) : i < n ∧ same v (s i) = true := by
  unfold idx at h
  have h1 := List.find?_some h
  have h2 := List.mem_of_find?_eq_some h
  simp at h2
  exact ⟨h2, h1⟩

/-- The slots before any optional column is met. -/
def start (h o : Nat) : List Int := (List.range h).map (fun i : Nat => (i : Int)) ++ List.replicate o (-1)

theorem start_length (h o : Nat) : (start h o).length = h + o := by simp [start]

/-- The slots behind k columns past the header: none where a column is refused. -/
def pl (h o : Nat) (g s : Nat → ByteArray) : Nat → Option (List Int)
  | 0 => some (start h o)
  | k + 1 => match pl h o g s k with
    | none => none
    | some W => match idx o s (g (h + k)) with
      | none => none
      | some i => if 0 ≤ W.getD (h + i) 0 then none else some (W.set (h + i) ((h + k : Nat) : Int))

theorem pl_none {h o : Nat} {g s : Nat → ByteArray} {k m : Nat} (hk : pl h o g s k = none) (hm : k ≤ m) : pl h o g s m = none := by
  induction m with
  | zero => obtain rfl : k = 0 := by omega
            exact hk
  | succ m ih =>
    by_cases e : k = m + 1
    · subst e; exact hk
    · simp only [pl, ih (by omega)]

/-- What is so of the slots behind k columns past the header. -/
structure Good (h o : Nat) (g s : Nat → ByteArray) (k : Nat) (W : List Int) : Prop where
  len : W.length = h + o
  head : ∀ i, i < h → W.getD i 0 = (i : Int)
  opt : ∀ j, j < o → W.getD (h + j) 0 = -1 ∨ ∃ p : Nat, W.getD (h + j) 0 = (p : Int) ∧ h ≤ p ∧ p < h + k ∧ same (g p) (s j) = true
  cnt : ∀ p : Nat, W.count (p : Int) = if p < h + k then 1 else 0

theorem count_range (h p : Nat) : ((List.range h).map (fun i : Nat => (i : Int))).count (p : Int) = if p < h then 1 else 0 := by
  induction h with
  | zero => simp
  | succ h ih =>
    rw [List.range_succ, List.map_append, List.count_append, ih]
    by_cases e : p = h
    · subst e; simp
    · simp only [List.map_cons, List.map_nil, List.count_cons, List.count_nil]
      have : ((h : Int) == (p : Int)) = false := by simp; omega
      rw [this]
      by_cases hp : p < h
      · simp [hp, show p < h + 1 from by omega]
      · simp [hp, show ¬ p < h + 1 from by omega]

theorem good_start (h o : Nat) (g s : Nat → ByteArray) : Good h o g s 0 (start h o) := by
  refine ⟨start_length h o, fun i hi => ?_, fun j hj => .inl ?_, fun p => ?_⟩
  · unfold start
    rw [List.getD_eq_getElem?_getD, List.getElem?_append_left (by simpa using hi)]
    simp [hi]
  · unfold start
    rw [List.getD_eq_getElem?_getD, List.getElem?_append_right (by simp)]
    simp [hj]
  · unfold start
    rw [List.count_append, count_range]
    have : List.count (p : Int) (List.replicate o (-1)) = 0 := by
      rw [List.count_replicate, if_neg]
      simp
    rw [this]; simp

theorem good_step {h o : Nat} {g s : Nat → ByteArray} {k : Nat} {W : List Int} (hg : Good h o g s k W) {i : Nat} (hi : idx o s (g (h + k)) = some i) (hneg : ¬ 0 ≤ W.getD (h + i) 0) :
    Good h o g s (k + 1) (W.set (h + i) ((h + k : Nat) : Int)) := by
  obtain ⟨hio, hsame⟩ := idx_of hi
  have hlt : h + i < W.length := by rw [hg.len]; omega
  have hold : W.getD (h + i) 0 = -1 := by
    rcases hg.opt i hio with h1 | ⟨p, h1, _⟩
    · exact h1
    · omega
  have hset : ∀ j, (W.set (h + i) ((h + k : Nat) : Int)).getD j 0 = if h + i = j then ((h + k : Nat) : Int) else W.getD j 0 := by
    intro j
    rw [List.getD_eq_getElem?_getD, List.getElem?_set]
    by_cases e : h + i = j
    · subst e; simp [hlt]
    · simp [e]
  refine ⟨by simpa using hg.len, fun j hj => ?_, fun j hj => ?_, fun p => ?_⟩
  · rw [hset, if_neg (by omega)]; exact hg.head j hj
  · rw [hset]
    by_cases e : i = j
    · subst e
      rw [if_pos rfl]
      exact .inr ⟨h + k, rfl, by omega, by omega, hsame⟩
    · rw [if_neg (by omega)]
      rcases hg.opt j hj with h1 | ⟨p, h1, h2, h3, h4⟩
      · exact .inl h1
      · exact .inr ⟨p, h1, h2, by omega, h4⟩
  · have hget : W[h + i] = -1 := by
      rw [List.getD_eq_getElem?_getD, List.getElem?_eq_getElem hlt] at hold
      simpa using hold
    rw [List.count_set (h := hlt), hget, hg.cnt p]
    have e1 : ((-1 : Int) == (p : Int)) = false := by simp
    rw [e1]
    by_cases e : p = h + k
    · subst e; simp
    · have e2 : (((h + k : Nat) : Int) == (p : Int)) = false := by simp; omega
      rw [e2]
      by_cases hp : p < h + k
      · simp [hp, show p < h + (k + 1) from by omega]
      · simp [hp, show ¬ p < h + (k + 1) from by omega]

theorem good_of {h o : Nat} {g s : Nat → ByteArray} : ∀ {k : Nat} {W : List Int}, pl h o g s k = some W → Good h o g s k W
  | 0, W, h1 => by
    simp only [pl, Option.some.injEq] at h1
    subst h1
    exact good_start _ _ _ _
  | k + 1, W, h1 => by
    simp only [pl] at h1
    split at h1
    · cases h1
    · rename_i W' hW'
      split at h1
      · cases h1
      · rename_i i hi
        split at h1
        · cases h1
        · rename_i hneg
          simp only [Option.some.injEq] at h1
          subst h1
          exact good_step (good_of hW') hi hneg

end Go.Proofs.Qxb6602119a
