/-
  Seat b6602268a: a region that draws its order, whose last operation writes a cell that one of its loads reads: the condition S may hang on what has come up already (the store turns the cell; the load comes ahead of it in every order).
-/
import Derived.Test.Qxb6602268aBase
import Derived.Deep.RegionHeld3
namespace Go.Proofs.Qxb6602268a
open Go.RowKit Go.Maps

section
variable {P : Program} {ops : Array Oper} {Q : Exit → Act → World → Prop} {md : Region.Mode} {S : Array Bool → World → Prop}

/-- Whatever order is picked from here on, and behind each operation S holds of what has come up by then. -/
def AnyL (P : Program) (md : Region.Mode) (ops : Array Oper) (Q : Exit → Act → World → Prop) (S : Array Bool → World → Prop) : Nat → Array Bool → Act → World → Prop
  | 0, listed, a, w => Region.ready md ops listed = [] ∧ Q .normal a w
  | fuel + 1, listed, a, w =>
    (Region.ready md ops listed = [] → Q .normal a w) ∧
    ∀ i ∈ Region.ready md ops listed, wpOp P ops Q i (fun a' w' => S (listed.setIfInBounds i true) w' ∧ AnyL P md ops Q S fuel (listed.setIfInBounds i true) a' w') a w

theorem wpAny_of_L : ∀ (fuel : Nat) (listed : Array Bool) (a : Act) (w : World), AnyL P md ops Q S fuel listed a w → wpAny P md ops Q fuel listed a w
  | 0, _, _, _, h => h
  | fuel + 1, _, _, _, h => ⟨h.1, fun i hi => wpOp_mono (fun a' w' h' => wpAny_of_L fuel _ a' w' h'.2) (h.2 i hi)⟩

/-- S at some state in which the operation has not come up. -/
def Before (S : Array Bool → World → Prop) (R : Array Bool → Prop) (w : World) : Prop := ∃ l, R l ∧ S l w

/-- What the taking of number i asks of a state. -/
structure Takes (P : Program) (md : Region.Mode) (ops : Array Oper) (S : Array Bool → World → Prop) (R : Array Bool → Prop) (i : Nat) (oi : Oper) (v : Value) (l : Array Bool) (a : Act) : Prop where
  apart : ∀ j oj, ops[j]? = some oj → j ≠ i → l.getD j true = false → (∀ e ∈ oj.after, Region.binds md e = true → e.on ≠ i) → oi.apart ops oj = true
  ready : i ∈ Region.ready md ops l
  inR : R l
  yields : YieldsIf P ops (Before S R) oi v a

theorem not_both {l : Array Bool} {i : Nat} (h : l.getD i true = false) (h' : l.getD i false = true) : False := by
  unfold Array.getD at h h'
  split at h
  · simp_all
  · cases h

/-- Who may come up beside i is apart from it. -/
theorem Takes.beside {R : Array Bool → Prop} {i j : Nat} {oi oj : Oper} {v : Value} {l : Array Bool} {a : Act} (t : Takes P md ops S R i oi v l a) (hj : j ∈ Region.ready md ops l) (hoj : ops[j]? = some oj) (hne : j ≠ i) : oi.apart ops oj = true := by
  obtain ⟨hun, o', ho', hall⟩ := mem_ready.1 hj
  obtain rfl : o' = oj := by rw [ho'] at hoj; exact Option.some.inj hoj
  exact t.apart j o' ho' hne hun fun e he hb hi => not_both (mem_ready.1 t.ready).1 (hi ▸ hall e he hb)

/-- Behind another operation i may be taken as before. -/
theorem Takes.behind {R : Array Bool → Prop} {i j : Nat} {oi : Oper} {v : Value} {l : Array Bool} {a a' : Act} (t : Takes P md ops S R i oi v l a) (hj : j ∈ Region.ready md ops l) (hne : j ≠ i)
    (hR : ∀ l j, R l → j ∈ Region.ready md ops l → j ≠ i → l.getD i true = false → R (l.setIfInBounds j true)) (hy : YieldsIf P ops (Before S R) oi v a') : Takes P md ops S R i oi v (l.setIfInBounds j true) a' where
  apart k ok hk hki hun hno := t.apart k ok hk hki (by
    by_cases e : j = k
    · exact e ▸ (mem_ready.1 hj).1
    · rwa [getD_set_ne true e] at hun) hno
  ready := ready_mono t.ready (Ne.symm hne)
  inR := hR l j t.inR hj hne (mem_ready.1 t.ready).1
  yields := hy

theorem AnyL_first {i : Nat} {oi : Oper} {v : Value} {R : Array Bool → Prop} (hi : ops[i]? = some oi) (hsel : ∀ (j : Nat) (o : Oper) cs b, ops[j]? = some o → o.op ≠ .select cs b)
    (hQ : ∀ c a w, Q (.panic c) (a.put oi.dst v) w → Q (.panic c) a w) (hSi : ∀ l w, S l w ↔ S (l.setIfInBounds i true) w)
    (hR : ∀ l j, R l → j ∈ Region.ready md ops l → j ≠ i → l.getD i true = false → R (l.setIfInBounds j true)) (fuel : Nat) (l : Array Bool) (a : Act) (w : World) (t : Takes P md ops S R i oi v l a) (hS : S l w)
    (H : AnyL P md ops Q S fuel (l.setIfInBounds i true) (a.put oi.dst v) w) : AnyL P md ops Q S (fuel + 1) l a w := by
  induction fuel generalizing l a w with
  | zero =>
    refine ⟨fun h0 => absurd (h0 ▸ t.ready) (by simp), fun j hj => ?_⟩
    by_cases hne : j = i
    · exact hne ▸ t.yields.wpOp hi ⟨l, t.inR, hS⟩ ⟨(hSi l w).1 hS, H⟩
    · exact absurd (H.1 ▸ ready_mono hj hne) (by simp)
  | succ m ih =>
    refine ⟨fun h0 => absurd (h0 ▸ t.ready) (by simp), fun j hj => ?_⟩
    by_cases hne : j = i
    · exact hne ▸ t.yields.wpOp hi ⟨l, t.inR, hS⟩ ⟨(hSi l w).1 hS, H⟩
    obtain ⟨oj, hoj, _⟩ := (mem_ready.1 hj).2
    refine wpOp_mono (fun a' w' h => ?_) (wpOp_putIf hoj (t.beside hj hoj hne) (fun cs b => hsel i oi cs b hi) (fun cs b => hsel j oj cs b hoj) hQ t.yields (H.2 j (ready_mono hj hne)))
    rw [Array.setIfInBounds_comm _ _ (Ne.symm hne)] at h
    have hS' : S (l.setIfInBounds j true) w' := (hSi _ _).2 h.2.1
    exact ⟨hS', ih _ _ _ (t.behind hj hne hR h.1) hS' h.2.2⟩

/-- Take number i first. -/
theorem AnyL_take {i : Nat} {oi : Oper} {d : Option Tmp} {v : Value} (R : Array Bool → Prop) {fuel : Nat} {listed : Array Bool} {a : Act} {w : World} (hi : ops[i]? = some oi) (hd : oi.dst = d)
    (hs : Region.noSelect ops = true) (hf : Region.free md ops listed i = true) (hr : (Region.ready md ops listed).contains i = true)
    (hQ : ∀ c a w, Q (.panic c) (a.put d v) w → Q (.panic c) a w) (hSi : ∀ l w, S l w ↔ S (l.setIfInBounds i true) w)
    (hR : ∀ l j, R l → j ∈ Region.ready md ops l → j ≠ i → l.getD i true = false → R (l.setIfInBounds j true)) (hRl : R listed)
    (hw : Region.wanted oi (yielded ops a.tmps) = true) (hy : ∀ w l, R l → S l w → (execOp a.eval oi).run P w = .ok (.value v) w) (hS : S listed w)
    (h : AnyL P md ops Q S fuel (listed.setIfInBounds i true) (a.put d v) w) : AnyL P md ops Q S (fuel + 1) listed a w := by
  subst hd
  exact AnyL_first hi (Region.noSelect_spec hs) hQ hSi hR fuel listed a w ⟨Region.free_spec hi hf, by simpa using hr, hRl, .inl ⟨hw, fun w' ⟨l, hl, hS'⟩ => hy w' l hl hS'⟩⟩ hS h

/-- One alone may come up. -/
theorem AnyL_one {i : Nat} {o : Oper} {fuel : Nat} {listed : Array Bool} {a : Act} {w : World} (hr : Region.ready md ops listed = [i]) (ho : ops[i]? = some o) (hw : Region.wanted o (yielded ops a.tmps) = true)
    (h : ∀ K' : Act → World → Prop, Shut (∀ a w, S (listed.setIfInBounds i true) w → AnyL P md ops Q S fuel (listed.setIfInBounds i true) a w → K' a w) → Oper.wp P o a w K' Q) : AnyL P md ops Q S (fuel + 1) listed a w := by
  refine ⟨fun h0 => (by rw [hr] at h0; cases h0), fun j hj => ?_⟩
  rw [hr] at hj
  obtain rfl : j = i := by simpa using hj
  unfold wpOp
  simp only [ho, hw, if_true]
  exact .inl (h _ fun a w hS hL => ⟨hS, hL⟩)

theorem AnyL_done {listed : Array Bool} {a : Act} {w : World} (hr : Region.ready md ops listed = []) (h : Q .normal a w) : ∀ fuel, AnyL P md ops Q S fuel listed a w
  | 0 => ⟨hr, h⟩
  | _ + 1 => ⟨fun _ => h, by rw [hr]; simp⟩

theorem wp_region_L {id : Nat} {a : Act} {w : World} (hm : P.follows .mixedOrders = true) (h : AnyL P .any ops Q S ops.size (Array.replicate ops.size false) a w.drew) : (Code.region id ops true).wp P Q a w :=
  wp_region_any hm (wpAny_of_L _ _ _ _ h)
end
end Go.Proofs.Qxb6602268a
