/-
  Seat b6602268a: a region that draws its order, whose last operation writes a cell that one of its loads reads: the condition S may hang on what has come up already (the store turns the cell; the load comes ahead of it in every order).
-/
import Derived.Test.Qxb6602268aBase
import Derived.Deep.RegionHeld3
namespace Go.Proofs.Qxb6602268a
open Go.RowKit Go.Maps

section
variable {P : Program} {ops : Array Oper} {Q : Exit → Act → World → Prop} {md : Region.Mode} {S : Array Bool → World → Prop}

/-- Whatever order is picked from here on, and behind each operation S holds of what has come up by then. -/
def AnyL (P : Program) (md : Region.Mode) (ops : Array Oper) (Q : Exit → Act → World → Prop) (S : Array Bool → World → Prop) : Nat → Array Bool → Act → World → Prop
  | 0, listed, a, w => Region.ready md ops listed = [] ∧ Q .normal a w
  | fuel + 1, listed, a, w =>
    (Region.ready md ops listed = [] → Q .normal a w) ∧
    ∀ i ∈ Region.ready md ops listed, wpOp P ops Q i (fun a' w' => S (listed.setIfInBounds i true) w' ∧ AnyL P md ops Q S fuel (listed.setIfInBounds i true) a' w') a w

theorem wpAny_of_L : ∀ (fuel : Nat) (listed : Array Bool) (a : Act) (w : World), AnyL P md ops Q S fuel listed a w → wpAny P md ops Q fuel listed a w
  | 0, _, _, _, h => h
  | fuel + 1, _, _, _, h => ⟨h.1, fun i hi => wpOp_mono (fun a' w' h' => wpAny_of_L fuel _ a' w' h'.2) (h.2 i hi)⟩

/-- S at some state in which the operation has not come up. -/
def Before (S : Array Bool → World → Prop) (R : Array Bool → Prop) (w : World) : Prop := ∃ l, R l ∧ S l w

theorem AnyL_first {i : Nat} {oi : Oper} {v : Value} {R : Array Bool → Prop} (hi : ops[i]? = some oi) (hsel : ∀ (j : Nat) (o : Oper) cs b, ops[j]? = some o → o.op ≠ .select cs b)
    (hQ : ∀ c a w, Q (.panic c) (a.put oi.dst v) w → Q (.panic c) a w) (hSi : ∀ l w, S l w ↔ S (l.setIfInBounds i true) w)
    (hR : ∀ l j, R l → j ∈ Region.ready md ops l → j ≠ i → l.getD i true = false → R (l.setIfInBounds j true)) :
    ∀ (fuel : Nat) (listed : Array Bool) (a : Act) (w : World),
      (∀ j oj, ops[j]? = some oj → j ≠ i → listed.getD j true = false → (∀ e ∈ oj.after, Region.binds md e = true → e.on ≠ i) → oi.apart ops oj = true) →
      i ∈ Region.ready md ops listed → R listed → YieldsIf P ops (Before S R) oi v a → S listed w →
      AnyL P md ops Q S fuel (listed.setIfInBounds i true) (a.put oi.dst v) w → AnyL P md ops Q S (fuel + 1) listed a w := by
  intro fuel
  induction fuel with
  | zero =>
    intro listed a w _ hr hRl hy hS H
    refine ⟨fun h => (by rw [h] at hr; cases hr), fun j hj => ?_⟩
    by_cases hji : j = i
    · subst hji; exact hy.wpOp hi ⟨listed, hRl, hS⟩ ⟨(hSi _ _).1 hS, H⟩
    · have := ready_mono hj hji
      rw [H.1] at this
      cases this
  | succ fuel ih =>
    intro listed a w hfree hr hRl hy hS H
    refine ⟨fun h => (by rw [h] at hr; cases hr), fun j hj => ?_⟩
    by_cases hji : j = i
    · subst hji; exact hy.wpOp hi ⟨listed, hRl, hS⟩ ⟨(hSi _ _).1 hS, H⟩
    · have h1 := H.2 j (ready_mono hj hji)
      obtain ⟨hjun, oj, hoj, hall⟩ := mem_ready.1 hj
      have h0 := (mem_ready.1 hr).1
      have hnot : ∀ e ∈ oj.after, Region.binds md e = true → e.on ≠ i := fun e he hb heq => by
        have h1 := hall e he hb
        rw [heq] at h1
        rcases Nat.lt_or_ge i listed.size with h' | h'
        · simp [h'] at h0 h1; rw [h0] at h1; cases h1
        · simp [Array.getElem?_eq_none h'] at h1
      have h2 := wpOp_putIf hoj (hfree j oj hoj hji hjun hnot) (fun cs b => hsel i oi cs b hi) (fun cs b => hsel j oj cs b hoj) hQ hy h1
      have hfree' : ∀ k ok, ops[k]? = some ok → k ≠ i → (listed.setIfInBounds j true).getD k true = false →
          (∀ e ∈ ok.after, Region.binds md e = true → e.on ≠ i) → oi.apart ops ok = true := fun k ok hk hki hun hno => by
        refine hfree k ok hk hki ?_ hno
        by_cases hjk : j = k
        · subst hjk; exact hjun
        · rw [getD_set_ne true hjk] at hun; exact hun
      have hcomm : (listed.setIfInBounds i true).setIfInBounds j true = (listed.setIfInBounds j true).setIfInBounds i true := Array.setIfInBounds_comm _ _ (Ne.symm hji)
      refine wpOp_mono (fun a' w' h3 => ?_) h2
      obtain ⟨h3a, h3b, h3c⟩ := h3
      rw [hcomm] at h3b h3c
      have hS' := (hSi _ _).2 h3b
      exact ⟨hS', ih (listed.setIfInBounds j true) a' w' hfree' (ready_mono hr (Ne.symm hji)) (hR _ _ hRl hj hji h0) h3a hS' h3c⟩

/-- Take number i first. -/
theorem AnyL_take {i : Nat} {oi : Oper} {d : Option Tmp} {v : Value} (R : Array Bool → Prop) {fuel : Nat} {listed : Array Bool} {a : Act} {w : World} (hi : ops[i]? = some oi) (hd : oi.dst = d)
    (hs : Region.noSelect ops = true) (hf : Region.free md ops listed i = true) (hr : (Region.ready md ops listed).contains i = true)
    (hQ : ∀ c a w, Q (.panic c) (a.put d v) w → Q (.panic c) a w) (hSi : ∀ l w, S l w ↔ S (l.setIfInBounds i true) w)
    (hR : ∀ l j, R l → j ∈ Region.ready md ops l → j ≠ i → l.getD i true = false → R (l.setIfInBounds j true)) (hRl : R listed)
    (hw : Region.wanted oi (yielded ops a.tmps) = true) (hy : ∀ w l, R l → S l w → (execOp a.eval oi).run P w = .ok (.value v) w) (hS : S listed w)
    (h : AnyL P md ops Q S fuel (listed.setIfInBounds i true) (a.put d v) w) : AnyL P md ops Q S (fuel + 1) listed a w := by
  subst hd
  exact AnyL_first hi (Region.noSelect_spec hs) hQ hSi hR fuel listed a w (Region.free_spec hi hf) (by simpa using hr) hRl (.inl ⟨hw, fun w' ⟨l, hl, hS'⟩ => hy w' l hl hS'⟩) hS h

/-- One alone may come up. -/
theorem AnyL_one {i : Nat} {o : Oper} {fuel : Nat} {listed : Array Bool} {a : Act} {w : World} (hr : Region.ready md ops listed = [i]) (ho : ops[i]? = some o) (hw : Region.wanted o (yielded ops a.tmps) = true)
    (h : ∀ K' : Act → World → Prop, Shut (∀ a w, S (listed.setIfInBounds i true) w → AnyL P md ops Q S fuel (listed.setIfInBounds i true) a w → K' a w) → Oper.wp P o a w K' Q) : AnyL P md ops Q S (fuel + 1) listed a w := by
  refine ⟨fun h0 => (by rw [hr] at h0; cases h0), fun j hj => ?_⟩
  rw [hr] at hj
  obtain rfl : j = i := by simpa using hj
  unfold wpOp
  simp only [ho, hw, if_true]
  exact .inl (h _ fun a w hS hL => ⟨hS, hL⟩)

theorem AnyL_done {listed : Array Bool} {a : Act} {w : World} (hr : Region.ready md ops listed = []) (h : Q .normal a w) : ∀ fuel, AnyL P md ops Q S fuel listed a w
  | 0 => ⟨hr, h⟩
  | _ + 1 => ⟨fun _ => h, by rw [hr]; simp⟩

theorem wp_region_L {id : Nat} {a : Act} {w : World} (hm : P.follows .mixedOrders = true) (h : AnyL P .any ops Q S ops.size (Array.replicate ops.size false) a w.drew) : (Code.region id ops true).wp P Q a w :=
  wp_region_any hm (wpAny_of_L _ _ _ _ h)
end
end Go.Proofs.Qxb6602268a
