/-
  Seat b6602268a: what assigns collects, with no Go in sight; and the world of its loop.
-/
import Derived.Test.Qxb6602268aTxn
import Derived.Sort.OwnSorted
import Derived.Maps.AppendAt
import Derived.OwnWalk
import Derived.Deep.RegionHeld3
namespace Go.Proofs.Qxb6602268a
open Go.RowKit Go.Maps

/-- The number that D has for kl. -/
def numOf (D : DataW Unit) (kl : Lit) : Int := match D.atKey kl i0 with
  | .lit (.int .i32 c) => c
  | _ => 0
/-- The number of a value's datum: 0 of nil. -/
def vnum (Dv y : DataW Unit) : Int := match y with
  | .lit (.string vs) => numOf Dv (.string vs)
  | _ => 0
/-- The pair of numbers of the entry at x. -/
def pr (Dk Dv D0 : DataW Unit) (x : List UInt8) : Int × Int := (numOf Dk (.string x), vnum Dv (D0.atKey (.string x) .nil))
/-- The cells of a row of pairs. -/
def cells2 (l : List (Int × Int)) : List Value := l.flatMap fun p => [.int .i32 p.1, .int .i32 p.2]

/-- The entry at x is numbered, its key and its value. -/
structure Known (D0 Dk Dv : DataW Unit) (x : List UInt8) : Prop where
  k : Maps.has Dk (.string x) = true
  v : ∀ vs, D0.atKey (.string x) .nil = .lit (.string vs) → Maps.has Dv (.string vs) = true

theorem numOf_ext {D D' : DataW Unit} {kl : Lit} (h : Maps.has D kl = true) (e : Ext D D') : numOf D' kl = numOf D kl := by
  unfold numOf; rw [(e kl h).2]
theorem pr_ext {D0 Dk Dv Dk' Dv' : DataW Unit} {x : List UInt8} (h : Known D0 Dk Dv x) (e1 : Ext Dk Dk') (e2 : Ext Dv Dv') : pr Dk' Dv' D0 x = pr Dk Dv D0 x := by
  unfold pr
  rw [numOf_ext h.k e1]
  congr 1
  unfold vnum
  split
  · rename_i vs hvs; exact numOf_ext (h.v vs hvs) e2
  · rfl
theorem Known.ext {D0 Dk Dv Dk' Dv' : DataW Unit} {x : List UInt8} (h : Known D0 Dk Dv x) (e1 : Ext Dk Dk') (e2 : Ext Dv Dv') : Known D0 Dk' Dv' x :=
  ⟨(e1 _ h.k).1, fun vs hvs => (e2 _ (h.v vs hvs)).1⟩

/-- What has been met so far is numbered; nothing turned where all was numbered from the first. -/
structure Seen (D0 Dk0 Dv0 Dk Dv : DataW Unit) (ss : List (List UInt8)) : Prop where
  ek : Ext Dk0 Dk
  ev : Ext Dv0 Dv
  known : ∀ x ∈ ss, Known D0 Dk Dv x
  same : (∀ x, Maps.has D0 (.string x) = true → Known D0 Dk0 Dv0 x) → Dk = Dk0 ∧ Dv = Dv0

theorem Seen.start (D0 Dk Dv : DataW Unit) : Seen D0 Dk Dv Dk Dv [] := ⟨Ext.refl _, Ext.refl _, by simp, fun _ => ⟨rfl, rfl⟩⟩

/-- d is the number of the value's datum y in Dv', which is Dv with y numbered. -/
def VNumd (Dv y Dv' : DataW Unit) (d : Int) : Prop := (y = .nil ∧ Dv' = Dv ∧ d = 0) ∨ ∃ vs, y = .lit (.string vs) ∧ Numd Dv (.string vs) Dv' d

theorem Seen.step {D0 Dk0 Dv0 Dk Dv Dk' Dv' y : DataW Unit} {ss : List (List UInt8)} {x : List UInt8} {c d : Int} (h : Seen D0 Dk0 Dv0 Dk Dv ss) (hat : ∀ zd, D0.atKey (.string x) zd = y)
    (h1 : Numd Dk (.string x) Dk' c) (h2 : VNumd Dv y Dv' d) : Seen D0 Dk0 Dv0 Dk' Dv' (ss ++ [x]) ∧ (ss ++ [x]).map (pr Dk' Dv' D0) = ss.map (pr Dk Dv D0) ++ [(c, d)] := by
  have ev' : Ext Dv Dv' := by
    rcases h2 with ⟨_, rfl, _⟩ | ⟨vs, _, h2⟩
    · exact Ext.refl _
    · exact h2.ext
  have hkx : Known D0 Dk' Dv' x := by
    refine ⟨h1.has, fun vs hvs => ?_⟩
    rw [hat] at hvs
    rcases h2 with ⟨rfl, _⟩ | ⟨vs', rfl, h2⟩
    · cases hvs
    · cases hvs; exact h2.has
  refine ⟨⟨h.ek.trans h1.ext, h.ev.trans ev', fun z hz => ?_, fun hall => ?_⟩, ?_⟩
  · rcases List.mem_append.1 hz with hz | hz
    · exact (h.known z hz).ext h1.ext ev'
    · simp at hz; subst hz; exact hkx
  · obtain ⟨rfl, rfl⟩ := h.same hall
    have hk := hall x (has_true_of_atKey hat)
    refine ⟨h1.same hk.k, ?_⟩
    rcases h2 with ⟨_, e, _⟩ | ⟨vs, hy, h2⟩
    · exact e
    · exact h2.same (hk.v vs (by rw [hat, hy]))
  · rw [List.map_append]
    congr 1
    · exact List.map_congr_left fun z hz => pr_ext (h.known z hz) h1.ext ev'
    · simp only [List.map_cons, List.map_nil]
      congr 1
      unfold pr
      congr 1
      · unfold numOf; rw [h1.at_]
      · rw [hat]
        rcases h2 with ⟨rfl, _, rfl⟩ | ⟨vs, rfl, h2⟩
        · rfl
        · show numOf Dv' (.string vs) = d
          unfold numOf; rw [h2.at_]

theorem cells2_length (l : List (Int × Int)) : (cells2 l).length = l.length * 2 := by
  induction l with
  | nil => rfl
  | cons p l ih => simp [cells2] at ih ⊢; omega
theorem cells2_append (l : List (Int × Int)) (c d : Int) : cells2 (l ++ [(c, d)]) = cells2 l ++ [.int .i32 c, .int .i32 d] := by
  simp [cells2]

/-- What the loop holds of the world. -/
structure St (W0 w : World) (bk bv b r nd nk nv : Nat) (D0 Dk Dv : DataW Unit) (left : Lit → Bool) (cnt : Nat) (v : Value) (n : Nat) (xs : List Value) (W : World) : Prop where
  rg : W.ranges Try.prog 9 (Rp W0) b r nd D0 left cnt
  row : W.ownsRow w.heap.size 91 2 v n xs
  hk : Nums W bk nk Dk
  hv : Nums W bv nv Dv
  kept : Kept bk bv w W

theorem Kept.grown {ga go : Nat} {a w w' : World} (h : Kept ga go a w) {row : Option Nat} (hg : w.grownBy w' row) (hr : ∀ j, row = some j → a.heap.size ≤ j ∨ j = ga ∨ j = go) : Kept ga go a w' :=
  ⟨hg.os.trans h.os, hg.tape.trans h.tape, hg.output.trans h.output, Nat.le_trans h.size hg.size, fun i hi h1 h2 =>
    (hg.block i (Nat.lt_of_lt_of_le hi h.size) (fun e => by rcases hr i e.symm with h3 | h3 | h3 <;> omega)).trans (h.block i hi h1 h2)⟩

section
variable {W0 w : World} {bk bv b r nd nk nv : Nat} {D0 Dk Dv : DataW Unit} {left : Lit → Bool} {cnt : Nat} {v : Value} {n : Nat} {xs : List Value} {W W' : World}

/-- A step that leaves all that the loop holds. -/
theorem St.far (h : St W0 w bk bv b r nd nk nv D0 Dk Dv left cnt v n xs W) {row : Option Nat} (hg : W.grownBy W' row) (h1 : some b ≠ row) (h2 : some r ≠ row) (h3 : some bk ≠ row) (h4 : some bv ≠ row) (h5 : v.ownBlock = none ∨ v.ownBlock ≠ row) (h6 : ∀ j, row = some j → w.heap.size ≤ j) :
    St W0 w bk bv b r nd nk nv D0 Dk Dv left cnt v n xs W' :=
  ⟨h.rg.kept hg h1 h2, h.row.kept hg h5, h.hk.kept hg h3, h.hv.kept hg h4, h.kept.grown hg fun j hj => .inl (h6 j hj)⟩
theorem St.more (h : St W0 w bk bv b r nd nk nv D0 Dk Dv left cnt v n xs W) (hg : W.grownBy W' none) : St W0 w bk bv b r nd nk nv D0 Dk Dv left cnt v n xs W' :=
  h.far hg (by simp) (by simp) (by simp) (by simp) (by cases v.ownBlock <;> simp) (fun j hj => by cases hj)
theorem St.key (h : St W0 w bk bv b r nd nk nv D0 Dk Dv left cnt v n xs W) {Dk' : DataW Unit} (hk : Nums W' bk (nk + 1) Dk') (hg : W.grownBy W' (some bk)) (h1 : b ≠ bk) (h2 : bk < w.heap.size) (h3 : bv ≠ bk) (h4 : w.heap.size ≤ r) :
    St W0 w bk bv b r nd (nk + 1) nv D0 Dk' Dv left cnt v n xs W' :=
  ⟨h.rg.kept hg (by simpa using h1) (by simp; omega), h.row.kept hg (.inr (row_ne_low h.row h2).symm), hk, h.hv.kept hg (by simpa using h3), h.kept.grown hg fun j hj => by cases hj; exact .inr (.inl rfl)⟩
theorem St.value (h : St W0 w bk bv b r nd nk nv D0 Dk Dv left cnt v n xs W) {Dv' : DataW Unit} (hv : Nums W' bv (nv + 1) Dv') (hg : W.grownBy W' (some bv)) (h1 : b ≠ bv) (h2 : bv < w.heap.size) (h3 : bk ≠ bv) (h4 : w.heap.size ≤ r) :
    St W0 w bk bv b r nd nk (nv + 1) D0 Dk Dv' left cnt v n xs W' :=
  ⟨h.rg.kept hg (by simpa using h1) (by simp; omega), h.row.kept hg (.inr (row_ne_low h.row h2).symm), h.hk.kept hg (by simpa using h3), hv, h.kept.grown hg fun j hj => by cases hj; exact .inr (.inr rfl)⟩
theorem St.mono (h : St W0 w bk bv b r nd nk nv D0 Dk Dv left cnt v n xs W) {nv' : Nat} (hn : nv ≤ nv') : St W0 w bk bv b r nd nk nv' D0 Dk Dv left cnt v n xs W := ⟨h.rg, h.row, h.hk, h.hv.mono hn, h.kept⟩
/-- Behind the append. -/
theorem St.appended (h : St W0 w bk bv b r nd nk nv D0 Dk Dv left cnt v n xs W) {v' : Value} {n' : Nat} {xs' : List Value} (hrow : W'.ownsRow w.heap.size 91 2 v' n' xs') (hg : W.grownBy W' v.ownBlock) (h1 : b < w.heap.size) (h2 : bk < w.heap.size) (h3 : bv < w.heap.size) :
    St W0 w bk bv b r nd nk nv D0 Dk Dv left cnt v' n' xs' W' :=
  ⟨h.rg.kept hg (row_ne_low h.row h1) (row_ne_iter h.row h.rg), hrow, h.hk.kept hg (row_ne_low h.row h2), h.hv.kept hg (row_ne_low h.row h3), h.kept.grown hg fun j hj => .inl (h.row.lt j hj).1⟩
end

theorem grown_setPast {a c : World} (h : a.grownBy c none) {q o : Nat} (hq : a.heap.size ≤ q) (u : Value) : a.grownBy (c.setCell ⟨q, o, none⟩ u) none :=
  ⟨h.os, h.tape, h.output, by simpa [World.setCell] using h.size, fun k hk hne => (Below.heap_setCell _ _ _ _ (by simp; omega)).trans (h.block k hk hne)⟩
theorem grown_set (w : World) (q o : Nat) (u : Value) : w.grownBy (w.setCell ⟨q, o, none⟩ u) (some q) :=
  ⟨rfl, rfl, rfl, by simp [World.setCell], fun k _ hne => Below.heap_setCell _ _ _ _ (fun e => hne (by rw [e]))⟩
end Go.Proofs.Qxb6602268a
