/-
  Seat b6602268a: zzSamePairs says yes of two rows of pairs that are permutations of one another.
-/
import Derived.Test.Qxb6602268aPair
import Derived.Test.Qxb6602268aUnpack
namespace Go.Proofs.Qxb6602268a
open Go.RowKit Go.Maps

theorem lawI : Keyed Try.prog 2 := int_keyed Try.underlying2
theorem zero3 (w : World) : (zeroValue 3).run Try.prog w = .ok (.int .i64 0) w := by kernel_rfl

/-- A map of counts that the walk holds. -/
abbrev IMap (w : World) (b n : Nat) (D : DataW Unit) : Prop := w.ownsMap Try.prog 2 (plainElem Try.prog 3) b n D
/-- D counts as f does. -/
def Cnt (D : DataW Unit) (f : Int → Nat) : Prop := ∀ z, D.atKey (.int .i64 z) (.lit (.int .i64 0)) = .lit (.int .i64 (f z))
theorem Cnt.start : Cnt (.map []) fun _ => 0 := fun _ => rfl
theorem Cnt.put {D : DataW Unit} {f g : Int → Nat} (h : Cnt D f) (hD : IsMap D) {z0 : Int} (hw : (Lit.int .i64 z0).wf = true) (hg0 : ∀ z, z ≠ z0 → g z = f z) : Cnt (D.put (.int .i64 z0) (.lit (.int .i64 (g z0)))) g := fun z => by
  by_cases hz : z = z0
  · subst hz; exact atKey_put_same hD (lawI.key (keyOf_int_mk Try.underlying2 hw)) _ _
  · rw [atKey_put_other (by simpa using hz)]; rw [hg0 z hz]; exact h z

/-- The keys that zzSamePairs counts. -/
def ks (l : List (Int × Int)) : List Int := l.map fun p => PP p.1 p.2
theorem ks_at {l : List (Int × Int)} {i : Nat} (h : i < l.length) : (ks l)[i]? = some (PP (at2 l i).1 (at2 l i).2) := by
  simp [ks, at2, h]
theorem take_count {l : List Int} {k : Nat} {x : Int} (h : l[k]? = some x) (z : Int) : (l.take (k + 1)).count z = (l.take k).count z + if z = x then 1 else 0 := by
  rw [List.take_add_one, h, List.count_append]
  simp only [Option.toList_some, List.count_singleton]
  congr 1
  by_cases e : z = x
  · subst e; simp
  · have e' : (x == z) = false := by simpa using fun h : x = z => e h.symm
    simp [e', e]

theorem keepB {w W : World} {B b1 b2 o1 o2 : Nat} {u v : Value} (h1 : w.cell? ⟨b1, o1, none⟩ = some u) (h2 : w.cell? ⟨b2, o2, none⟩ = some v) (hb1 : b1 < B) (hb2 : b2 < B) (h : Below B w W) : W.cell? ⟨b1, o1, none⟩ = some u ∧ W.cell? ⟨b2, o2, none⟩ = some v :=
  ⟨by rw [World.cell?_of_block (a := ⟨b1, o1, none⟩) (h.block _ hb1)]; exact h1, by rw [World.cell?_of_block (a := ⟨b2, o2, none⟩) (h.block _ hb2)]; exact h2⟩

theorem wrap_one (c : Nat) (h : c ≤ 1048576) : IntKind.i64.wrap ((c : Int) + 1) = (c : Int) + 1 := by
  simp only [IntKind.wrap, IntKind.signed, IntKind.bits]
  simp
  omega

theorem wrap_zero (c : Nat) (h : c ≤ 1048576) : IntKind.i64.wrap (c : Int) = (c : Int) := by
  simp only [IntKind.wrap, IntKind.signed, IntKind.bits]
  simp
  omega

set_option maxHeartbeats 2000000 in
set_option maxRecDepth 100000 in
theorem same34 (l1 l2 : List (Int × Int)) (hp : l1.Perm l2) (n c1 c2 c3 c4 : Nat) (a1 a2 a3 a4 : Option Addr) (w : World) (hl1 : l1.length = n) (hl2 : l2.length = n) (hn : n ≤ 1048576)
    (hr1 : Row w a1 n fun i => .int .i32 (at2 l1 i).1) (hr2 : Row w a2 n fun i => .int .i32 (at2 l1 i).2) (hr3 : Row w a3 n fun i => .int .i32 (at2 l2 i).1) (hr4 : Row w a4 n fun i => .int .i32 (at2 l2 i).2) :
    Calls Try.prog 34 #[.slice a1 n c1, .slice a2 n c2, .slice a3 n c3, .slice a4 n c4] w fun e w' => e = .returned (.bool true) ∧ Below w.heap.size w w' := by
  have HR1 : Hid (Row w a1 n fun i => .int .i32 (at2 l1 i).1) := hr1
  have HR2 : Hid (Row w a2 n fun i => .int .i32 (at2 l1 i).2) := hr2
  have HR3 : Hid (Row w a3 n fun i => .int .i32 (at2 l2 i).1) := hr3
  have HR4 : Hid (Row w a4 n fun i => .int .i32 (at2 l2 i).2) := hr4
  have HP : Hid ((ks l1).Perm (ks l2)) := hp.map _
  have HL1 : Hid (l1.length = n) := hl1
  have HL2 : Hid (l2.length = n) := hl2
  clear hr1 hr2 hr3 hr4 hp hl1 hl2
  have hmm := fun i w => run_makeMap_hint (P := Try.prog) (t := 88) Try.underlying88 .i64 i w
  go_enter Try.func34, Try.ntmps34
  go_wp2
  refine wp_via (fun W => IMap W w.heap.size 0 (.map []) ∧ Below w.heap.size w W) ⟨World.ownsMap_made _ _ _ _, (Below.refl _ _).alloc (Nat.le_refl _) _⟩ ?_
  intro W ⟨hownW, hbelW⟩
  clear hmm
  go_loopw [10] (fun i wr => ∃ k : Nat, k ≤ n ∧ i = .int .i64 k ∧ ∃ D, IMap wr w.heap.size k D ∧ Cnt D (fun z => ((ks l1).take k).count z) ∧ Below w.heap.size w wr) (fun i _ => n - (intOf i).toNat)
  case atStart => exact ⟨0, Nat.zero_le _, rfl, _, hownW, by simpa using Cnt.start, hbelW⟩
  case round =>
    clear hownW hbelW
    obtain ⟨k, hk, rfl, D, hown, hcnt, hbel⟩ := hrel
    by_cases hlt : k < n
    · rcases HR1.out.later hbel with h | ⟨b1, o1, rfl, e1⟩
      · omega
      rcases HR2.out.later hbel with h | ⟨b2, o2, rfl, e2⟩
      · omega
      have hb1 : b1 < w.heap.size := by
        rcases HR1.out with h | ⟨b, off, ha, hc⟩
        · omega
        · cases ha; exact World.block_lt_of_cell? w _ (hc k hlt)
      have hb2 : b2 < w.heap.size := by
        rcases HR2.out with h | ⟨b, off, ha, hc⟩
        · omega
        · cases ha; exact World.block_lt_of_cell? w _ (hc k hlt)
      have q1 := e1 k hlt
      have q2 := e2 k hlt
      clear e1 e2
      have hkey : keyOf Try.prog 2 (.int .i64 (PP (at2 l1 k).1 (at2 l1 k).2)) = some (.int .i64 (PP (at2 l1 k).1 (at2 l1 k).2)) := keyOf_int_mk Try.underlying2 (PP_wf _ _)
      obtain ⟨c, hlk, hat, _⟩ := World.ownsMap.lookup_int (w := wr.drew) hown lawI Try.underlying88 Try.underlying3 (zero3 _) hkey
      rw [hcnt] at hat
      obtain rfl : (((ks l1).take k).count (PP (at2 l1 k).1 (at2 l1 k).2) : Int) = c := by simpa using hat
      have hcl : ((ks l1).take k).count (PP (at2 l1 k).1 (at2 l1 k).2) ≤ 1048576 := Nat.le_trans List.count_le_length (by simp; omega)
      generalize hce : ((ks l1).take k).count (PP (at2 l1 k).1 (at2 l1 k).2) = c at *
      have hwc : (Lit.int .i64 ((c : Int) + 1)).wf = true := by simp [Lit.wf, IntKind.min, IntKind.max, IntKind.signed, IntKind.bits]; omega
      obtain ⟨w5, hup, hown5, hg5⟩ := World.ownsMap.update (w := wr.drew) hown lawI Try.underlying88 (by unfold maxLen; omega) hkey (plainElem_int Try.underlying3 hwc)
      have hb5 : Below w.heap.size wr w5 := (Below.drew (Below.refl _ wr)).grown hg5 hbel.size (fun j hj => by cases hj; exact Nat.le_refl _)
      have hD := hown.isMap
      have hwr : IntKind.i64.wrap ((c : Int) + 1) = (c : Int) + 1 := wrap_one c hcl
      clear hat hown
      go_wp2
      go_region_held3 (fun w' => w'.cell? ⟨b1, o1 + k, none⟩ = some (.int .i32 (at2 l1 k).1) ∧ w'.cell? ⟨b2, o2 + k, none⟩ = some (.int .i32 (at2 l1 k).2))
        ((refine keepB q1 q2 hb1 hb2 (?_ : Below w.heap.size wr _); first | with_reducible exact Below.refl _ _ | with_reducible exact hb5 | exact Below.drew (Below.refl _ _)))
        (first | (go_at_call 44; refine (pair44 _ _ _).mono ?_; rintro e w9 ⟨rfl, rfl⟩))
      refine exit_via (fun W' => IMap W' w.heap.size (k + 1) (D.put (.int .i64 (PP (at2 l1 k).1 (at2 l1 k).2)) (.lit (.int .i64 ((c : Int) + 1)))) ∧ Below w.heap.size w W') ⟨hown5, hbel.trans hb5⟩ ?_
      intro W' ⟨hownW', hbelW'⟩
      clear hown5 hb5 hg5 hup hlk hbel hwr
      go_wp2
      go_roundw
      case rel =>
        refine ⟨k + 1, by omega, by go_num, _, hownW', ?_, hbelW'⟩
        have hk1 := ks_at (l := l1) (i := k) (by have := HL1.out; omega)
        have e : (((ks l1).take (k + 1)).count (PP (at2 l1 k).1 (at2 l1 k).2)) = c + 1 := by rw [take_count hk1, hce]; simp
        have e' : (c : Int) + 1 = (((ks l1).take (k + 1)).count (PP (at2 l1 k).1 (at2 l1 k).2) : Nat) := by rw [e]; rfl
        rw [e']
        exact hcnt.put (g := fun z => ((ks l1).take (k + 1)).count z) hD (PP_wf _ _) fun z hz => by show List.count z _ = _; rw [take_count hk1, if_neg hz]; rfl
      case measure => simp [intOf]; omega
    · have hkn : k = n := by omega
      have hcnt0 : Cnt D fun z => (ks l1).count z - ((ks l2).take 0).count z := fun z => by
        have e : (ks l1).take k = ks l1 := List.take_of_length_le (by have := HL1.out; simp [ks]; omega)
        have := hcnt z
        rw [e] at this
        simpa using this
      clear hcnt
      go_wp2
      go_loopw [11] (fun i wq => ∃ j : Nat, j ≤ n ∧ i = .int .i64 j ∧ ∃ D, IMap wq w.heap.size (n + j) D ∧ Cnt D (fun z => (ks l1).count z - ((ks l2).take j).count z) ∧ Below w.heap.size w wq) (fun i _ => n - (intOf i).toNat)
      case atStart => exact ⟨0, Nat.zero_le _, rfl, D, hown.mono (by omega), hcnt0, hbel⟩
      case round =>
        clear hcnt0 hown hbel hk hlt hkn
        obtain ⟨j, hj, rfl, D, hown, hcnt, hbel⟩ := hrel
        by_cases hlt : j < n
        · rcases HR3.out.later hbel with h | ⟨b1, o1, rfl, e1⟩
          · omega
          rcases HR4.out.later hbel with h | ⟨b2, o2, rfl, e2⟩
          · omega
          have hb1 : b1 < w.heap.size := by
            rcases HR3.out with h | ⟨b, off, ha, hc⟩
            · omega
            · cases ha; exact World.block_lt_of_cell? w _ (hc j hlt)
          have hb2 : b2 < w.heap.size := by
            rcases HR4.out with h | ⟨b, off, ha, hc⟩
            · omega
            · cases ha; exact World.block_lt_of_cell? w _ (hc j hlt)
          have q1 := e1 j hlt
          have q2 := e2 j hlt
          clear e1 e2
          have hk1 := ks_at (l := l2) (i := j) (by have := HL2.out; omega)
          have hpos : ((ks l2).take j).count (PP (at2 l2 j).1 (at2 l2 j).2) + 1 ≤ (ks l1).count (PP (at2 l2 j).1 (at2 l2 j).2) := by
            have e := take_count hk1 (PP (at2 l2 j).1 (at2 l2 j).2)
            rw [if_pos rfl] at e
            rw [← e, HP.out.count_eq]
            exact (List.take_sublist _ _).count_le _
          have hmax : (ks l1).count (PP (at2 l2 j).1 (at2 l2 j).2) ≤ 1048576 := Nat.le_trans List.count_le_length (by have := HL1.out; simp [ks]; omega)
          obtain ⟨c, hce⟩ : ∃ c : Nat, (ks l1).count (PP (at2 l2 j).1 (at2 l2 j).2) - ((ks l2).take j).count (PP (at2 l2 j).1 (at2 l2 j).2) = c + 1 := ⟨_, (Nat.succ_pred_eq_of_pos (by omega)).symm⟩
          have hcl : c ≤ 1048576 := by omega
          clear hpos hmax
          go_wp2
          go_region_held3 (fun w' => w'.cell? ⟨b1, o1 + j, none⟩ = some (.int .i32 (at2 l2 j).1) ∧ w'.cell? ⟨b2, o2 + j, none⟩ = some (.int .i32 (at2 l2 j).2))
            ((refine keepB q1 q2 hb1 hb2 (?_ : Below w.heap.size wr _); first | with_reducible exact Below.refl _ _ | exact Below.drew (Below.refl _ _)))
            (first | (go_at_call 44; refine (pair44 _ _ _).mono ?_; rintro e w9 ⟨rfl, rfl⟩))
          refine exit_via (fun W' => IMap W' w.heap.size (n + j) D ∧ Below w.heap.size w W') ⟨hown, hbel.trans (Below.drew (Below.refl _ _))⟩ ?_
          intro W' ⟨hownW, hbelW⟩
          clear hown hbel q1 q2
          have hkey : keyOf Try.prog 2 (.int .i64 (PP (at2 l2 j).1 (at2 l2 j).2)) = some (.int .i64 (PP (at2 l2 j).1 (at2 l2 j).2)) := keyOf_int_mk Try.underlying2 (PP_wf _ _)
          obtain ⟨c', hlk, hat, _⟩ := hownW.lookup_int lawI Try.underlying88 Try.underlying3 (zero3 _) hkey
          rw [hcnt] at hat
          obtain rfl : (c : Int) + 1 = c' := by
            have h' : (((ks l1).count (PP (at2 l2 j).1 (at2 l2 j).2) - ((ks l2).take j).count (PP (at2 l2 j).1 (at2 l2 j).2) : Nat) : Int) = c' := by simpa using hat
            rw [hce] at h'
            exact h'
          have hwc : (Lit.int .i64 (c : Int)).wf = true := by simp [Lit.wf, IntKind.min, IntKind.max, IntKind.signed, IntKind.bits]; omega
          obtain ⟨w5, hup, hown5, hg5⟩ := hownW.update lawI Try.underlying88 (by unfold maxLen; omega) hkey (plainElem_int Try.underlying3 hwc)
          have hb5 : Below w.heap.size w w5 := hbelW.grown hg5 hbelW.size (fun j hj => by cases hj; exact Nat.le_refl _)
          have hD := hownW.isMap
          have hnz : ((c : Int) + 1 == 0) = false := by simp; omega
          have hwr : IntKind.i64.wrap (c : Int) = (c : Int) := wrap_zero c hcl
          clear hat hownW hbelW hg5
          go_wp2
          go_roundw
          case rel =>
            refine ⟨j + 1, by omega, by go_num, _, hown5, ?_, hb5⟩
            have e := take_count hk1 (PP (at2 l2 j).1 (at2 l2 j).2)
            rw [if_pos rfl] at e
            have e' : c = (ks l1).count (PP (at2 l2 j).1 (at2 l2 j).2) - ((ks l2).take (j + 1)).count (PP (at2 l2 j).1 (at2 l2 j).2) := by omega
            rw [e']
            exact hcnt.put (g := fun z => (ks l1).count z - ((ks l2).take (j + 1)).count z) hD (PP_wf _ _) fun z hz => by show List.count z _ - List.count z _ = _; rw [take_count hk1, if_neg hz]; rfl
          case measure => simp [intOf]; omega
        · go_wp2
          go_ret
          exact ⟨rfl, hbel⟩
end Go.Proofs.Qxb6602268a
