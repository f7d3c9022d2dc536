/-
  Seat b6600017a: FnRelaxedEmptyTouchesNoOtherTable returns true.
-/
import Derived.Test.Qxb6600017aShared
import Derived.Test.Qxb6600017aReady
namespace Go.Proofs.Qxb6600017a
open Go.RowKit

theorem lens_parts (x : Nat → Tab) {k n : Nat} (h : k < n) : (x k).fn ≤ lens x n ∧ (x k).wn ≤ lens x n ∧ (x k).bn ≤ lens x n := by
  have := lens_mono x (show k + 1 ≤ n from h)
  simp only [lens] at this
  omega

/-- Twenty-three cells, kept by whatever keeps the blocks that were there. -/
theorem keep23 {w w' : World} {g b o p : Nat} {v0 v1 v2 v3 v4 v5 v6 v7 v8 v9 v10 v11 v12 v13 v14 v15 t0 t1 t2 t3 t4 t5 t6 : Value} (e0 : w.cell? ⟨g, o, none⟩ = some v0) (e1 : w.cell? ⟨g, o + 1, none⟩ = some v1) (e2 : w.cell? ⟨g, o + 2, none⟩ = some v2) (e3 : w.cell? ⟨g, o + 3, none⟩ = some v3) (e4 : w.cell? ⟨g, o + 4, none⟩ = some v4) (e5 : w.cell? ⟨g, o + 5, none⟩ = some v5) (e6 : w.cell? ⟨g, o + 6, none⟩ = some v6) (e7 : w.cell? ⟨g, o + 7, none⟩ = some v7) (e8 : w.cell? ⟨g, o + 8, none⟩ = some v8) (e9 : w.cell? ⟨g, o + 9, none⟩ = some v9) (e10 : w.cell? ⟨g, o + 10, none⟩ = some v10) (e11 : w.cell? ⟨g, o + 11, none⟩ = some v11) (e12 : w.cell? ⟨g, o + 12, none⟩ = some v12) (e13 : w.cell? ⟨g, o + 13, none⟩ = some v13) (e14 : w.cell? ⟨g, o + 14, none⟩ = some v14) (e15 : w.cell? ⟨g, o + 15, none⟩ = some v15) (f0 : w.cell? ⟨b, p, none⟩ = some t0) (f1 : w.cell? ⟨b, p + 1, none⟩ = some t1) (f2 : w.cell? ⟨b, p + 2, none⟩ = some t2) (f3 : w.cell? ⟨b, p + 3, none⟩ = some t3) (f4 : w.cell? ⟨b, p + 4, none⟩ = some t4) (f5 : w.cell? ⟨b, p + 5, none⟩ = some t5) (f6 : w.cell? ⟨b, p + 6, none⟩ = some t6) (hB : Below w.heap.size w w') :
    w'.cell? ⟨g, o, none⟩ = some v0 ∧ w'.cell? ⟨g, o + 1, none⟩ = some v1 ∧ w'.cell? ⟨g, o + 2, none⟩ = some v2 ∧ w'.cell? ⟨g, o + 3, none⟩ = some v3 ∧ w'.cell? ⟨g, o + 4, none⟩ = some v4 ∧ w'.cell? ⟨g, o + 5, none⟩ = some v5 ∧ w'.cell? ⟨g, o + 6, none⟩ = some v6 ∧ w'.cell? ⟨g, o + 7, none⟩ = some v7 ∧ w'.cell? ⟨g, o + 8, none⟩ = some v8 ∧ w'.cell? ⟨g, o + 9, none⟩ = some v9 ∧ w'.cell? ⟨g, o + 10, none⟩ = some v10 ∧ w'.cell? ⟨g, o + 11, none⟩ = some v11 ∧ w'.cell? ⟨g, o + 12, none⟩ = some v12 ∧ w'.cell? ⟨g, o + 13, none⟩ = some v13 ∧ w'.cell? ⟨g, o + 14, none⟩ = some v14 ∧ w'.cell? ⟨g, o + 15, none⟩ = some v15 ∧ w'.cell? ⟨b, p, none⟩ = some t0 ∧ w'.cell? ⟨b, p + 1, none⟩ = some t1 ∧ w'.cell? ⟨b, p + 2, none⟩ = some t2 ∧ w'.cell? ⟨b, p + 3, none⟩ = some t3 ∧ w'.cell? ⟨b, p + 4, none⟩ = some t4 ∧ w'.cell? ⟨b, p + 5, none⟩ = some t5 ∧ w'.cell? ⟨b, p + 6, none⟩ = some t6 :=
  have hg : g < w.heap.size := World.block_lt_of_cell? w _ e0
  have hb : b < w.heap.size := World.block_lt_of_cell? w _ f0
  have eg : ∀ j, w'.cell? ⟨g, j, none⟩ = w.cell? ⟨g, j, none⟩ := fun j => hB.cell (p := ⟨g, j, none⟩) hg
  have eb : ∀ j, w'.cell? ⟨b, j, none⟩ = w.cell? ⟨b, j, none⟩ := fun j => hB.cell (p := ⟨b, j, none⟩) hb
  ⟨(eg _).trans e0, (eg _).trans e1, (eg _).trans e2, (eg _).trans e3, (eg _).trans e4, (eg _).trans e5, (eg _).trans e6, (eg _).trans e7, (eg _).trans e8, (eg _).trans e9, (eg _).trans e10, (eg _).trans e11, (eg _).trans e12, (eg _).trans e13, (eg _).trans e14, (eg _).trans e15, (eb _).trans f0, (eb _).trans f1, (eb _).trans f2, (eb _).trans f3, (eb _).trans f4, (eb _).trans f5, (eb _).trans f6⟩

set_option maxHeartbeats 4000000 in
set_option maxRecDepth 100000 in
theorem law9 (a : Option Addr) (n c : Nat) (x : Nat → Tab) (node : Int) (w : World) (hn : n ≤ 9223372036854775807) (ht : Tabs w a n x) :
    Calls Try.prog 9 #[.slice a n c, .int .i64 node] w fun e w' => e = .returned (.bool true) ∧ Below w.heap.size w w' := by
  have HT : Hid (Tabs w a n x) := ht
  clear ht
  go_enter Try.func9, Try.ntmps9
  go_wp2_with fail
  refine (bytes33 a n c x node _ hn HT.out).mono ?_
  rintro e w' ⟨⟨r, rfl, hfit⟩, hw⟩
  obtain rfl : w = w' := hw.symm
  cases r with
  | false =>
    go_wp2_with fail
    go_ret
    exact ⟨rfl, Below.refl _ _⟩
  | true =>
  have hfit' := hfit rfl
  clear hfit hw
  go_wp2_with fail
  refine (tablesFit11 a n c x _ hn HT.out).mono ?_
  rintro e w1 ⟨⟨r, rfl⟩, hbel1⟩
  cases r with
  | false =>
    go_wp2_with fail
    go_ret
    exact ⟨rfl, hbel1⟩
  | true =>
  by_cases hneg : node < 0
  · go_wp2_with fail
    go_ret
    exact ⟨rfl, hbel1⟩
  have hnd : decide (node < 0) = false := decide_eq_false hneg
  obtain ⟨k, rfl⟩ := Int.eq_ofNat_of_zero_le (by omega : 0 ≤ node)
  by_cases hk : k < n
  rotate_left
  · have hge : (n : Int) ≤ (k : Int) := by omega
    go_wp2_with fail
    go_ret
    exact ⟨rfl, hbel1⟩
  have hk' : (k : Int) < (n : Int) := by omega
  have HT1 : Hid (Tabs w1 a n x) := HT.out.later hbel1
  rcases HT1.out.1 with h | ⟨b, off, rfl, hc⟩
  · omega
  have e5 := (hc k hk).c5
  clear hc
  by_cases hw0 : (x k).wn = 0
  · have hw0' : (((x k).wn : Int) == 0) = true := by simp [hw0]
    go_wp2_with fail
    go_ret
    exact ⟨rfl, hbel1⟩
  have hw0' : (((x k).wn : Int) == 0) = false := by simp [hw0]
  have hwpos : 0 < (x k).wn := by omega
  clear hw0
  go_wp2_with fail
  have hgr : ∀ o, Below w1.heap.size w1 (w1.alloc o) := fun o => (Below.refl _ _).alloc (Nat.le_refl _) o
  refine (shared31 _ n c x _ hfit' (by exact HT1.out.later (hgr _))).mono ?_
  rintro e w3 ⟨ga, go, rfl, hlt, hga, hsh⟩
  have hs0 : w3.cell? ⟨w1.heap.size, 0, none⟩ = some (.int .i64 0) := (hsh.bel.cell (p := ⟨w1.heap.size, 0, none⟩) (by simp)).trans ((Own.new w1 29 _).cell 0)
  have hs1 : w3.cell? ⟨w1.heap.size, 1, none⟩ = some (.int .u64 0) := (hsh.bel.cell (p := ⟨w1.heap.size, 1, none⟩) (by simp)).trans ((Own.new w1 29 _).cell 1)
  have hs2 : w3.cell? ⟨w1.heap.size, 2, none⟩ = some (.int .u64 0) := (hsh.bel.cell (p := ⟨w1.heap.size, 2, none⟩) (by simp)).trans ((Own.new w1 29 _).cell 2)
  have hs3 : w3.cell? ⟨w1.heap.size, 3, none⟩ = some (.int .u64 0) := (hsh.bel.cell (p := ⟨w1.heap.size, 3, none⟩) (by simp)).trans ((Own.new w1 29 _).cell 3)
  have hbel13 : Below w1.heap.size w1 w3 := (hgr _).trans (hsh.bel.mono (by simp))
  have hga' : w1.heap.size < ga := by have h := hga; simp at h; omega
  obtain ⟨ys, hya, hyl, hyo⟩ := hsh.arr
  obtain ⟨os, hoo, hol, hok⟩ := hsh.out
  have hsz3 := hbel13.size
  clear hsh hgr hga e5
  obtain ⟨pfn, pwn, pbn⟩ := lens_parts x hk
  obtain ⟨a14, c14, h14, hp14⟩ := (hok k hk).fwd
  obtain ⟨a15, c15, h15, hp15⟩ := (hok k hk).bck
  have hoff := offs_mono x (show k + 1 ≤ n from hk)
  simp only [offs] at hoff
  rcases hp14 with h | rfl
  · omega
  have HYO : Hid (ArrOK x n ys (offs x n)) := hyo
  have HOK : Hid (∀ t, t < n → OutOK x ga go w3 os t) := hok
  have H14 : Hid (os[k * 16 + 14]? = some (.slice (some ⟨ga, offs x k * 5, none⟩) (x k).wn c14)) := h14
  have H15 : Hid (os[k * 16 + 15]? = some (.slice a15 (x k).bn c15)) := h15
  have HOL : Hid (os.length = n * 16) := hol
  have HYL : Hid (ys.length = offs x n * 5) := hyl
  have HF15 : Hid ((x k).bn = 0 ∨ (a15 = some ⟨ga, (offs x k + (x k).wn) * 5, none⟩ ∧ (offs x k + (x k).wn) * 5 + (x k).bn * 5 ≤ ys.length)) := by
    rcases hp15 with h | h
    · exact .inl h
    · exact .inr ⟨h, by rw [hyl]; omega⟩
  have HF14 : Hid (offs x k * 5 + (x k).wn * 5 ≤ ys.length) := by show _ ≤ _; rw [hyl]; omega
  clear hyo hok h14 h15 hol hyl hp15
  go_wp2_with fail
  refine (empty32 n n k (x k).wn (x k).bn (offs x k * 5) c14 c15 a15 ((offs x k + (x k).wn) * 5) _ _ _ _ ga go ys os _ (by omega) (by omega) hk hwpos (by omega) (by omega) hoo hya HOL.out H14.out HF14.out H15.out HF15.out).mono ?_
  rintro e w5 ⟨rfl, hem⟩
  have hkept : Kept ga go w3 w5 := by obtain ⟨_, _, _, _, _, _, h⟩ := hem; exact h
  have hbel15 : Below w1.heap.size w1 w5 := hbel13.trans (hkept.below hsz3 (by omega) (by omega))
  have HRD : Hid (∀ t, t < n → t ≠ k → Ready x go t w5) := fun t ht htk => ready hlt ys os HYO.out HOK.out HOL.out hem t ht htk
  have HT5 : Hid (Tabs w5 (some ⟨b, off, none⟩) n x) := HT1.out.later hbel15
  have hbel5 : Below w.heap.size w w5 := hbel1.trans (hbel15.mono hbel1.size)
  clear hem hkept hbel15 hbel13 HYO HOK H14 H15 HOL HYL HF15 HF14 hs0 hs1 hs2 hs3 hya hoo hoff HT HT1 hbel1 hga' hsz3 hlt pfn pwn pbn
  go_wp2_with fail
  go_loopw [7] (fun i wr => ∃ j : Nat, j ≤ n ∧ i = .int .i64 j ∧ Below w5.heap.size w5 wr) (fun i _ => n - (intOf i).toNat)
  case atStart => exact ⟨0, Nat.zero_le _, rfl, Below.refl _ _⟩
  case round =>
    obtain ⟨j, hj, rfl, hbel⟩ := hrel
    by_cases hjn : j < n
    rotate_left
    · go_wp2_with fail
      go_ret
      exact ⟨rfl, hbel5.trans (hbel.mono hbel5.size)⟩
    by_cases hjk : j = k
    · have hjk' : ((j : Int) == (k : Int)) = true := by simp [hjk]
      clear hjk
      go_wp2_with fail
      go_roundw
      case rel => exact ⟨j + 1, by omega, by go_num, hbel⟩
      case measure => simp [intOf]; omega
    have hjk' : ((j : Int) == (k : Int)) = false := by simp; omega
    obtain ⟨u0, u1, u2, u3, u4, u5, u7, u8, u9, a13, a14, a15, c13, c14, c15, ⟨g0, g1, g2, g3, g4, g5, g6, g7, g8, g9, g10, g11, g12, g13, g14, g15⟩, r13, r14, r15⟩ := (HRD.out j hjn hjk).later hbel
    have hin := (HT5.out.2 j hjn).later hbel
    rcases HT5.out.1 with h | ⟨b', off', hbo, hc⟩
    · omega
    simp only [Option.some.injEq, Addr.mk.injEq, and_true] at hbo
    obtain ⟨rfl, rfl⟩ := hbo
    obtain ⟨t0, t1, t2, t3, t4, t5, t6⟩ := (hc j hjn).later hbel
    obtain ⟨pfn, pwn, pbn⟩ := lens_parts x hjn
    have hf1 : (x j).fn ≤ 1048576 := by omega
    have hf2 : (x j).wn ≤ 1048576 := by omega
    have hf3 : (x j).bn ≤ 1048576 := by omega
    have hj' : (j : Int) < (n : Int) := by omega
    have HIN : Hid ((x j).In wr) := hin
    have HR13 : Hid (Row4 (go + 1) wr a13 (x j).fn (x j).fol) := r13
    have HR14 : Hid (Row5 wr a14 (x j).wn (x j).fwd) := r14
    have HR15 : Hid (Row5 wr a15 (x j).bn (x j).bck) := r15
    clear hin hc r13 r14 r15 pfn pwn pbn hjk
    go_wp2_with fail
    go_region_held3 (fun w' => w'.cell? ⟨go, j * 16, none⟩ = some u0 ∧ w'.cell? ⟨go, j * 16 + 1, none⟩ = some u1 ∧ w'.cell? ⟨go, j * 16 + 2, none⟩ = some u2 ∧ w'.cell? ⟨go, j * 16 + 3, none⟩ = some u3 ∧ w'.cell? ⟨go, j * 16 + 4, none⟩ = some u4 ∧ w'.cell? ⟨go, j * 16 + 5, none⟩ = some u5 ∧ w'.cell? ⟨go, j * 16 + 6, none⟩ = some (.int .i32 (x j).pred) ∧ w'.cell? ⟨go, j * 16 + 7, none⟩ = some u7 ∧ w'.cell? ⟨go, j * 16 + 8, none⟩ = some u8 ∧ w'.cell? ⟨go, j * 16 + 9, none⟩ = some u9 ∧ w'.cell? ⟨go, j * 16 + 10, none⟩ = some (.int .i32 (x j).succ) ∧ w'.cell? ⟨go, j * 16 + 11, none⟩ = some (.bool (x j).nop) ∧ w'.cell? ⟨go, j * 16 + 12, none⟩ = some (.bool (x j).quiet) ∧ w'.cell? ⟨go, j * 16 + 13, none⟩ = some (.slice a13 (x j).fn c13) ∧ w'.cell? ⟨go, j * 16 + 14, none⟩ = some (.slice a14 (x j).wn c14) ∧ w'.cell? ⟨go, j * 16 + 15, none⟩ = some (.slice a15 (x j).bn c15) ∧ w'.cell? ⟨b, off + j * 7, none⟩ = some (.int .i32 (x j).pred) ∧ w'.cell? ⟨b, off + j * 7 + 1, none⟩ = some (.int .i32 (x j).succ) ∧ w'.cell? ⟨b, off + j * 7 + 2, none⟩ = some (.bool (x j).nop) ∧ w'.cell? ⟨b, off + j * 7 + 3, none⟩ = some (.bool (x j).quiet) ∧ w'.cell? ⟨b, off + j * 7 + 4, none⟩ = some (.slice (x j).fa (x j).fn (x j).fc) ∧ w'.cell? ⟨b, off + j * 7 + 5, none⟩ = some (.slice (x j).wa (x j).wn (x j).wc) ∧ w'.cell? ⟨b, off + j * 7 + 6, none⟩ = some (.slice (x j).ba (x j).bn (x j).bc))
      ((refine keep23 g0 g1 g2 g3 g4 g5 g6 g7 g8 g9 g10 g11 g12 g13 g14 g15 t0 t1 t2 t3 t4 t5 t6 (?_ : Below wr.heap.size wr _); first | with_reducible exact hbX | exact Below.drew (Below.refl _ _)))
      (first | (go_at_call 34; refine (table34 (x j) _ _ _ _ _ _ _ _ _ a13 a14 a15 c13 c14 c15 (go + 1) _ hf1 hf2 hf3 (by exact HIN.out.later (Below.drew (Below.refl _ _))) (by exact HR13.out.later (Below.drew (Below.refl _ _))) (by exact HR14.out.later (Below.drew (Below.refl _ _))) (by exact HR15.out.later (Below.drew (Below.refl _ _)))).mono ?_; rintro e w7 ⟨rfl, hbel7⟩; have hbX : Below wr.heap.size wr w7 := (Below.drew (Below.refl _ wr)).trans hbel7))
    refine exit_via (fun W => Below w5.heap.size w5 W) (hbel.trans (hbX.mono hbel.size)) ?_
    intro W hbW
    clear hbX hbel7 hbel HIN HR13 HR14 HR15 hf1 hf2 hf3 g0 g1 g2 g3 g4 g5 g6 g7 g8 g9 g10 g11 g12 g13 g14 g15 t0 t1 t2 t3 t4 t5 t6
    go_wp2_with fail
    go_roundw
    case rel => exact ⟨j + 1, by omega, by go_num, hbW⟩
    case measure => simp [intOf]; omega
end Go.Proofs.Qxb6600017a
