/-
  Seat b6600017a: zzRelaxedTablesShared_b1.
-/
import Derived.Test.Qxb6600017aState
import Derived.Deep.QuietTactic
import Derived.BigQuiet
namespace Go.Proofs.Qxb6600017a
open Go.RowKit

theorem info70 : (Try.prog.info? 70).map (fun i => (i.zero, i.size, i.bytes)) = some (some (.agg #[.int .u64 0, .int .u64 0, .int .u64 0, .int .i32 0, .bool false]), 5, 40) := by kernel_rfl
theorem info60 : (Try.prog.info? 60).map (fun i => (i.zero, i.size, i.bytes)) = some (some (.agg #[.int .u64 0, .int .u64 0, .int .u64 0, .int .u64 0, .int .u64 0, .int .u64 0, .int .i32 0, .int .u64 0, .int .u64 0, .int .u64 0, .int .i32 0, .bool false, .bool false, .slice none 0 0, .slice none 0 0, .slice none 0 0]), 16, 168) := by kernel_rfl

theorem sh_start {x : Nat → Tab} {n N ga go : Nat} {w0 wr : World} {cs ds : List Value} (hb : Below w0.heap.size w0 wr) (ha : Own wr ga 70 cs) (hal : cs.length = N * 5) (ho : Own wr go 60 ds) (hol : ds.length = n * 16) : Sh x n N ga go w0 wr (offs x 0) 0 :=
  ⟨hb, ⟨cs, ha, hal, fun q hq => by simp [offs] at hq⟩, ⟨ds, ho, hol, fun t ht => by omega⟩⟩

/-- Three cells below B, kept by whatever keeps what lies below B. -/
theorem keep3 {w w' : World} {B b c o p q : Nat} {v0 v1 v2 : Value} (hb : b < B) (hc : c < B) (h0 : w.cell? ⟨b, o, none⟩ = some v0) (h1 : w.cell? ⟨c, p, none⟩ = some v1) (h2 : w.cell? ⟨c, q, none⟩ = some v2) (hB : Below B w w') :
    w'.cell? ⟨b, o, none⟩ = some v0 ∧ w'.cell? ⟨c, p, none⟩ = some v1 ∧ w'.cell? ⟨c, q, none⟩ = some v2 :=
  ⟨(hB.cell (p := ⟨b, o, none⟩) hb).trans h0, (hB.cell (p := ⟨c, p, none⟩) hc).trans h1, (hB.cell (p := ⟨c, q, none⟩) hc).trans h2⟩

theorem Own.some_cell' {w : World} {g n : Nat} {e : TypeId} {cs : List Value} (h : Own w g e cs) (hl : cs.length = n) (k : Nat) (hk : k < n) : ∃ v, w.cell? ⟨g, k, none⟩ = some v := h.some_cell hl hk

theorem wrap_sum2 (a b : Nat) (h : a + b ≤ 4194304) : IntKind.i64.wrap ((a : Int) + (b : Int)) = (a : Int) + (b : Int) := wrap_small _ (by omega) (by omega)
theorem wrap_sum3 (a b c : Nat) (h : a + b + c ≤ 4194304) : IntKind.i64.wrap ((a : Int) + (b : Int) + (c : Int)) = (a : Int) + (b : Int) + (c : Int) := wrap_small _ (by omega) (by omega)

/-- Sixteen cells that are there and may be written. -/
structure Sixteen (w : World) (g o : Nat) : Prop where
  c0 : ∃ v, w.cell? ⟨g, o, none⟩ = some v
  c1 : ∃ v, w.cell? ⟨g, o + 1, none⟩ = some v
  c2 : ∃ v, w.cell? ⟨g, o + 2, none⟩ = some v
  c3 : ∃ v, w.cell? ⟨g, o + 3, none⟩ = some v
  c4 : ∃ v, w.cell? ⟨g, o + 4, none⟩ = some v
  c5 : ∃ v, w.cell? ⟨g, o + 5, none⟩ = some v
  c6 : ∃ v, w.cell? ⟨g, o + 6, none⟩ = some v
  c7 : ∃ v, w.cell? ⟨g, o + 7, none⟩ = some v
  c8 : ∃ v, w.cell? ⟨g, o + 8, none⟩ = some v
  c9 : ∃ v, w.cell? ⟨g, o + 9, none⟩ = some v
  c10 : ∃ v, w.cell? ⟨g, o + 10, none⟩ = some v
  c11 : ∃ v, w.cell? ⟨g, o + 11, none⟩ = some v
  c12 : ∃ v, w.cell? ⟨g, o + 12, none⟩ = some v
  c13 : ∃ v, w.cell? ⟨g, o + 13, none⟩ = some v
  c14 : ∃ v, w.cell? ⟨g, o + 14, none⟩ = some v
  c15 : ∃ v, w.cell? ⟨g, o + 15, none⟩ = some v
  f0 : w.frozen? ⟨g, o, none⟩ = false
  f1 : w.frozen? ⟨g, o + 1, none⟩ = false
  f2 : w.frozen? ⟨g, o + 2, none⟩ = false
  f3 : w.frozen? ⟨g, o + 3, none⟩ = false
  f4 : w.frozen? ⟨g, o + 4, none⟩ = false
  f5 : w.frozen? ⟨g, o + 5, none⟩ = false
  f6 : w.frozen? ⟨g, o + 6, none⟩ = false
  f7 : w.frozen? ⟨g, o + 7, none⟩ = false
  f8 : w.frozen? ⟨g, o + 8, none⟩ = false
  f9 : w.frozen? ⟨g, o + 9, none⟩ = false
  f10 : w.frozen? ⟨g, o + 10, none⟩ = false
  f11 : w.frozen? ⟨g, o + 11, none⟩ = false
  f12 : w.frozen? ⟨g, o + 12, none⟩ = false
  f13 : w.frozen? ⟨g, o + 13, none⟩ = false
  f14 : w.frozen? ⟨g, o + 14, none⟩ = false
  f15 : w.frozen? ⟨g, o + 15, none⟩ = false

theorem sixteen {w : World} {g n k : Nat} {e : TypeId} {os : List Value} (h : Own w g e os) (hl : os.length = n * 16) (hk : k < n) : Sixteen w g (k * 16) :=
  ⟨h.some_cell hl (by omega), h.some_cell hl (by omega), h.some_cell hl (by omega), h.some_cell hl (by omega), h.some_cell hl (by omega), h.some_cell hl (by omega), h.some_cell hl (by omega), h.some_cell hl (by omega), h.some_cell hl (by omega), h.some_cell hl (by omega), h.some_cell hl (by omega), h.some_cell hl (by omega), h.some_cell hl (by omega), h.some_cell hl (by omega), h.some_cell hl (by omega), h.some_cell hl (by omega), h.frozen _, h.frozen _, h.frozen _, h.frozen _, h.frozen _, h.frozen _, h.frozen _, h.frozen _, h.frozen _, h.frozen _, h.frozen _, h.frozen _, h.frozen _, h.frozen _, h.frozen _, h.frozen _⟩

/-- zzNeighbours_b1, its result written out. -/
theorem nb38e (x : Tab) (w : World) (hfn : x.fn ≤ 1048576) (hr : Row w x.fa x.fn fun i => .int .i32 (x.fol i)) :
    Calls Try.prog 38 #[.agg #[.int .i32 x.pred, .int .i32 x.succ, .bool x.nop, .bool x.quiet, .slice x.fa x.fn x.fc, .slice x.wa x.wn x.wc, .slice x.ba x.bn x.bc]] w fun e w' => ∃ a' c', e = .returned (.agg #[.int .u64 0, .int .u64 0, .int .u64 0, .int .i32 x.pred, .int .u64 0, .int .u64 0, .int .u64 0, .int .i32 x.succ, .bool x.nop, .bool x.quiet, .slice a' x.fn c']) ∧ Row4 w.heap.size w' a' x.fn x.fol ∧ Below w.heap.size w w' :=
  (nb38 x w hfn hr).mono fun _ _ ⟨a', c', he, h⟩ => ⟨a', c', he, h⟩

theorem keep7 {w w' : World} {B b o : Nat} {v0 v1 v2 v3 v4 v5 v6 : Value} (hb : b < B) (h0 : w.cell? ⟨b, o, none⟩ = some v0) (h1 : w.cell? ⟨b, o + 1, none⟩ = some v1) (h2 : w.cell? ⟨b, o + 2, none⟩ = some v2) (h3 : w.cell? ⟨b, o + 3, none⟩ = some v3) (h4 : w.cell? ⟨b, o + 4, none⟩ = some v4) (h5 : w.cell? ⟨b, o + 5, none⟩ = some v5) (h6 : w.cell? ⟨b, o + 6, none⟩ = some v6) (hB : Below B w w') :
    w'.cell? ⟨b, o, none⟩ = some v0 ∧ w'.cell? ⟨b, o + 1, none⟩ = some v1 ∧ w'.cell? ⟨b, o + 2, none⟩ = some v2 ∧ w'.cell? ⟨b, o + 3, none⟩ = some v3 ∧ w'.cell? ⟨b, o + 4, none⟩ = some v4 ∧ w'.cell? ⟨b, o + 5, none⟩ = some v5 ∧ w'.cell? ⟨b, o + 6, none⟩ = some v6 :=
  have e : ∀ j, w'.cell? ⟨b, j, none⟩ = w.cell? ⟨b, j, none⟩ := fun j => hB.cell (p := ⟨b, j, none⟩) hb
  ⟨(e _).trans h0, (e _).trans h1, (e _).trans h2, (e _).trans h3, (e _).trans h4, (e _).trans h5, (e _).trans h6⟩

/-- 'arr[o : o+l : o+l]': where it begins, where there is something. -/
theorem slice_part (g N o l : Nat) (h : o + l ≤ N) : ∃ a : Option Addr, (∀ W : World, (Instr.slice 51 (.slice (some ⟨g, 0, none⟩) N N) (some (.int .i64 (o : Int))) (some (.int .i64 ((o : Int) + (l : Int)))) (some (.int .i64 ((o : Int) + (l : Int))))).run Try.prog W = .ok (.slice a l l) W) ∧ (l = 0 ∨ a = some ⟨g, o * 5, none⟩) := by
  refine ⟨if o + l = o then some ⟨g, 0, none⟩ else some ⟨g, o * 5, none⟩, fun W => ?_, ?_⟩
  · obtain ⟨i0, hi, hz0, hz1, hz2⟩ := info_parts info70
    rw [run_slice_lhm W 51 (some ⟨g, 0, none⟩) N N (by rw [Try.underlying51]; kernel_rfl) .i64 .i64 .i64 (o : Int) ((o : Int) + (l : Int)) ((o : Int) + (l : Int)) (by omega) (by omega) (by omega) (by omega)]
    have e1 : ((o : Int) + (l : Int)).toNat = o + l := by omega
    have e2 : Try.prog.elem 51 = 70 := by kernel_rfl
    rw [e1, e2]
    simp [sizeOf, typeInfo, hi, hz1, sliced, Addr.add]
    split <;> simp <;> omega
  · by_cases h0 : l = 0
    · exact .inl h0
    · right; rw [if_neg (by omega)]
theorem slice_part2 (g N o k l : Nat) (h : o + k + l ≤ N) : ∃ a : Option Addr, (∀ W : World, (Instr.slice 51 (.slice (some ⟨g, 0, none⟩) N N) (some (.int .i64 ((o : Int) + (k : Int)))) (some (.int .i64 ((o : Int) + (k : Int) + (l : Int)))) (some (.int .i64 ((o : Int) + (k : Int) + (l : Int))))).run Try.prog W = .ok (.slice a l l) W) ∧ (l = 0 ∨ a = some ⟨g, (o + k) * 5, none⟩) := by
  have := slice_part g N (o + k) l h
  rw [show ((o + k : Nat) : Int) = (o : Int) + (k : Int) from by omega] at this
  exact this

set_option maxHeartbeats 4000000 in
set_option maxRecDepth 100000 in
theorem shared31 (a : Option Addr) (n c : Nat) (x : Nat → Tab) (w : World) (hn : n + lens x n ≤ 1048576) (ht : Tabs w a n x) :
    Calls Try.prog 31 #[.slice a n c] w fun e w' => ∃ ga go, e = .returned (.slice (some ⟨go, 0, none⟩) n n) ∧ ga < go ∧ w.heap.size ≤ ga ∧ Sh x n (offs x n) ga go w w' (offs x n) n := by
  have HT : Hid (Tabs w a n x) := ht
  clear ht
  have hol : offs x n ≤ 1048576 := by have := offs_le_lens x n; omega
  have hol1 : ∀ k, k ≤ n → offs x k ≤ offs x n := fun k hk => offs_mono x hk
  have HOL : Hid (∀ k, k ≤ n → offs x k ≤ offs x n) := hol1
  clear hol1
  go_enter Try.func31, Try.ntmps31
  go_wp2
  go_loopw [3, 4] (fun t i wr => ∃ k : Nat, k ≤ n ∧ i = .int .i64 k ∧ t = .int .i64 (offs x k : Nat) ∧ ∃ d : Nat, wr = w.drewN d) (fun _ i _ => n - (intOf i).toNat)
  case atStart => exact ⟨0, Nat.zero_le _, rfl, rfl, 0, rfl⟩
  case round =>
    obtain ⟨k, hk, rfl, rfl, d, rfl⟩ := hrel
    by_cases hlt : k < n
    · rcases HT.out.1 with h | ⟨b, off, rfl, hc⟩
      · omega
      have hat := hc k hlt
      have hin := HT.out.2 k hlt
      have e5 := hat.c5
      have e6 := hat.c6
      have hbd := HOL.out (k + 1) hlt
      simp only [offs] at hbd
      clear hc hat hin
      have hlt' : (k : Int) < (n : Int) := by omega
      go_wp2
      go_quiet (fail)
      go_wp2
      go_roundw
      case rel => exact ⟨k + 1, by omega, by go_num, by simp [offs], _, rfl⟩
      case measure => simp [intOf]; omega
    · have hkn : n = k := by omega
      subst hkn
      obtain ⟨i0, hi, hz0, hz1, hz2⟩ := info_parts info70
      obtain ⟨j0, hj, hy0, hy1, hy2⟩ := info_parts info60
      go_wp2_with (first
        | (at_make; refine wpList_make_cells _ rfl (.tmp 34) (.tmp 34) 51 rfl 70 i0 _ 5 40 Try.underlying51 hi hz0 hz1 hz2 _ _ _ _ (offs x n) rfl rfl rfl rfl (by omega) (by omega) ?_; intro w1 cs hown1 hlen1 hbel1 hsz1)
        | (at_make; refine wpList_make_cells _ rfl (.tmp 37) (.tmp 37) 62 rfl 60 j0 _ 16 168 Try.underlying62 hj hy0 hy1 hy2 _ _ _ _ n rfl rfl rfl rfl (by omega) (by omega) ?_; intro w2 ds hown2 hlen2 hbel2 hsz2))
      have hsh0 : Sh x n (offs x n) w.heap.size (w.heap.size + 1) w w2 (offs x 0) 0 := by
        refine sh_start (cs := cs) (ds := ds) ?_ ?_ hlen1 ?_ hlen2
        · exact (below_drewN (Below.refl _ w) d).trans (hbel1.trans (hbel2.mono hbel1.size))
        · exact hown1.below hbel2 (by rw [hsz1]; exact Nat.lt_succ_self _)
        · have e1 : w1.heap.size = w.heap.size + 1 := hsz1
          rw [← e1]; exact hown2
      clear hown1 hlen1 hbel1 hsz1 hown2 hlen2 hbel2 hsz2 hi hz0 hz1 hz2 hj hy0 hy1 hy2
      go_loopw [7, 8] (fun o i wr => ∃ k : Nat, k ≤ n ∧ i = .int .i64 k ∧ o = .int .i64 (offs x k : Nat) ∧ Sh x n (offs x n) w.heap.size (w.heap.size + 1) w wr (offs x k) k) (fun _ i _ => n - (intOf i).toNat)
      case atStart => exact ⟨0, Nat.zero_le _, rfl, rfl, hsh0⟩
      case round =>
        clear hsh0
        obtain ⟨k, hk, rfl, rfl, hsh⟩ := hrel
        by_cases hlt2 : k < n
        · have hbd := HOL.out (k + 1) hlt2
          simp only [offs] at hbd
          rcases HT.out.1 with h | ⟨b, off, rfl, hc⟩
          · omega
          have hat := (hc k hlt2).later hsh.bel
          have e5 := hat.c5
          have e6 := hat.c6
          clear hat
          have HC : Hid (∀ i, i < n → (x i).At w b (off + i * 7)) := hc
          clear hc
          have hbw : b < w.heap.size := World.block_lt_of_cell? w _ (HC.out k hlt2).c0
          go_wp2
          go_loopw [11] (fun i wq => ∃ q : Nat, q ≤ (x k).wn ∧ i = .int .i64 q ∧ Sh x n (offs x n) w.heap.size (w.heap.size + 1) w wq (offs x k + q) k) (fun i _ => (x k).wn - (intOf i).toNat)
          case atStart => exact ⟨0, Nat.zero_le _, rfl, hsh⟩
          case round =>
            clear hsh e5 e6
            obtain ⟨q, hq, rfl, hsh⟩ := hrel
            by_cases hq2 : q < (x k).wn
            · have hat := (HC.out k hlt2).later hsh.bel
              have e5 := hat.c5
              clear hat
              rcases ((HT.out.2 k hlt2).fwd) with h | ⟨bf, of, hwa, hcf⟩
              · omega
              have hbf : bf < w.heap.size := World.block_lt_of_cell? w _ (hcf q hq2).1
              have e1 := (hsh.bel.cell (p := ⟨bf, of + q * 2, none⟩) hbf).trans (hcf q hq2).1
              have e2 := (hsh.bel.cell (p := ⟨bf, of + q * 2 + 1, none⟩) hbf).trans (hcf q hq2).2
              rw [hwa] at e5
              obtain ⟨ys, hya, hyl, hyo⟩ := hsh.arr
              obtain ⟨v0, g0⟩ := hya.some_cell' hyl ((offs x k + q) * 5) (by omega)
              obtain ⟨v1, g1⟩ := hya.some_cell' hyl ((offs x k + q) * 5 + 1) (by omega)
              obtain ⟨v2, g2⟩ := hya.some_cell' hyl ((offs x k + q) * 5 + 2) (by omega)
              obtain ⟨v3, g3⟩ := hya.some_cell' hyl ((offs x k + q) * 5 + 3) (by omega)
              obtain ⟨v4, g4⟩ := hya.some_cell' hyl ((offs x k + q) * 5 + 4) (by omega)
              have f0 := hya.frozen ((offs x k + q) * 5)
              have f1 := hya.frozen ((offs x k + q) * 5 + 1)
              have f2 := hya.frozen ((offs x k + q) * 5 + 2)
              have f3 := hya.frozen ((offs x k + q) * 5 + 3)
              have f4 := hya.frozen ((offs x k + q) * 5 + 4)
              have hsz := hya.lt
              have hwsz := hsh.bel.size
              have hi1 : (offs x k : Int) + (q : Int) < (offs x n : Int) := by omega
              have hi2 : (q : Int) < ((x k).wn : Int) := by omega
              have hi3 : (k : Int) < (n : Int) := by omega
              have hnat : ((offs x k : Int) + (q : Int)).toNat = offs x k + q := by omega
              have hb2 : offs x k + q ≤ 4194304 := by omega
              have hwr := wrap_sum2 (offs x k) q hb2
              clear hb2
              have hi0 : (0 : Int) ≤ (offs x k : Int) + (q : Int) := Int.add_nonneg (Int.natCast_nonneg _) (Int.natCast_nonneg _)
              clear hyo hcf hwa
              go_wp2
              go_region_held3 (fun w' => w'.cell? ⟨b, off + k * 7 + 5, none⟩ = some (.slice (some ⟨bf, of, none⟩) (x k).wn (x k).wc) ∧ w'.cell? ⟨bf, of + q * 2, none⟩ = some (.int .i32 ((x k).fwd q).1) ∧ w'.cell? ⟨bf, of + q * 2 + 1, none⟩ = some (.bool ((x k).fwd q).2))
                ((refine keep3 hbw hbf e5 e1 e2 (?_ : Below w.heap.size wr _); repeat (first | with_reducible exact Below.refl _ _ | with_reducible refine Below.drew ?_ | with_reducible refine Below.setAt ?_ _ _ _ (Nat.le_refl _) | with_reducible refine Below.allocL ?_ (by assumption) _)))
                (first | (go_at_call 41; refine (peer41 _ _).mono ?_; rintro e w9 ⟨rfl, rfl⟩))
              clear hwr hnat hi0
              refine exit_via (fun W => Sh x n (offs x n) w.heap.size (w.heap.size + 1) w W (offs x k + q + 1) k) (hsh.finger (by omega) (Nat.le_refl _) (by omega) _ (G_fwd x hlt2 hq2) _ _ _ _) ?_
              intro W hsh2
              clear hsh hya e1 e2 e5 g0 g1 g2 g3 g4 f0 f1 f2 f3 f4 hi1 hi2 hi3 hsz hwsz hyl
              go_wp2
              go_roundw
              case rel => exact ⟨q + 1, by omega, by go_num, hsh2⟩
              case measure => simp [intOf]; omega
            · have hqn : q = (x k).wn := by omega
              go_wp2
              go_loopw [12] (fun i wq => ∃ q : Nat, q ≤ (x k).bn ∧ i = .int .i64 q ∧ Sh x n (offs x n) w.heap.size (w.heap.size + 1) w wq (offs x k + (x k).wn + q) k) (fun i _ => (x k).bn - (intOf i).toNat)
              case atStart => exact ⟨0, Nat.zero_le _, rfl, hqn ▸ hsh⟩
              case round =>
                clear hsh hqn hq2
                obtain ⟨p, hp, rfl, hsh⟩ := hrel
                by_cases hp2 : p < (x k).bn
                · have hat := (HC.out k hlt2).later hsh.bel
                  have e6 := hat.c6
                  clear hat
                  rcases ((HT.out.2 k hlt2).bck) with h | ⟨bf, of, hwa, hcf⟩
                  · omega
                  have hbf : bf < w.heap.size := World.block_lt_of_cell? w _ (hcf p hp2).1
                  have e1 := (hsh.bel.cell (p := ⟨bf, of + p * 2, none⟩) hbf).trans (hcf p hp2).1
                  have e2 := (hsh.bel.cell (p := ⟨bf, of + p * 2 + 1, none⟩) hbf).trans (hcf p hp2).2
                  rw [hwa] at e6
                  obtain ⟨ys, hya, hyl, hyo⟩ := hsh.arr
                  obtain ⟨v0, g0⟩ := hya.some_cell' hyl ((offs x k + (x k).wn + p) * 5) (by omega)
                  obtain ⟨v1, g1⟩ := hya.some_cell' hyl ((offs x k + (x k).wn + p) * 5 + 1) (by omega)
                  obtain ⟨v2, g2⟩ := hya.some_cell' hyl ((offs x k + (x k).wn + p) * 5 + 2) (by omega)
                  obtain ⟨v3, g3⟩ := hya.some_cell' hyl ((offs x k + (x k).wn + p) * 5 + 3) (by omega)
                  obtain ⟨v4, g4⟩ := hya.some_cell' hyl ((offs x k + (x k).wn + p) * 5 + 4) (by omega)
                  have f0 := hya.frozen ((offs x k + (x k).wn + p) * 5)
                  have f1 := hya.frozen ((offs x k + (x k).wn + p) * 5 + 1)
                  have f2 := hya.frozen ((offs x k + (x k).wn + p) * 5 + 2)
                  have f3 := hya.frozen ((offs x k + (x k).wn + p) * 5 + 3)
                  have f4 := hya.frozen ((offs x k + (x k).wn + p) * 5 + 4)
                  have hsz := hya.lt
                  have hwsz := hsh.bel.size
                  have hi1 : (offs x k : Int) + ((x k).wn : Int) + (p : Int) < (offs x n : Int) := by omega
                  have hi2 : (p : Int) < ((x k).bn : Int) := by omega
                  have hi3 : (k : Int) < (n : Int) := by omega
                  have hnat : ((offs x k : Int) + ((x k).wn : Int) + (p : Int)).toNat = offs x k + (x k).wn + p := by omega
                  have hb2 : offs x k + (x k).wn ≤ 4194304 := by omega
                  have hb3 : offs x k + (x k).wn + p ≤ 4194304 := by omega
                  have hwr := wrap_sum3 (offs x k) (x k).wn p hb3
                  have hwr2 := wrap_sum2 (offs x k) (x k).wn hb2
                  clear hb2 hb3
                  have hi0 : (0 : Int) ≤ (offs x k : Int) + ((x k).wn : Int) + (p : Int) := Int.add_nonneg (Int.add_nonneg (Int.natCast_nonneg _) (Int.natCast_nonneg _)) (Int.natCast_nonneg _)
                  clear hyo hcf hwa
                  go_wp2
                  go_region_held3 (fun w' => w'.cell? ⟨b, off + k * 7 + 6, none⟩ = some (.slice (some ⟨bf, of, none⟩) (x k).bn (x k).bc) ∧ w'.cell? ⟨bf, of + p * 2, none⟩ = some (.int .i32 ((x k).bck p).1) ∧ w'.cell? ⟨bf, of + p * 2 + 1, none⟩ = some (.bool ((x k).bck p).2))
                    ((refine keep3 hbw hbf e6 e1 e2 (?_ : Below w.heap.size wr _); repeat (first | with_reducible exact Below.refl _ _ | with_reducible refine Below.drew ?_ | with_reducible refine Below.setAt ?_ _ _ _ (Nat.le_refl _) | with_reducible refine Below.allocL ?_ (by assumption) _)))
                    (first | (go_at_call 41; refine (peer41 _ _).mono ?_; rintro e w9 ⟨rfl, rfl⟩))
                  clear hwr hwr2 hnat hi0
                  refine exit_via (fun W => Sh x n (offs x n) w.heap.size (w.heap.size + 1) w W (offs x k + (x k).wn + p + 1) k) (hsh.finger (by omega) (Nat.le_refl _) (by omega) _ (G_bck x hlt2 hp2) _ _ _ _) ?_
                  intro W hsh2
                  clear hsh hya e1 e2 e6 g0 g1 g2 g3 g4 f0 f1 f2 f3 f4 hi1 hi2 hi3 hsz hwsz hyl
                  go_wp2
                  go_roundw
                  case rel => exact ⟨p + 1, by omega, by go_num, hsh2⟩
                  case measure => simp [intOf]; omega
                · have hpn : p = (x k).bn := by omega
                  have hsh' : Sh x n (offs x n) w.heap.size (w.heap.size + 1) w wr (offs x (k + 1)) k := by
                    have e : offs x (k + 1) = offs x k + (x k).wn + p := by rw [hpn]; simp only [offs]; omega
                    rw [e]; exact hsh
                  clear hsh hpn
                  have hat := (HC.out k hlt2).later hsh'.bel
                  have hin := (HT.out.2 k hlt2).later hsh'.bel
                  have hfol := hin.fol
                  have hfnl : (x k).fn ≤ 1048576 := by have := fn_le_lens x hlt2; omega
                  clear hin
                  have e0 := hat.c0
                  have e1 := hat.c1
                  have e2 := hat.c2
                  have e3 := hat.c3
                  have e4 := hat.c4
                  have e5 := hat.c5
                  have e6 := hat.c6
                  clear hat
                  obtain ⟨os, ho, hol2, _⟩ := hsh'.out
                  have HSH : Hid (Sh x n (offs x n) w.heap.size (w.heap.size + 1) w wr (offs x (k + 1)) k) := hsh'
                  have hwsz := hsh'.bel.size
                  clear hsh'
                  have hi3 : (k : Int) < (n : Int) := by omega
                  obtain ⟨a14, hs14, hq14⟩ := slice_part (w.heap.size) (offs x n) (offs x k) (x k).wn (by omega)
                  obtain ⟨a15, hs15, hq15⟩ := slice_part2 (w.heap.size) (offs x n) (offs x k) (x k).wn (x k).bn (by omega)
                  have HQ14 : Hid ((x k).wn = 0 ∨ a14 = some ⟨w.heap.size, (offs x k) * 5, none⟩) := hq14
                  have HQ15 : Hid ((x k).bn = 0 ∨ a15 = some ⟨w.heap.size, (offs x k + (x k).wn) * 5, none⟩) := hq15
                  have HFOL : Hid (Row wr (x k).fa (x k).fn fun i => .int .i32 ((x k).fol i)) := hfol
                  clear hq14 hq15 hfol
                  have hb2 : offs x k + (x k).wn ≤ 4194304 := by omega
                  have hb3 : offs x k + (x k).wn + (x k).bn ≤ 4194304 := by omega
                  have hwr3 := wrap_sum3 (offs x k) (x k).wn (x k).bn hb3
                  have hwr2 := wrap_sum2 (offs x k) (x k).wn hb2
                  clear hb2 hb3
                  go_wp2
                  go_region_held3 (fun w' => w'.cell? ⟨b, off + k * 7, none⟩ = some (.int .i32 (x k).pred) ∧ w'.cell? ⟨b, off + k * 7 + 1, none⟩ = some (.int .i32 (x k).succ) ∧ w'.cell? ⟨b, off + k * 7 + 2, none⟩ = some (.bool (x k).nop) ∧ w'.cell? ⟨b, off + k * 7 + 3, none⟩ = some (.bool (x k).quiet) ∧ w'.cell? ⟨b, off + k * 7 + 4, none⟩ = some (.slice (x k).fa (x k).fn (x k).fc) ∧ w'.cell? ⟨b, off + k * 7 + 5, none⟩ = some (.slice (x k).wa (x k).wn (x k).wc) ∧ w'.cell? ⟨b, off + k * 7 + 6, none⟩ = some (.slice (x k).ba (x k).bn (x k).bc))
                    ((refine keep7 hbw e0 e1 e2 e3 e4 e5 e6 (?_ : Below w.heap.size wr _); repeat (first | with_reducible exact Below.refl _ _ | with_reducible exact hbw3 | with_reducible refine Below.drew ?_ | with_reducible refine Below.setAt ?_ _ _ _ (Nat.le_succ _) | with_reducible refine Below.allocL ?_ (by assumption) _)))
                    (first | (go_at_call 38; refine (nb38e (x k) _ hfnl (by exact HFOL.out.later (Below.drew (Below.refl _ _)))).mono ?_; rintro e w3 ⟨a4, c4, rfl, hrow4, hbel3⟩; have hbw3 : Below w.heap.size wr w3 := (Below.drew (Below.refl _ _)).trans (hbel3.mono hwsz); have ho3 := ho.below (Below.trans (Below.drew (Below.refl _ wr)) hbel3) ho.lt; obtain ⟨⟨y0, s0⟩, ⟨y1, s1⟩, ⟨y2, s2⟩, ⟨y3, s3⟩, ⟨y4, s4⟩, ⟨y5, s5⟩, ⟨y6, s6⟩, ⟨y7, s7⟩, ⟨y8, s8⟩, ⟨y9, s9⟩, ⟨y10, s10⟩, ⟨y11, s11⟩, ⟨y12, s12⟩, ⟨y13, s13⟩, ⟨y14, s14⟩, ⟨y15, s15⟩, t0, t1, t2, t3, t4, t5, t6, t7, t8, t9, t10, t11, t12, t13, t14, t15⟩ := sixteen ho3 hol2 hlt2))
                  clear hwr2 hwr3 hs14 hs15
                  have hbX : Below wr.heap.size wr w3 := Below.trans (Below.drew (Below.refl _ wr)) hbel3
                  refine exit_via (fun W => Sh x n (offs x n) w.heap.size (w.heap.size + 1) w W (offs x (k + 1)) (k + 1)) ?_ ?_
                  · exact HSH.out.table hbX (Nat.lt_succ_self _) (Nat.le_refl _) hlt2 (a4 := a4) (a14 := a14) (a15 := a15) (c4 := c4) (c14 := (x k).wn) (c15 := (x k).bn) hrow4 HQ14.out HQ15.out
                  intro W hsh2
                  clear hbX hbw3 ho3 ho hol2 hrow4 hbel3 e0 e1 e2 e3 e4 e5 e6 HSH HQ14 HQ15 HFOL hfnl hi3 hwsz s0 t0 s1 t1 s2 t2 s3 t3 s4 t4 s5 t5 s6 t6 s7 t7 s8 t8 s9 t9 s10 t10 s11 t11 s12 t12 s13 t13 s14 t14 s15 t15
                  go_wp2
                  go_roundw
                  case rel => exact ⟨k + 1, by omega, by go_num, by simp [offs], hsh2⟩
                  case measure => simp [intOf]; omega
        · have hkn : n = k := by omega
          subst hkn
          go_wp2
          go_ret
          exact ⟨w.heap.size, w.heap.size + 1, rfl, by omega, Nat.le_refl _, hsh⟩
end Go.Proofs.Qxb6600017a
