/-
  Seat b6000875a: (*Resource).Links: the fields whose Type is "link", in order.
-/
import Derived.Test.Qxb6000875aMakes
namespace Go.Proofs.Qxb6000875a
open Go.RowKit

/-- Is the Type of field p "link"? -/
def isLink (T : Nat → ByteArray) (p : Nat) : Bool := (T p).toList == [108, 105, 110, 107]
/-- Of the first k fields those that are links. -/
def Lk (T : Nat → ByteArray) (ps : List Nat) (k : Nat) : List Nat := (ps.take k).filter (isLink T)

theorem Lk_le (T : Nat → ByteArray) (ps : List Nat) (k : Nat) : (Lk T ps k).length ≤ k :=
  Nat.le_trans (List.length_filter_le _ _) (by simp; omega)
theorem Lk_hit (T : Nat → ByteArray) (ps : List Nat) (k : Nat) (hk : k < ps.length) (h : isLink T (ps.getD k 0) = true) : Lk T ps (k + 1) = Lk T ps k ++ [ps.getD k 0] := by
  have e : ps.getD k 0 = ps[k] := by simp [hk]
  rw [e] at h ⊢
  unfold Lk
  rw [List.take_succ_eq_append_getElem hk, List.filter_append]
  simp [h]
theorem Lk_miss (T : Nat → ByteArray) (ps : List Nat) (k : Nat) (hk : k < ps.length) (h : isLink T (ps.getD k 0) = false) : Lk T ps (k + 1) = Lk T ps k := by
  have e : ps.getD k 0 = ps[k] := by simp [hk]
  rw [e] at h
  unfold Lk
  rw [List.take_succ_eq_append_getElem hk, List.filter_append]
  simp [h]
theorem Lk_all (T : Nat → ByteArray) (ps : List Nat) : Lk T ps ps.length = ps.filter (isLink T) := by simp [Lk]

/-- What is owned reads as a row. -/
theorem row_of_owns {w : World} {base : Nat} {v : Value} {n : Nat} {xs : List Nat} (h : w.ownsRow base 43 1 v n (xs.map ptr)) :
    ∃ a c, v = .slice a n c ∧ Row w a n (fun i => ptr (xs.getD i 0)) := by
  rcases h.2 with ⟨hv, hn⟩ | ⟨g, cap, cur, hv, hg, hh, hnc, hcm, hcs, ht⟩
  · subst hn; exact ⟨_, _, hv, .inl rfl⟩
  · subst hv
    refine ⟨_, _, rfl, .inr ⟨g, 0, rfl, fun i hi => ?_⟩⟩
    have hl := h.1
    simp at hl
    rw [Nat.zero_add, h.cellAt i (by omega)]
    simp [hl, hi]

set_option maxHeartbeats 400000 in
theorem links_pos (q b off n c : Nat) (ps : List Nat) (T : Nat → ByteArray) (w : World) (hlen : ps.length = n) (hn : n ≤ 131072)
    (hq : w.cell? ⟨q, 3, none⟩ = some (.slice (some ⟨b, off, none⟩) n c))
    (hc : ∀ i, i < n → w.cell? ⟨b, off + i, none⟩ = some (ptr (ps.getD i 0))) (hb : b < w.heap.size)
    (hT : ∀ p, p ∈ ps → w.cell? ⟨p, 1, none⟩ = some (.string (T p))) :
    Calls Try.prog 21 #[.pointer (some ⟨q, 0, none⟩)] w fun e w' => ∃ v, e = .returned v ∧ w'.ownsRow w.heap.size 43 1 v (Lk T ps n).length ((Lk T ps n).map ptr) ∧ Below w.heap.size w w' := by
  obtain ⟨i0, hi, hz0, hz1, hz2⟩ := info_parts info43
  have HL : Hid (ps.length = n) := hlen
  clear hlen
  go_enter Try.func21, Try.ntmps21
  go_wp2
  go_loopw [3, 11] (fun v i wr => ∃ k : Nat, k ≤ n ∧ i = .int .i64 k ∧ wr.ownsRow w.heap.size 43 1 v (Lk T ps k).length ((Lk T ps k).map ptr) ∧ Below w.heap.size w wr) (fun _ i _ => n - (intOf i).toNat)
  case atStart => exact ⟨0, Nat.zero_le _, rfl, World.ownsRow_nil _ _ _ _, Below.refl _ _⟩
  case round =>
    obtain ⟨k, hk, rfl, hown, hbel⟩ := hrel
    by_cases hlt : k < n
    · have hcx : wr.cell? ⟨b, off + k, none⟩ = some (.pointer (some ⟨ps.getD k 0, 0, none⟩)) := (hbel.cell (p := ⟨b, off + k, none⟩) hb).trans (hc k hlt)
      have hmem : ps.getD k 0 ∈ ps := by
        have : k < ps.length := by rw [HL.out]; exact hlt
        simp [this]
      have htx0 := hT _ hmem
      have htx : wr.cell? ⟨ps.getD k 0, 1, none⟩ = some (.string (T (ps.getD k 0))) := (hbel.cell (p := ⟨ps.getD k 0, 1, none⟩) (World.block_lt_of_cell? w _ htx0)).trans htx0
      have hkp : k < ps.length := by rw [HL.out]; exact hlt
      have hle := Lk_le T ps k
      have hsz := hbel.size
      clear hc hT hq htx0 hmem
      cases hit : isLink T (ps.getD k 0) with
      | true =>
        have HK := Lk_hit T ps k hkp hit
        have hit' : ((T (ps.getD k 0)).toList == [108, 105, 110, 107]) = true := hit
        have HKH : Hid (Lk T ps (k + 1) = Lk T ps k ++ [ps.getD k 0]) := HK
        clear HK hit hkp
        generalize ps.getD k 0 = p at *
        go_wp2_with (at_builtin; refine wpList_append_own _ rfl _ _ 34 rfl w.heap.size 43 i0 (.pointer none) 1 8 Try.underlying34 hi hz0 hz1 hz2 rfl (by decide) _ _ _ rfl (hown.alloc _) ⟨wr.heap.size, 0, none⟩ 1 1 [ptr p] rfl rfl ?c1 ?c2 ?c3 ?c4 ?c5 ?_)
        case c1 => exact cell_one_new _ _ _
        case c2 => intro u hu; simp at hu; subst hu; rfl
        case c3 => unfold maxLen; omega
        case c4 => omega
        case c5 => simp; omega
        · intro v' w1 hown' hgrow _
          have hbel' : Below w.heap.size w w1 := (hbel.alloc hsz _).grown hgrow (by simp; omega) (fun k hk => (hown.lt k hk).1)
          clear hgrow hown hcx htx
          go_wp2
          go_roundw
          case rel => exact ⟨k + 1, by omega, by go_num, by rw [HKH.out]; simpa using hown', hbel'⟩
          case measure => simp [intOf]; omega
      | false =>
        have HK := Lk_miss T ps k hkp hit
        have hit' : ((T (ps.getD k 0)).toList == [108, 105, 110, 107]) = false := hit
        have HKH : Hid (Lk T ps (k + 1) = Lk T ps k) := HK
        clear HK hit hkp
        generalize ps.getD k 0 = p at *
        go_wp2
        go_roundw
        case rel => exact ⟨k + 1, by omega, by go_num, by rw [HKH.out]; exact hown, hbel⟩
        case measure => simp [intOf]; omega
    · have hkn : k = n := by omega
      clear hc hT hq
      go_wp2
      go_ret
      exact ⟨_, rfl, hkn ▸ hown, hbel⟩

set_option maxHeartbeats 400000 in
theorem links_nil (q : Nat) (a : Option Addr) (c : Nat) (w : World) (hq : w.cell? ⟨q, 3, none⟩ = some (.slice a 0 c)) :
    Calls Try.prog 21 #[.pointer (some ⟨q, 0, none⟩)] w fun e w' => e = .returned (.slice none 0 0) ∧ w' = w := by
  go_enter Try.func21, Try.ntmps21
  go_wp2
  refine wp_loop_rounds 1 ?_
  rw [rounds_succ]
  go_wp2
  go_ret
  exact ⟨rfl, rfl⟩

/-- (*Resource).Links. -/
theorem links21 (q : Nat) (a : Option Addr) (n c : Nat) (ps : List Nat) (T : Nat → ByteArray) (w : World) (hlen : ps.length = n) (hn : n ≤ 131072)
    (hq : w.cell? ⟨q, 3, none⟩ = some (.slice a n c)) (hr : Row w a n fun i => ptr (ps.getD i 0))
    (hT : ∀ p, p ∈ ps → w.cell? ⟨p, 1, none⟩ = some (.string (T p))) :
    Calls Try.prog 21 #[.pointer (some ⟨q, 0, none⟩)] w fun e w' => ∃ a' c', e = .returned (.slice a' (ps.filter (isLink T)).length c') ∧ Row w' a' (ps.filter (isLink T)).length (fun i => ptr ((ps.filter (isLink T)).getD i 0)) ∧ Below w.heap.size w w' := by
  by_cases h0 : n = 0
  · subst h0
    have hps : ps = [] := List.eq_nil_of_length_eq_zero hlen
    subst hps
    exact (links_nil q a c w hq).mono fun e w' ⟨he, hw⟩ => ⟨_, _, he, .inl rfl, hw ▸ Below.refl _ _⟩
  · rcases hr with h | ⟨b, off, rfl, hc⟩
    · exact absurd h h0
    · refine (links_pos q b off n c ps T w hlen hn hq hc (World.block_lt_of_cell? w _ (hc 0 (by omega))) hT).mono fun e w' ⟨v, he, ho, hw⟩ => ?_
      rw [← hlen, Lk_all] at ho
      obtain ⟨a', c', rfl, hrow⟩ := row_of_owns ho
      exact ⟨a', c', he, hrow, hw⟩

/-- The Type that lies in field p. -/
def typ (w : World) (p : Nat) : ByteArray := match w.cell? ⟨p, 1, none⟩ with | some (.string t) => t | _ => ByteArray.empty

theorem Flds.types {w : World} {B : Nat} {ps : List Nat} (h : Flds w B ps) : ∀ p, p ∈ ps → w.cell? ⟨p, 1, none⟩ = some (.string (typ w p)) := by
  intro p hp
  obtain ⟨_, t, ht⟩ := h p hp
  have e : typ w p = t := by unfold typ; rw [ht]
  rw [e]; exact ht

end Go.Proofs.Qxb6000875a
