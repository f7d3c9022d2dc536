/-
  Seat b6602268a: number(numbers, s, first).
-/
import Derived.Test.Qxb6602268aBase
namespace Go.Proofs.Qxb6602268a
open Go.RowKit Go.Maps

theorem lawS : Keyed Try.prog 9 := string_keyed Try.underlying9
theorem zero21 (w : World) : (zeroValue 21).run Try.prog w = .ok (.int .i32 0) w := by kernel_rfl

/-- The datum 0 of an int32. -/
def i0 : DataW Unit := .lit (.int .i32 0)
/-- What is numbered stays numbered, by the same number. -/
def Ext (D D' : DataW Unit) : Prop := ∀ kl, Maps.has D kl = true → Maps.has D' kl = true ∧ D'.atKey kl i0 = D.atKey kl i0
theorem Ext.refl (D : DataW Unit) : Ext D D := fun _ h => ⟨h, rfl⟩
theorem Ext.trans {D D' D'' : DataW Unit} (h : Ext D D') (k : Ext D' D'') : Ext D D'' := fun kl hk => ⟨(k kl (h kl hk).1).1, (k kl (h kl hk).1).2.trans (h kl hk).2⟩

/-- A numbering that the walk holds. -/
def Nums (w : World) (b n : Nat) (D : DataW Unit) : Prop := w.ownsMap Try.prog 9 (plainElem Try.prog 21) b n D

/-- D' is D with kl numbered c; D itself where kl was numbered. -/
structure Numd (D : DataW Unit) (kl : Lit) (D' : DataW Unit) (c : Int) : Prop where
  same : Maps.has D kl = true → D' = D
  at_ : D'.atKey kl i0 = .lit (.int .i32 c)
  has : Maps.has D' kl = true
  ext : Ext D D'

theorem numd_old {D : DataW Unit} {kl : Lit} {c : Int} (hh : Maps.has D kl = true) (hat : D.atKey kl (.lit (.int .i32 0)) = .lit (.int .i32 c)) : Numd D kl D c := ⟨fun _ => rfl, hat, hh, Ext.refl D⟩
theorem numd_new {D : DataW Unit} {kl : Lit} {c : Int} (hh : Maps.has D kl = false) (hD : IsMap D) (hk : WideAt.IsKeyLit kl) : Numd D kl (D.put kl (.lit (.int .i32 c))) c := by
  refine ⟨fun h => (by rw [hh] at h; cases h), atKey_put_same hD hk _ _, has_put_same hD hk _, fun k' hk' => ?_⟩
  have hne : k' ≠ kl := fun e => by rw [e, hh] at hk'; cases hk'
  exact ⟨by rw [has_put_other hne]; exact hk', atKey_put_other hne _ _⟩

set_option maxHeartbeats 400000 in
theorem number52 (b n : Nat) (D : DataW Unit) (s : ByteArray) (first : Int) (w : World) (hs : s.size ≤ maxLen) (hown : Nums w b n D) (hn : n < 4194304) :
    Calls Try.prog 52 #[.map (some b), .string s, .int .i32 first] w fun e w' => ∃ c D', e = .returned (.int .i32 c) ∧ Nums w' b (n + 1) D' ∧ Numd D (.string s.data.toList) D' c ∧ w.grownBy w' (some b) := by
  have hkey : keyOf Try.prog 9 (.string s) = some (.string s.data.toList) := WideMaps.keyOf_string_mk Try.underlying9 hs
  have HOWN : Hid (Nums w b n D) := hown
  have hisk : WideAt.IsKeyLit (.string s.data.toList) := lawS.key hkey
  have hism : IsMap D := hown.isMap
  clear hown
  cases hh : Maps.has D (.string s.data.toList) with
  | true =>
    go_enter Try.func52, Try.ntmps52
    go_wp2_with (at_lookup; refine wpList_lookup_own_ok_int _ rfl _ _ 44 rfl 9 21 .i32 lawS Try.underlying44 Try.underlying21 (zero21 _) b n D rfl HOWN.out _ _ rfl hkey ?_; intro c hat hwc; have HAT : Hid _ := hat; clear hat)
    go_ret
    exact ⟨c, D, rfl, HOWN.out.mono (Nat.le_succ _), numd_old hh HAT.out, World.grownBy.refl _ _⟩
  | false =>
    go_enter Try.func52, Try.ntmps52
    go_wp2_with (first
      | (at_lookup; refine wpList_lookup_own_ok_int _ rfl _ _ 44 rfl 9 21 .i32 lawS Try.underlying44 Try.underlying21 (zero21 _) b n D rfl HOWN.out _ _ rfl hkey ?_; intro c hat hwc; clear hat)
      | (at_len; refine wpList_len_own _ rfl _ 44 rfl 9 21 Try.underlying44 _ b n D rfl HOWN.out ?_)
      | (at_mapUpdate; refine wpList_mapUpdate_own _ rfl _ _ _ 44 rfl 9 21 lawS Try.underlying44 _ b n _ rfl HOWN.out (by unfold maxLen; omega) _ _ _ rfl rfl hkey _ [] (plainElem_int Try.underlying21 (wrap32_wf _)) ?_; intro w1 hown1 hgrow1))
    go_ret
    exact ⟨_, _, rfl, hown1, numd_new hh hism hisk, hgrow1⟩
end Go.Proofs.Qxb6602268a
