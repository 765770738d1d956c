/-
  'portsOf' and 'FnPortsOfReadsBack'.
-/
import Derived.Test.Qxb6001230aModsRows
import Derived.WalkKit
import Derived.WalkSpells
import Derived.WalkLawsBesides
import Derived.Maps.OwnSet
namespace Go.Proofs.Qxb6001230aMods.Ports
open Go.RowKit Go.WideMaps Go.Maps

theorem law : Keyed Trym.prog 38 := string_keyed Trym.underlying38
theorem zero3 (w : World) : (zeroValue 3).run Trym.prog w = .ok (.int .i64 0) w := by kernel_rfl
theorem mkm (w : World) : (Instr.makeMap 36 (some (.int .i64 2))).run Trym.prog w = .ok (.map (some w.heap.size)) (w.alloc (.map #[] 0)) := rfl

/-- The two transports, as keys. -/
def kT : Lit := .string [116, 99, 112]
def kS : Lit := .string [115, 115, 108]
theorem keyT : keyOf Trym.prog 38 (.string ⟨#[116, 99, 112]⟩) = some kT := keyOf_string_mk Trym.underlying38 (by decide)
theorem keyS : keyOf Trym.prog 38 (.string ⟨#[115, 115, 108]⟩) = some kS := keyOf_string_mk Trym.underlying38 (by decide)
theorem ne_TS : kT ≠ kS := by simp [kT, kS]
theorem isT : WideAt.IsKeyLit kT := trivial
theorem isS : WideAt.IsKeyLit kS := trivial

abbrev Dt := DataW Unit
def lit (n : Int) : Dt := .lit (.int .i64 n)

structure Made (tcp ssl : Int) (w w' : World) (b : Nat) : Prop where
  out : ∃ D : Dt, w'.ownsMap Trym.prog 38 (plainElem Trym.prog 3) b 2 D ∧ D.atKey kT (lit 0) = lit tcp ∧ D.atKey kS (lit 0) = lit ssl
  below : Below w.heap.size w w'

theorem put_T {D : Dt} (hD : IsMap D) (n : Int) : (D.put kT (lit n)).atKey kT (lit 0) = lit n := atKey_put_same hD isT _ _
theorem put_S {D : Dt} (hD : IsMap D) (n : Int) : (D.put kS (lit n)).atKey kS (lit 0) = lit n := atKey_put_same hD isS _ _

set_option maxHeartbeats 400000 in
theorem f25_nil (w : World) : Calls Trym.prog 25 #[.int .i64 0, .int .i64 0] w fun e w' => e = .returned (.map none) ∧ w' = w := by
  go_enter Trym.func25, Trym.ntmps25
  go_wp2
  go_ret
  exact ⟨rfl, rfl⟩

set_option maxHeartbeats 400000 in
theorem f25_T (t : Int) (w : World) (ht : (t == 0) = false) (wt : (Lit.int .i64 t).wf = true) :
    Calls Trym.prog 25 #[.int .i64 t, .int .i64 0] w fun e w' => e = .returned (.map (some w.heap.size)) ∧ Made t 0 w w' w.heap.size := by
  have hmk := mkm
  have hown := World.ownsMap_made w Trym.prog 38 (plainElem (H := Unit) Trym.prog 3)
  have hb0 : Below w.heap.size w (w.alloc (.map #[] 0)) := (Below.refl _ _).alloc (Nat.le_refl _) _
  go_enter Trym.func25, Trym.ntmps25
  go_wp2_with (at_mapUpdate; refine wpList_mapUpdate_own _ rfl _ _ _ 36 rfl 38 3 law Trym.underlying36 _ w.heap.size 0 _ rfl hown (by unfold maxLen; omega) _ _ kT rfl rfl keyT _ [] (plainElem_int Trym.underlying3 wt) ?_; intro w1 hown1 hgrow1)
  go_ret
  refine ⟨rfl, ⟨_, hown1.mono (by omega), put_T isMap_empty t, ?_⟩, hb0.grown hgrow1 hb0.size (fun k e => by cases e; exact Nat.le_refl _)⟩
  exact atKey_put_other ne_TS.symm _ _

set_option maxHeartbeats 400000 in
theorem f25_S (t : Int) (w : World) (ht : (t == 0) = false) (wt : (Lit.int .i64 t).wf = true) :
    Calls Trym.prog 25 #[.int .i64 0, .int .i64 t] w fun e w' => e = .returned (.map (some w.heap.size)) ∧ Made 0 t w w' w.heap.size := by
  have hmk := mkm
  have hown := World.ownsMap_made w Trym.prog 38 (plainElem (H := Unit) Trym.prog 3)
  have hb0 : Below w.heap.size w (w.alloc (.map #[] 0)) := (Below.refl _ _).alloc (Nat.le_refl _) _
  go_enter Trym.func25, Trym.ntmps25
  go_wp2_with (at_mapUpdate; refine wpList_mapUpdate_own _ rfl _ _ _ 36 rfl 38 3 law Trym.underlying36 _ w.heap.size 0 _ rfl hown (by unfold maxLen; omega) _ _ kS rfl rfl keyS _ [] (plainElem_int Trym.underlying3 wt) ?_; intro w1 hown1 hgrow1)
  go_ret
  refine ⟨rfl, ⟨_, hown1.mono (by omega), ?_, put_S isMap_empty t⟩, hb0.grown hgrow1 hb0.size (fun k e => by cases e; exact Nat.le_refl _)⟩
  exact atKey_put_other ne_TS _ _

set_option maxHeartbeats 400000 in
theorem f25_TS (t s : Int) (w : World) (ht : (t == 0) = false) (wt : (Lit.int .i64 t).wf = true) (hs : (s == 0) = false) (ws : (Lit.int .i64 s).wf = true) :
    Calls Trym.prog 25 #[.int .i64 t, .int .i64 s] w fun e w' => e = .returned (.map (some w.heap.size)) ∧ Made t s w w' w.heap.size := by
  have hmk := mkm
  have hown := World.ownsMap_made w Trym.prog 38 (plainElem (H := Unit) Trym.prog 3)
  have hb0 : Below w.heap.size w (w.alloc (.map #[] 0)) := (Below.refl _ _).alloc (Nat.le_refl _) _
  have tok1 : True := trivial
  go_enter Trym.func25, Trym.ntmps25
  go_wp2_with (first | (at_mapUpdate; have _t := tok1; refine wpList_mapUpdate_own _ rfl _ _ _ 36 rfl 38 3 law Trym.underlying36 _ w.heap.size 0 _ rfl hown (by unfold maxLen; omega) _ _ kT rfl rfl keyT _ [] (plainElem_int Trym.underlying3 wt) ?_; intro w1 hown1 hgrow1; clear tok1) | (at_mapUpdate; refine wpList_mapUpdate_own _ rfl _ _ _ 36 rfl 38 3 law Trym.underlying36 _ w.heap.size 1 _ rfl hown1 (by unfold maxLen; omega) _ _ kS rfl rfl keyS _ [] (plainElem_int Trym.underlying3 ws) ?_; intro w2 hown2 hgrow2))
  go_ret
  have hb1 := hb0.grown hgrow1 hb0.size (fun k e => by cases e; exact Nat.le_refl _)
  refine ⟨rfl, ⟨_, hown2, ?_, put_S (isMap_empty.put _ _) s⟩, hb1.grown hgrow2 hb1.size (fun k e => by cases e; exact Nat.le_refl _)⟩
  exact (atKey_put_other ne_TS _ _).trans (put_T isMap_empty t)

/-- What 'portsOf' hands back: nil where neither is given; else a map that reads both back. -/
structure Post25 (t s : Int) (w : World) (e : Ending) (w' : World) : Prop where
  out : (t = 0 ∧ s = 0 ∧ e = .returned (.map none) ∧ w' = w) ∨ (e = .returned (.map (some w.heap.size)) ∧ Made t s w w' w.heap.size)

theorem f25_any (t s : Int) (w : World) (wt : (Lit.int .i64 t).wf = true) (ws : (Lit.int .i64 s).wf = true) : Calls Trym.prog 25 #[.int .i64 t, .int .i64 s] w fun e w' => Post25 t s w e w' := by
  by_cases h1 : t = 0
  · subst h1
    by_cases h2 : s = 0
    · subst h2
      exact (f25_nil w).mono fun e w' h => ⟨.inl ⟨rfl, rfl, h.1, h.2⟩⟩
    · exact (f25_S s w (beq_eq_false_iff_ne.2 h2) ws).mono fun e w' h => ⟨.inr h⟩
  · by_cases h2 : s = 0
    · subst h2
      exact (f25_T t w (beq_eq_false_iff_ne.2 h1) wt).mono fun e w' h => ⟨.inr h⟩
    · exact (f25_TS t s w (beq_eq_false_iff_ne.2 h1) wt (beq_eq_false_iff_ne.2 h2) ws).mono fun e w' h => ⟨.inr h⟩

set_option maxHeartbeats 400000 in
theorem f22_any (t s : Int) (w : World) (wt : (Lit.int .i64 t).wf = true) (ws : (Lit.int .i64 s).wf = true) : Calls Trym.prog 22 #[.int .i64 t, .int .i64 s] w fun e w' => Post25 t s w e w' := by
  go_enter Trym.func22, Trym.ntmps22
  go_wp2_with fail
  refine (f25_any t s w wt ws).mono ?_
  rintro e w' ⟨⟨rfl, rfl, rfl, rfl⟩ | ⟨rfl, hM⟩⟩
  · go_wp2
    go_ret
    exact ⟨.inl ⟨rfl, rfl, rfl, rfl⟩⟩
  · go_wp2
    go_ret
    exact ⟨.inr ⟨rfl, hM⟩⟩

theorem lit_inj {a b : Int} (h : lit a = .lit (.int .i64 b)) : a = b := by
  unfold lit at h
  injection h with h
  injection h

set_option maxHeartbeats 400000 in
theorem f9_any (t s : Int) (w : World) (wt : (Lit.int .i64 t).wf = true) (ws : (Lit.int .i64 s).wf = true) : Calls Trym.prog 9 #[.int .i64 t, .int .i64 s] w fun e w' => e = .returned (.bool true) ∧ Below w.heap.size w w' := by
  go_enter Trym.func9, Trym.ntmps9
  go_wp2_with fail
  refine (f22_any t s w wt ws).mono ?_
  rintro e w' ⟨⟨rfl, rfl, rfl, rfl⟩ | ⟨rfl, hM⟩⟩
  · have hl1 := fun W => Maps.look_nil (P := Trym.prog) (w := W) false law Trym.underlying36 (zero3 W) keyT
    have hl2 := fun W => Maps.look_nil (P := Trym.prog) (w := W) false law Trym.underlying36 (zero3 W) keyS
    go_wp2
    go_ret
    exact ⟨rfl, Below.refl _ _⟩
  · obtain ⟨D, hown, hT, hS⟩ := hM.out
    have HT : Hid _ := hT
    have HS : Hid _ := hS
    clear hT hS
    obtain ⟨c1, hr1, ha1, _⟩ := hown.lookup_int law Trym.underlying36 Trym.underlying3 (zero3 _) keyT
    obtain ⟨c2, hr2, ha2, _⟩ := hown.lookup_int law Trym.underlying36 Trym.underlying3 (zero3 _) keyS
    obtain rfl := lit_inj (HT.out.symm.trans ha1)
    obtain rfl := lit_inj (HS.out.symm.trans ha2)
    have hbel := hM.below
    clear ha1 ha2 HT HS hown hM
    go_wp2
    go_ret
    exact ⟨rfl, hbel⟩
#print axioms f9_any
end Go.Proofs.Qxb6001230aMods.Ports
