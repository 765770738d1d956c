/-
  The callees of 'FnScaleToHighestScaleFree' that read, and the copy.
-/
import Derived.Test.Qxb6604064aModsRows
import Derived.WalkKit
import Derived.WalkSpells
import Derived.WalkLawsBesides
import Derived.Deep.OwnRows
import Derived.Deep.QuietTactic
import Derived.BigQuiet
namespace Go.Proofs.Qxb6604064aMods.Scale
open Go.RowKit

theorem info2 : (Trym.prog.info? 2).map (fun i => (i.zero, i.size, i.bytes)) = some (some (.int .i64 0), 1, 8) := by kernel_rfl

/-- All n scores lie from 0 to top. -/
def InDom (z : Nat → Int) (n : Nat) (top : Int) : Prop := ∀ i, i < n → 0 ≤ z i ∧ z i ≤ top

structure Post8 (z : Nat → Int) (n : Nat) (top : Int) (e : Ending) : Prop where
  out : ∃ r, e = .returned (.bool r) ∧ (r = true → InDom z n top)

set_option maxHeartbeats 400000 in
theorem f8_any (b off n cap : Nat) (z : Nat → Int) (top : Int) (w : World) (hn : n ≤ 131072) (hc : ∀ i, i < n → w.cell? ⟨b, off + i, none⟩ = some (.int .i64 (z i))) :
    Calls Trym.prog 8 #[.slice (some ⟨b, off, none⟩) n cap, .int .i64 top] w fun e w' => Post8 z n top e ∧ w' = w := by
  go_enter Trym.func8, Trym.ntmps8
  go_wp2
  go_loop [5] (fun i => ∃ k : Nat, k ≤ n ∧ i = .int .i64 k ∧ Hid (InDom z k top)) (fun i => n - (intOf i).toNat)
  case atStart => exact ⟨0, Nat.zero_le _, rfl, fun i hi => absurd hi (Nat.not_lt_zero _)⟩
  case round =>
    obtain ⟨k, hk, rfl, hd⟩ := hrel
    by_cases hlt : k < n
    · have hck := hc k hlt
      by_cases h1 : z k < 0
      · go_wp2
        go_ret
        exact ⟨⟨⟨false, rfl, fun h => by cases h⟩⟩, rfl⟩
      · by_cases h2 : top < z k
        · go_wp2
          go_ret
          exact ⟨⟨⟨false, rfl, fun h => by cases h⟩⟩, rfl⟩
        · go_wp2
          go_round
          case rel => exact ⟨k + 1, by omega, by go_num, fun i hi => by
            by_cases e : i = k
            · subst e; omega
            · exact hd.out i (by omega)⟩
          case measure => simp [intOf]; omega
    · go_wp2
      go_ret
      exact ⟨⟨⟨true, rfl, fun _ => by have e : k = n := (by omega); subst e; exact hd.out⟩⟩, rfl⟩

/-- A row of scores. -/
def sc (z : Nat → Int) : Nat → Value := fun i => .int .i64 (z i)

/-- The greatest of the first n. -/
def IsMax (z : Nat → Int) (n : Nat) (m : Int) : Prop := (∃ j, j < n ∧ z j = m) ∧ ∀ i, i < n → z i ≤ m

structure Post17 (z : Nat → Int) (n : Nat) (e : Ending) : Prop where
  out : ∃ m, e = .returned (.int .i64 m) ∧ IsMax z n m

set_option maxHeartbeats 400000 in
theorem f17_any (b n cap : Nat) (z : Nat → Int) (w : World) (h0 : 0 < n) (hn : n ≤ 131072) (hr : w.rowIs b 2 n (sc z)) :
    Calls Trym.prog 17 #[.slice (some ⟨b, 0, none⟩) n cap] w fun e w' => Post17 z n e ∧ w' = w := by
  have hc0 : w.cell? ⟨b, 0, none⟩ = some (.int .i64 (z 0)) := hr.cell h0
  have hi0 : (0 : Int) < (n : Int) := by omega
  go_enter Trym.func17, Trym.ntmps17
  go_wp2
  go_loop [3, 4] (fun v i => ∃ (k : Nat) (m : Int), 1 ≤ k ∧ k ≤ n ∧ i = .int .i64 k ∧ v = .int .i64 m ∧ Hid (IsMax z k m)) (fun _ i => n - (intOf i).toNat)
  case atStart => exact ⟨1, z 0, by omega, by omega, rfl, rfl, ⟨0, by omega, rfl⟩, fun i hi => by have e : i = 0 := (by omega); subst e; exact Int.le_refl _⟩
  case round =>
    obtain ⟨k, m, hk1, hk, rfl, rfl, hd⟩ := hrel
    clear hc0 hi0
    by_cases hlt : k < n
    · have hck : w.cell? ⟨b, k, none⟩ = some (.int .i64 (z k)) := hr.cell hlt
      by_cases h1 : m < z k
      · go_wp2
        go_round
        case rel => exact ⟨k + 1, z k, by omega, by omega, by go_num, by go_num, ⟨k, by omega, rfl⟩, fun i hi => by
          by_cases e : i = k
          · subst e; exact Int.le_refl _
          · have := hd.out.2 i (by omega); omega⟩
        case measure => simp [intOf]; omega
      · go_wp2
        go_round
        case rel => exact ⟨k + 1, m, by omega, by omega, by go_num, by go_num, by obtain ⟨j, hj, e⟩ := hd.out.1; exact ⟨j, by omega, e⟩, fun i hi => by
          by_cases e : i = k
          · subst e; omega
          · exact hd.out.2 i (by omega)⟩
        case measure => simp [intOf]; omega
    · go_wp2
      go_ret
      exact ⟨⟨⟨m, rfl, by have e : k = n := (by omega); subst e; exact hd.out⟩⟩, rfl⟩

set_option maxHeartbeats 400000 in
theorem f11_any (b1 b2 n c1 c2 : Nat) (z : Nat → Int) (w : World) (hn : n ≤ 131072) (hr1 : w.rowIs b1 2 n (sc z)) (hr2 : w.rowIs b2 2 n (sc z)) :
    Calls Trym.prog 11 #[.slice (some ⟨b1, 0, none⟩) n c1, .slice (some ⟨b2, 0, none⟩) n c2] w fun e w' => e = .returned (.bool true) ∧ Below w.heap.size w w' := by
  go_enter Trym.func11, Trym.ntmps11
  go_wp2
  go_loopw [5] (fun i wr => ∃ k : Nat, k ≤ n ∧ i = .int .i64 k ∧ Below w.heap.size w wr) (fun i _ => n - (intOf i).toNat)
  case atStart => exact ⟨0, Nat.zero_le _, rfl, Below.refl _ _⟩
  case round =>
    obtain ⟨k, hk, rfl, hal⟩ := hrel
    by_cases hlt : k < n
    · have hc1 : wr.cell? ⟨b1, k, none⟩ = some (.int .i64 (z k)) := (hal.cell (p := ⟨b1, k, none⟩) hr1.lt).trans (hr1.cell hlt)
      have hc2 : wr.cell? ⟨b2, k, none⟩ = some (.int .i64 (z k)) := (hal.cell (p := ⟨b2, k, none⟩) hr2.lt).trans (hr2.cell hlt)
      have hlt' : (k : Int) < (n : Int) := by omega
      go_wp2
      go_quiet (fail)
      go_wp2
      go_roundw
      case rel => exact ⟨k + 1, by omega, by go_num, below_drewN hal _⟩
      case measure => simp [intOf]; omega
    · go_wp2
      go_ret
      exact ⟨rfl, hal⟩
#print axioms f11_any
end Go.Proofs.Qxb6604064aMods.Scale
