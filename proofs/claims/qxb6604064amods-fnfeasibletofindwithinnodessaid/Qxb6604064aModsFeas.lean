import Derived.Test.Qxb6604064aModsRows
import Derived.WalkKit
import Derived.WalkSpells
import Derived.WalkLawsBesides
namespace Go.Proofs.Qxb6604064aMods.Feas
open Go.RowKit

/-- The plain law: whatever percentage of at most 100 the product wraps by, what is looked for is never more than there is. -/
theorem scaled_le (n q : Int) (hn : 100 ≤ n) (hn2 : n ≤ 9223372036854775807) (hq : 0 ≤ q) (hq2 : q ≤ 100) :
    wrap64 ((wrap64 (n * q)).tdiv 100) ≤ n := by
  have h0 : 0 ≤ n * q := Int.mul_nonneg (by omega) hq
  have h1 : n * q ≤ n * 100 := Int.mul_le_mul_of_nonneg_left hq2 (by omega)
  generalize n * q = m at *
  have hb : -9223372036854775808 ≤ wrap64 m ∧ wrap64 m ≤ 9223372036854775807 ∧ (m ≤ 9223372036854775807 → wrap64 m = m) := by
    unfold wrap64; omega
  generalize wrap64 m = x at *
  have ht : x.tdiv 100 ≤ n ∧ -9223372036854775808 ≤ x.tdiv 100 ∧ x.tdiv 100 ≤ 9223372036854775807 := by
    rcases Int.le_total 0 x with h | h
    · rw [Int.tdiv_eq_ediv_of_nonneg h]; omega
    · have e : x.tdiv 100 = -((-x).tdiv 100) := by rw [Int.neg_tdiv]; omega
      rw [e, Int.tdiv_eq_ediv_of_nonneg (by omega)]; omega
  generalize x.tdiv 100 = t at *
  unfold wrap64; omega

/-- What is looked for: all, below 100 nodes; else from 100 to all. -/
def Good (n r : Int) : Prop := (n < 100 → r = n) ∧ (100 ≤ n → 100 ≤ r ∧ r ≤ n)
theorem Good.mk' {n r : Int} (h1 : n < 100 → r = n) (h2 : 100 ≤ n → 100 ≤ r ∧ r ≤ n) : Good n r := ⟨h1, h2⟩

set_option maxHeartbeats 400000 in
theorem f14_any (n p : Int) (hn2 : n ≤ 9223372036854775807) (hp2 : p ≤ 100) (w : World) :
    Calls Trym.prog 14 #[.int .i64 n, .int .i64 p] w fun e w' => (∃ r, e = .returned (.int .i64 r) ∧ Good n r) ∧ w' = w := by
  by_cases hn : n < 100
  · go_enter Trym.func14, Trym.ntmps14
    go_wp2
    go_ret
    exact ⟨⟨_, rfl, .mk' (by omega) (by omega)⟩, rfl⟩
  · by_cases hp : p ≤ 0
    · have s1 := scaled_le n 5 (by omega) hn2 (by omega) (by omega)
      by_cases hq : 50 - n / 125 < 5
      · go_enter Trym.func14, Trym.ntmps14
        go_wp2
        all_goals go_ret
        all_goals exact ⟨⟨_, rfl, .mk' (by omega) (by omega)⟩, rfl⟩
      · have s2 := scaled_le n (50 - n / 125) (by omega) hn2 (by omega) (by omega)
        go_enter Trym.func14, Trym.ntmps14
        go_wp2
        all_goals go_ret
        all_goals exact ⟨⟨_, rfl, .mk' (by omega) (by omega)⟩, rfl⟩
    · have s3 := scaled_le n p (by omega) hn2 (by omega) hp2
      go_enter Trym.func14, Trym.ntmps14
      go_wp2
      all_goals go_ret
      all_goals exact ⟨⟨_, rfl, .mk' (by omega) (by omega)⟩, rfl⟩

set_option maxHeartbeats 400000 in
theorem f6_any (n p : Int) (hn2 : n ≤ 9223372036854775807) (hp2 : p ≤ 100) (w : World) :
    Calls Trym.prog 6 #[.int .i64 n, .int .i64 p] w fun e w' => (∃ r, e = .returned (.int .i64 r) ∧ Good n r) ∧ w' = w := by
  go_enter Trym.func6, Trym.ntmps6
  go_wp2_with (go_at_call 14; refine (f14_any _ _ hn2 hp2 _).mono ?_; rintro e w' ⟨⟨r, rfl, hr⟩, rfl⟩)
  go_ret
  exact ⟨⟨r, rfl, hr⟩, rfl⟩

set_option maxHeartbeats 400000 in
theorem f3_any (n p : Int) (hn2 : n ≤ 9223372036854775807) (w : World) :
    Calls Trym.prog 3 #[.int .i64 n, .int .i64 p] w fun e w' => e = .returned (.bool true) ∧ w' = w := by
  by_cases c1 : 100 < p
  · go_enter Trym.func3, Trym.ntmps3
    go_wp2
    go_ret
    exact ⟨rfl, rfl⟩
  · by_cases c2 : 100 < n
    · go_enter Trym.func3, Trym.ntmps3
      go_wp2_with (go_at_call 6; refine (f6_any _ _ hn2 (by omega) _).mono ?_; rintro e w' ⟨⟨r, rfl, hr⟩, rfl⟩; obtain ⟨hr1, hr2⟩ := hr.2 (by omega); clear hr)
      go_ret
      exact ⟨rfl, rfl⟩
    · by_cases c3 : n = 100
      · subst c3
        go_enter Trym.func3, Trym.ntmps3
        go_wp2_with (go_at_call 6; refine (f6_any _ _ hn2 (by omega) _).mono ?_; rintro e w' ⟨⟨r, rfl, hr⟩, rfl⟩; obtain ⟨hr1, hr2⟩ := hr.2 (by omega); clear hr)
        go_ret
        exact ⟨rfl, rfl⟩
      · go_enter Trym.func3, Trym.ntmps3
        go_wp2_with (go_at_call 6; refine (f6_any _ _ hn2 (by omega) _).mono ?_; rintro e w' ⟨⟨r, rfl, hr⟩, rfl⟩; obtain rfl := hr.1 (by omega); clear hr)
        go_ret
        exact ⟨rfl, rfl⟩
#print axioms f3_any
end Go.Proofs.Qxb6604064aMods.Feas
