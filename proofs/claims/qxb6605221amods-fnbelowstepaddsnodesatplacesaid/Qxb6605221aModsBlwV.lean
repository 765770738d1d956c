/-
  The bound on total length: whatever it answers, it writes nothing.
-/
import Derived.Test.Qxb6605221aModsBlwU
namespace Go.Proofs.Qxb6605221aMods.Blw
open Go.RowKit Go.Deep Cut
set_option linter.unusedVariables false

structure PostB (e : Ending) : Prop where
  out : ∃ r : Bool, e = .returned (.bool r)

set_option maxHeartbeats 1000000 in
theorem f6_any (a0 a1 a2 : Option Addr) (n v m c0 c1 c2 place0 : Nat) (place : Int) (A : Nat → Option Addr) (L C : Nat → Nat) (x : Nat → Nat → Nat) (w : World) (hn : n ≤ 9223372036854775807) (hv : v ≤ 9223372036854775807) (hm : m ≤ 9223372036854775807)
    (hS : SrcR w a2 m A L C x) (hL : ∀ b, b < m → L b ≤ 9223372036854775807) :
    Calls Trym.prog 6 #[.slice a0 n c0, .slice a1 v c1, .slice a2 m c2, .int .i64 place] w fun e w' => PostB e ∧ w' = w := by
  by_cases h1 : 1048576 < n
  · go_enter Trym.func6, Trym.ntmps6
    go_wp2
    go_ret
    exact ⟨⟨_, rfl⟩, rfl⟩
  by_cases h2 : 1048576 < v
  · go_enter Trym.func6, Trym.ntmps6
    go_wp2
    go_ret
    exact ⟨⟨_, rfl⟩, rfl⟩
  by_cases h3 : 1048576 < n + v
  · go_enter Trym.func6, Trym.ntmps6
    go_wp2
    go_ret
    exact ⟨⟨_, rfl⟩, rfl⟩
  by_cases h4 : 1048576 < m
  · go_enter Trym.func6, Trym.ntmps6
    go_wp2
    go_ret
    exact ⟨⟨_, rfl⟩, rfl⟩
  by_cases h5 : 1048576 < n + v + m
  · go_enter Trym.func6, Trym.ntmps6
    go_wp2
    go_ret
    exact ⟨⟨_, rfl⟩, rfl⟩
  by_cases h6 : m = 0
  · subst h6
    go_enter Trym.func6, Trym.ntmps6
    go_wp2
    refine wp_loop_rounds 1 ?_
    rw [rounds_succ]
    go_wp2
    go_ret
    exact ⟨⟨_, rfl⟩, rfl⟩
  · obtain ⟨bb, off, rfl, hbb, hc⟩ := hS.pos (by omega)
    go_enter Trym.func6, Trym.ntmps6
    go_wp2
    go_loop [9, 10] (fun q i => ∃ k qq : Nat, k ≤ m ∧ i = .int .i64 k ∧ q = .int .i64 qq ∧ qq ≤ 1048576) (fun _ i => m - (intOf i).toNat)
    case atStart => exact ⟨0, n + v + m, Nat.zero_le _, rfl, by go_num, by omega⟩
    case round =>
      obtain ⟨k, qq, hk, rfl, rfl, hq⟩ := hrel
      by_cases hlt : k < m
      · have hck := hc k hlt
        have hlk := hL k hlt
        by_cases g1 : 1048576 < L k
        · go_wp2
          go_ret
          exact ⟨⟨_, rfl⟩, rfl⟩
        by_cases g2 : 1048576 < qq + L k
        · go_wp2
          go_ret
          exact ⟨⟨_, rfl⟩, rfl⟩
        · go_wp2
          go_round
          case rel => exact ⟨k + 1, qq + L k, by omega, by go_num, by go_num, by omega⟩
          case measure => simp [intOf]; omega
      · go_wp2
        go_ret
        exact ⟨⟨_, rfl⟩, rfl⟩

set_option maxHeartbeats 1000000 in
theorem f12_any (a0 a1 a2 : Option Addr) (n v m c0 c1 c2 place0 : Nat) (place : Int) (A : Nat → Option Addr) (L C : Nat → Nat) (x : Nat → Nat → Nat) (w : World) (hn : n ≤ 9223372036854775807) (hv : v ≤ 9223372036854775807) (hm : m ≤ 9223372036854775807)
    (hS : SrcR w a2 m A L C x) (hL : ∀ b, b < m → L b ≤ 9223372036854775807) :
    Calls Trym.prog 12 #[.slice a0 n c0, .slice a1 v c1, .slice a2 m c2, .int .i64 place] w fun e w' => PostB e ∧ w' = w := by
  by_cases h1 : 1048576 < n
  · go_enter Trym.func12, Trym.ntmps12
    go_wp2
    go_ret
    exact ⟨⟨_, rfl⟩, rfl⟩
  by_cases h2 : 1048576 < v
  · go_enter Trym.func12, Trym.ntmps12
    go_wp2
    go_ret
    exact ⟨⟨_, rfl⟩, rfl⟩
  by_cases h3 : 1048576 < n + v
  · go_enter Trym.func12, Trym.ntmps12
    go_wp2
    go_ret
    exact ⟨⟨_, rfl⟩, rfl⟩
  by_cases h4 : 1048576 < m
  · go_enter Trym.func12, Trym.ntmps12
    go_wp2
    go_ret
    exact ⟨⟨_, rfl⟩, rfl⟩
  by_cases h5 : 1048576 < n + v + m
  · go_enter Trym.func12, Trym.ntmps12
    go_wp2
    go_ret
    exact ⟨⟨_, rfl⟩, rfl⟩
  by_cases h6 : m = 0
  · subst h6
    go_enter Trym.func12, Trym.ntmps12
    go_wp2
    refine wp_loop_rounds 1 ?_
    rw [rounds_succ]
    go_wp2
    go_ret
    exact ⟨⟨_, rfl⟩, rfl⟩
  · obtain ⟨bb, off, rfl, hbb, hc⟩ := hS.pos (by omega)
    go_enter Trym.func12, Trym.ntmps12
    go_wp2
    go_loop [9, 10] (fun q i => ∃ k qq : Nat, k ≤ m ∧ i = .int .i64 k ∧ q = .int .i64 qq ∧ qq ≤ 1048576) (fun _ i => m - (intOf i).toNat)
    case atStart => exact ⟨0, n + v + m, Nat.zero_le _, rfl, by go_num, by omega⟩
    case round =>
      obtain ⟨k, qq, hk, rfl, rfl, hq⟩ := hrel
      by_cases hlt : k < m
      · have hck := hc k hlt
        have hlk := hL k hlt
        by_cases g1 : 1048576 < L k
        · go_wp2
          go_ret
          exact ⟨⟨_, rfl⟩, rfl⟩
        by_cases g2 : 1048576 < qq + L k
        · go_wp2
          go_ret
          exact ⟨⟨_, rfl⟩, rfl⟩
        · go_wp2
          go_round
          case rel => exact ⟨k + 1, qq + L k, by omega, by go_num, by go_num, by omega⟩
          case measure => simp [intOf]; omega
      · go_wp2
        go_ret
        exact ⟨⟨_, rfl⟩, rfl⟩

#print axioms f12_any
end Go.Proofs.Qxb6605221aMods.Blw
