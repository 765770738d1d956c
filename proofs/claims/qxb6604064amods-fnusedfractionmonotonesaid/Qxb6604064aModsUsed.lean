/-
  'zzMul128' gives the two words of the product; 'FnUsedFractionMonotone' returns true.
-/
import Derived.Test.Qxb6604064aModsRows
import Derived.WalkKit
import Derived.WalkSpells
import Derived.WalkLawsBesides
namespace Go.Proofs.Qxb6604064aMods.Used
open Go.RowKit

/-- The high and the low word of a product. -/
def hiW (a b : Int) : Int := a * b / 18446744073709551616
def loW (a b : Int) : Int := a * b % 18446744073709551616

theorem u64wrap (n : Int) : IntKind.u64.wrap n = n % 18446744073709551616 := by
  simp [IntKind.wrap, IntKind.bits, IntKind.signed]

theorem mul_bd {x y : Int} (hx0 : 0 ≤ x) (hx1 : x ≤ 4294967295) (hy0 : 0 ≤ y) (hy1 : y ≤ 4294967295) : 0 ≤ x * y ∧ x * y ≤ 18446744065119617025 :=
  ⟨Int.mul_nonneg hx0 hy0, by
    have h1 : x * y ≤ 4294967295 * y := Int.mul_le_mul_of_nonneg_right hx1 hy0
    omega⟩

theorem hi_eq (a b : Int) (ha0 : 0 ≤ a) (ha1 : a ≤ 18446744073709551615) (hb0 : 0 ≤ b) (hb1 : b ≤ 18446744073709551615) :
    IntKind.u64.wrap (IntKind.u64.wrap (IntKind.u64.wrap (a / 4294967296 * (b / 4294967296)) +
        IntKind.u64.wrap (IntKind.u64.wrap (a / 4294967296 * bits BinOp.and IntKind.u64 b 4294967295) +
          IntKind.u64.wrap (bits BinOp.and IntKind.u64 a 4294967295 * bits BinOp.and IntKind.u64 b 4294967295) / 4294967296) / 4294967296) +
      IntKind.u64.wrap (bits BinOp.and IntKind.u64 (IntKind.u64.wrap (IntKind.u64.wrap (a / 4294967296 * bits BinOp.and IntKind.u64 b 4294967295) +
          IntKind.u64.wrap (bits BinOp.and IntKind.u64 a 4294967295 * bits BinOp.and IntKind.u64 b 4294967295) / 4294967296)) 4294967295 +
        IntKind.u64.wrap (bits BinOp.and IntKind.u64 a 4294967295 * (b / 4294967296))) / 4294967296) = hiW a b := by
  unfold hiW
  rw [and_low32 a ha0 (by omega), and_low32 b hb0 (by omega)]
  have ea : a = a / 4294967296 * 4294967296 + a % 4294967296 := by omega
  have eb : b = b / 4294967296 * 4294967296 + b % 4294967296 := by omega
  have ba1 : 0 ≤ a / 4294967296 ∧ a / 4294967296 ≤ 4294967295 := by omega
  have ba0 : 0 ≤ a % 4294967296 ∧ a % 4294967296 ≤ 4294967295 := by omega
  have bb1 : 0 ≤ b / 4294967296 ∧ b / 4294967296 ≤ 4294967295 := by omega
  have bb0 : 0 ≤ b % 4294967296 ∧ b % 4294967296 ≤ 4294967295 := by omega
  generalize a / 4294967296 = a1 at *
  generalize a % 4294967296 = a0 at *
  generalize b / 4294967296 = b1 at *
  generalize b % 4294967296 = b0 at *
  have ep : a * b = a1 * b1 * 18446744073709551616 + a1 * b0 * 4294967296 + a0 * b1 * 4294967296 + a0 * b0 := by
    rw [ea, eb, Int.add_mul, Int.mul_add, Int.mul_add]
    have e1 : a1 * 4294967296 * (b1 * 4294967296) = a1 * b1 * 18446744073709551616 := by
      rw [Int.mul_assoc, ← Int.mul_assoc 4294967296 b1, Int.mul_comm 4294967296 b1, Int.mul_assoc b1, ← Int.mul_assoc a1]; rfl
    have e2 : a1 * 4294967296 * b0 = a1 * b0 * 4294967296 := by rw [Int.mul_assoc, Int.mul_comm 4294967296, ← Int.mul_assoc]
    have e3 : a0 * (b1 * 4294967296) = a0 * b1 * 4294967296 := by rw [Int.mul_assoc]
    omega
  have m11 := mul_bd ba1.1 ba1.2 bb1.1 bb1.2
  have m10 := mul_bd ba1.1 ba1.2 bb0.1 bb0.2
  have m01 := mul_bd ba0.1 ba0.2 bb1.1 bb1.2
  have m00 := mul_bd ba0.1 ba0.2 bb0.1 bb0.2
  rw [ep]
  clear ep ea eb
  generalize a1 * b1 = p11 at *
  generalize a1 * b0 = p10 at *
  generalize a0 * b1 = p01 at *
  generalize a0 * b0 = p00 at *
  have e1 : IntKind.u64.wrap p11 = p11 := by rw [u64wrap]; omega
  have e2 : IntKind.u64.wrap p10 = p10 := by rw [u64wrap]; omega
  have e3 : IntKind.u64.wrap p01 = p01 := by rw [u64wrap]; omega
  have e4 : IntKind.u64.wrap p00 = p00 := by rw [u64wrap]; omega
  rw [e1, e2, e3, e4]
  have e5 : IntKind.u64.wrap (p10 + p00 / 4294967296) = p10 + p00 / 4294967296 := by rw [u64wrap]; omega
  rw [e5, and_low32 _ (by omega) (by omega)]
  have e6 : IntKind.u64.wrap ((p10 + p00 / 4294967296) % 4294967296 + p01) = (p10 + p00 / 4294967296) % 4294967296 + p01 := by rw [u64wrap]; omega
  rw [e6, u64wrap, u64wrap]
  omega

theorem lo_eq (a b : Int) : IntKind.u64.wrap (a * b) = loW a b := u64wrap _

theorem ret2 {a b c d : Int} (h1 : a = c) (h2 : b = d) : Ending.returned (.tuple #[.int .u64 a, .int .u64 b]) = .returned (.tuple #[.int .u64 c, .int .u64 d]) := by rw [h1, h2]

set_option maxHeartbeats 400000 in
theorem f13_any (a b : Int) (ha0 : 0 ≤ a) (ha1 : a ≤ 18446744073709551615) (hb0 : 0 ≤ b) (hb1 : b ≤ 18446744073709551615) (w : World) :
    Calls Trym.prog 13 #[.int .u64 a, .int .u64 b] w fun e w' => e = .returned (.tuple #[.int .u64 (hiW a b), .int .u64 (loW a b)]) ∧ w' = w := by
  go_enter Trym.func13, Trym.ntmps13
  go_wp2
  go_ret2
  exact ⟨ret2 (hi_eq a b ha0 ha1 hb0 hb1) (lo_eq a b), rfl⟩

/-- Two products in order: so are their words. -/
theorem words_le {a b c d : Int} (h : a * b ≤ c * d) : hiW a b < hiW c d ∨ ((hiW a b == hiW c d) = true ∧ ¬ hiW a b < hiW c d ∧ loW a b ≤ loW c d) := by
  unfold hiW loW
  generalize a * b = x at *
  generalize c * d = y at *
  rw [beq_iff_eq]
  omega

theorem frac_le {r1 a1 r2 a2 : Int} (h0 : 0 ≤ r1) (h1 : r1 ≤ r2) (h2 : a2 ≤ a1) (h3 : 0 ≤ a2) : r1 * a2 ≤ r2 * a1 :=
  Int.le_trans (Int.mul_le_mul_of_nonneg_right h1 h3) (Int.mul_le_mul_of_nonneg_left h2 (by omega))

set_option maxHeartbeats 1000000 in
theorem f5_any (r1 a1 r2 a2 : Int) (h1 : a1 ≤ 9223372036854775807) (h2 : r2 ≤ 9223372036854775807) (w : World) :
    Calls Trym.prog 5 #[.int .i64 r1, .int .i64 a1, .int .i64 r2, .int .i64 a2] w fun e w' => e = .returned (.bool true) ∧ w' = w := by
  by_cases c1 : r1 < 0
  · go_enter Trym.func5, Trym.ntmps5
    go_wp2
    go_ret
    exact ⟨rfl, rfl⟩
  by_cases c2 : r2 < r1
  · go_enter Trym.func5, Trym.ntmps5
    go_wp2
    go_ret
    exact ⟨rfl, rfl⟩
  by_cases c3 : a1 < a2
  · go_enter Trym.func5, Trym.ntmps5
    go_wp2
    go_ret
    exact ⟨rfl, rfl⟩
  by_cases c4 : a1 ≤ r1
  · go_enter Trym.func5, Trym.ntmps5
    go_wp2_with (first | (go_at_call 13; refine (f13_any _ _ (by omega) (by omega) (by omega) (by omega) _).mono ?_; rintro e w' ⟨rfl, rfl⟩) | go_in)
    go_ret
    exact ⟨rfl, rfl⟩
  have z1 : (a1 == 0) = false := beq_eq_false_iff_ne.2 (by omega)
  by_cases c5 : a2 ≤ r2
  · have hw := words_le (a := r1) (b := 1) (c := 1) (d := a1) (by omega)
    rcases hw with hw | ⟨hw1, hw2, hw3⟩
    all_goals
      go_enter Trym.func5, Trym.ntmps5
      go_wp2_with (first | (go_at_call 13; refine (f13_any _ _ (by omega) (by omega) (by omega) (by omega) _).mono ?_; rintro e w' ⟨rfl, rfl⟩) | go_in)
      go_ret
      exact ⟨rfl, rfl⟩
  · have z2 : (a2 == 0) = false := beq_eq_false_iff_ne.2 (by omega)
    have hw := words_le (frac_le (r1 := r1) (a1 := a1) (r2 := r2) (a2 := a2) (by omega) (by omega) (by omega) (by omega))
    rcases hw with hw | ⟨hw1, hw2, hw3⟩
    all_goals
      go_enter Trym.func5, Trym.ntmps5
      go_wp2_with (first | (go_at_call 13; refine (f13_any _ _ (by omega) (by omega) (by omega) (by omega) _).mono ?_; rintro e w' ⟨rfl, rfl⟩) | go_in)
      go_ret
      exact ⟨rfl, rfl⟩
#print axioms f5_any
end Go.Proofs.Qxb6604064aMods.Used
