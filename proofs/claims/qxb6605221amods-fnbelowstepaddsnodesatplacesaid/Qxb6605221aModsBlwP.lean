/-
  The plain law of 'below': places written bit by bit, compared from the highest bit. No Go in sight, but for the walk's own words on bits.
-/
import Derived.WalkKit
namespace Go.Proofs.Qxb6605221aMods.Blw
open Go.RowKit

/-- The number whose bit b is r b, for b below j. -/
def S (r : Nat → Bool) : Nat → Nat
  | 0 => 0
  | j + 1 => S r j + (if r j then 2 ^ j else 0)

theorem S_lt (r : Nat → Bool) : ∀ j, S r j < 2 ^ j
  | 0 => by simp [S]
  | j + 1 => by
    have := S_lt r j
    have h2 : 2 ^ (j + 1) = 2 * 2 ^ j := by rw [Nat.pow_succ]; omega
    simp only [S]
    split <;> omega

theorem S_bit (r : Nat → Bool) : ∀ m j, j < m → (S r m).testBit j = r j
  | 0, _, h => absurd h (Nat.not_lt_zero _)
  | m + 1, j, h => by
    have hl := S_lt r m
    simp only [S]
    by_cases e : j = m
    · subst e
      cases hr : r j with
      | true => rw [if_pos rfl, Nat.add_comm, Nat.testBit_two_pow_add_eq, Nat.testBit_lt_two_pow hl]; rfl
      | false => rw [if_neg (by simp), Nat.add_zero, Nat.testBit_lt_two_pow hl]
    · have hj : j < m := by omega
      cases hr : r m with
      | true => rw [if_pos rfl, Nat.add_comm, Nat.testBit_two_pow_add_gt hj]; exact S_bit r m j hj
      | false => rw [if_neg (by simp), Nat.add_zero]; exact S_bit r m j hj

theorem S_mono (r : Nat → Bool) (j : Nat) : ∀ d, S r j ≤ S r (j + d)
  | 0 => Nat.le_refl _
  | d + 1 => Nat.le_trans (S_mono r j d) (by show S r (j + d) ≤ S r (j + d) + _; omega)

/-- Is a bit from 20 on set? -/
def bigB (r : Nat → Bool) : Nat → Bool
  | 0 => false
  | j + 1 => bigB r j || (decide (20 ≤ j) && r j)

theorem big_no (r : Nat → Bool) : ∀ m, bigB r m = false → S r m = S r (min m 20)
  | 0, _ => rfl
  | m + 1, h => by
    simp only [bigB, Bool.or_eq_false_iff] at h
    have ih := big_no r m h.1
    by_cases e : 20 ≤ m
    · have hr : r m = false := by simpa [e] using h.2
      rw [show min (m + 1) 20 = 20 from by omega]
      rw [show min m 20 = 20 from by omega] at ih
      show S r m + (if r m then 2 ^ m else 0) = S r 20
      rw [hr, if_neg (by simp), Nat.add_zero]
      exact ih
    · rw [show min (m + 1) 20 = m + 1 from by omega]

theorem big_yes (r : Nat → Bool) : ∀ m, bigB r m = true → 1048576 ≤ S r m
  | 0, h => by simp [bigB] at h
  | m + 1, h => by
    simp only [bigB, Bool.or_eq_true, Bool.and_eq_true, decide_eq_true_eq] at h
    rcases h with h | ⟨h1, h2⟩
    · have := big_yes r m h
      simp only [S]; omega
    · have hp : 2 ^ 20 ≤ 2 ^ m := Nat.pow_le_pow_right (by decide) h1
      simp only [S, h2, if_true]
      omega

/-- What the law reads off the ranks, against the number itself. -/
theorem place_lt (r : Nat → Bool) (m p : Nat) (hp : p ≤ 1048576) : (!bigB r m && decide (S r (min m 20) < p)) = decide (S r m < p) := by
  cases h : bigB r m with
  | false => rw [big_no r m h]; simp
  | true => have := big_yes r m h; simp; omega
theorem place_eq (r : Nat → Bool) (m p : Nat) (hp : p < 1048576) : (!bigB r m && decide (S r (min m 20) = p)) = decide (S r m = p) := by
  cases h : bigB r m with
  | false => rw [big_no r m h]; simp
  | true => have := big_yes r m h; simp; omega
theorem place_ge (r : Nat → Bool) (m p : Nat) (hp : p ≤ 1048576) : (bigB r m || decide (p ≤ S r (min m 20))) = decide (p ≤ S r m) := by
  cases h : bigB r m with
  | false => rw [big_no r m h]; simp
  | true => have := big_yes r m h; simp; omega

/-! ### One word, all its bits at once -/
/-- After the bits of place from j on have been looked at. 'r k b': bit k of rank b's word. -/
def Inv (nd : Nat) (r : Nat → Nat → Bool) (m place j out same : Nat) : Prop :=
  ∀ k, k < 64 → same.testBit k = (nd.testBit k && decide (S (r k) m >>> j = place >>> j)) ∧ out.testBit k = (nd.testBit k && decide (S (r k) m >>> j < place >>> j))

theorem shr_split (x j : Nat) : x >>> j = 2 * (x >>> (j + 1)) + (x.testBit j).toNat := by
  have h : x >>> (j + 1) = (x >>> j) / 2 := Nat.shiftRight_succ x j
  have hb : x.testBit j = decide ((x >>> j) % 2 = 1) := by rw [Nat.testBit_eq_decide_div_mod_eq, Nat.shiftRight_eq_div_pow]
  rw [h, hb]
  generalize x >>> j = y
  by_cases e : y % 2 = 1
  · simp [e]; omega
  · simp [e]; omega

theorem inv_start (nd : Nat) (r : Nat → Nat → Bool) (m place : Nat) (hp : place < 2 ^ m) : Inv nd r m place m 0 nd := by
  intro k _
  have h1 : S (r k) m >>> m = 0 := by rw [Nat.shiftRight_eq_div_pow]; exact Nat.div_eq_of_lt (S_lt _ _)
  have h2 : place >>> m = 0 := by rw [Nat.shiftRight_eq_div_pow]; exact Nat.div_eq_of_lt hp
  simp [h1, h2]

theorem inv_one {nd m place j out same x : Nat} {r : Nat → Nat → Bool} (h : Inv nd r m place (j + 1) out same) (hj : j < m) (ht : place.testBit j = true) (hx : ∀ k, k < 64 → x.testBit k = r k j) (hx64 : x < 18446744073709551616) :
    Inv nd r m place j (out ||| (same &&& (18446744073709551615 - x))) (same &&& x) := by
  intro k hk
  obtain ⟨h1, h2⟩ := h k hk
  have e1 := shr_split (S (r k) m) j
  have e2 := shr_split place j
  have hc : (18446744073709551615 - x).testBit k = !x.testBit k := by
    have := Nat.testBit_two_pow_sub_succ (n := 64) (x := x) (by omega) k
    rw [show (2 : Nat) ^ 64 - (x + 1) = 18446744073709551615 - x from by omega] at this
    rw [this]; simp [hk]
  rw [S_bit _ _ _ hj] at e1
  rw [ht] at e2
  rw [Nat.testBit_or, Nat.testBit_and, Nat.testBit_and, hc, h1, h2, hx k hk, e1, e2]
  generalize S (r k) m >>> (j + 1) = a
  generalize place >>> (j + 1) = b
  constructor <;> rw [Bool.eq_iff_iff] <;> cases nd.testBit k <;> cases r k j <;> simp <;> omega

theorem inv_zero {nd m place j out same x : Nat} {r : Nat → Nat → Bool} (h : Inv nd r m place (j + 1) out same) (hj : j < m) (ht : place.testBit j = false) (hx : ∀ k, k < 64 → x.testBit k = r k j) (hx64 : x < 18446744073709551616) :
    Inv nd r m place j out (same &&& (18446744073709551615 - x)) := by
  intro k hk
  obtain ⟨h1, h2⟩ := h k hk
  have e1 := shr_split (S (r k) m) j
  have e2 := shr_split place j
  have hc : (18446744073709551615 - x).testBit k = !x.testBit k := by
    have := Nat.testBit_two_pow_sub_succ (n := 64) (x := x) (by omega) k
    rw [show (2 : Nat) ^ 64 - (x + 1) = 18446744073709551615 - x from by omega] at this
    rw [this]; simp [hk]
  rw [S_bit _ _ _ hj] at e1
  rw [ht] at e2
  rw [Nat.testBit_and, hc, h1, h2, hx k hk, e1, e2]
  generalize S (r k) m >>> (j + 1) = a
  generalize place >>> (j + 1) = b
  constructor <;> rw [Bool.eq_iff_iff] <;> cases nd.testBit k <;> cases r k j <;> simp <;> omega

theorem inv_end {nd m place out same : Nat} {r : Nat → Nat → Bool} (h : Inv nd r m place 0 out same) (k : Nat) (hk : k < 64) : out.testBit k = (nd.testBit k && decide (S (r k) m < place)) := by
  simpa using (h k hk).2
#print axioms inv_zero
end Go.Proofs.Qxb6605221aMods.Blw
