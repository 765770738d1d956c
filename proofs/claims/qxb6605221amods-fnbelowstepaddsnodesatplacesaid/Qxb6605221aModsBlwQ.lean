/-
  The walk's words on bits, said of natural numbers; 'zzPlaceOf'.
-/
import Derived.Test.Qxb6605221aModsBlwP
import Derived.Test.Qxb6605221aModsCutA
namespace Go.Proofs.Qxb6605221aMods.Blw
open Go.RowKit Go.Deep Cut
set_option linter.unusedVariables false

theorem two_pow_cast (k : Nat) : ((2 ^ k : Nat) : Int) = (2 : Int) ^ k := Int.natCast_pow 2 k

theorem bit_and_one (y : Nat) : ((y &&& 1 : Nat) : Int) = ((y % 2 : Nat) : Int) := by rw [Nat.and_one_is_mod]

/-- 'x >> uint(k) & 1 == 1', x a uint64. -/
theorem bit_u64 (x k : Nat) (hx : x < 18446744073709551616) : (bits BinOp.and IntKind.u64 ((x : Int) / 2 ^ k) 1 == 1) = x.testBit k := by
  have h1 : ((x : Int) / 2 ^ k) = ((x / 2 ^ k : Nat) : Int) := by rw [← two_pow_cast, ← Int.natCast_ediv]
  have h2 : x / 2 ^ k < 18446744073709551616 := Nat.lt_of_le_of_lt (Nat.div_le_self _ _) hx
  have h3 := u64_and_nat (x / 2 ^ k) 1 h2 (by omega)
  rw [h1, show (1 : Int) = ((1 : Nat) : Int) from rfl, h3, bit_and_one, Nat.testBit_eq_decide_div_mod_eq]
  generalize x / 2 ^ k = y
  rw [Bool.eq_iff_iff]
  simp
  omega

theorem i64_small (n : Nat) (h : n < 9223372036854775808) : IntKind.i64.wrap (n : Int) = (n : Int) := by rw [IntKind.wrap_i64]; omega

/-- 'x & 1 == 1', x an int that is not negative. -/
theorem bit_i64 (x : Nat) (hx : x < 9223372036854775808) : (bits BinOp.and IntKind.i64 (x : Int) 1 == 1) = decide (x % 2 = 1) := by
  have h : bits BinOp.and IntKind.i64 (x : Int) 1 = ((x % 2 : Nat) : Int) := by
    show IntKind.i64.wrap ((BitVec.ofInt 64 (x : Int) &&& BitVec.ofInt 64 ((1 : Nat) : Int)).toNat : Int) = _
    rw [BitVec.toNat_and, ofInt_u64 x (by omega), ofInt_u64 1 (by omega), Nat.and_one_is_mod]
    exact i64_small _ (by omega)
  rw [h, Bool.eq_iff_iff]
  simp
  omega

/-- 'p |= 1 << uint(j)', p below 2^j, j below 20. -/
theorem or_pow (p j : Nat) (hp : p < 2 ^ j) (hj : j < 20) : bits BinOp.or IntKind.i64 (p : Int) (wrap64 (2 ^ j)) = ((p + 2 ^ j : Nat) : Int) := by
  have hj2 : 2 ^ j ≤ 2 ^ 19 := Nat.pow_le_pow_right (by decide) (by omega)
  have e : wrap64 ((2 : Int) ^ j) = ((2 ^ j : Nat) : Int) := by
    rw [← two_pow_cast]; unfold wrap64; omega
  rw [e]
  have h : p ||| 2 ^ j = p + 2 ^ j := by
    have h := Nat.two_pow_add_eq_or_of_lt (i := j) (b := p) hp 1
    rw [Nat.mul_one] at h
    rw [Nat.or_comm, ← h, Nat.add_comm]
  show IntKind.i64.wrap ((BitVec.ofInt 64 (p : Int) ||| BitVec.ofInt 64 ((2 ^ j : Nat) : Int)).toNat : Int) = _
  rw [BitVec.toNat_or, ofInt_u64 p (by omega), ofInt_u64 (2 ^ j) (by omega), h]
  exact i64_small _ (by omega)

/-- A table of words lies in memory: m rows, each of at least n words. 't': the rows' own type. -/
structure Words (w : World) (t : TypeId) (a : Option Addr) (m n G : Nat) (V : Nat → Option Addr) (L B : Nat → Nat) (x : Nat → Nat → Nat) : Prop where
  top : 0 < m → a = some ⟨G, 0, none⟩ ∧ w.rowIs G t m (fun b => .slice (V b) (L b) (L b))
  rows : ∀ b, b < m → n ≤ L b ∧ L b ≤ 131072 ∧ (0 < L b → V b = some ⟨B b, 0, none⟩ ∧ w.rowIs (B b) 31 (L b) (fun i => .int .u64 (x b i)))
  bd : ∀ b i, x b i < 18446744073709551616

theorem Words.keep {w w' : World} {t : TypeId} {a : Option Addr} {m n G : Nat} {V : Nat → Option Addr} {L B : Nat → Nat} {x : Nat → Nat → Nat} (h : Words w t a m n G V L B x) {Q : Nat → Prop} (hk : Keep Q w w') (hq : ∀ k, k < w.heap.size → ¬ Q k) : Words w' t a m n G V L B x :=
  ⟨fun hm => ⟨(h.top hm).1, hk.row (h.top hm).2 (hq _ (h.top hm).2.lt)⟩, fun b hb => ⟨(h.rows b hb).1, (h.rows b hb).2.1, fun hl => ⟨((h.rows b hb).2.2 hl).1, hk.row ((h.rows b hb).2.2 hl).2 (hq _ ((h.rows b hb).2.2 hl).2.lt)⟩⟩, h.bd⟩

/-- Bit k of word i, rank by rank. -/
def rk (x : Nat → Nat → Nat) (i k : Nat) : Nat → Bool := fun b => (x b i).testBit k

theorem ret_ib {p q : Int} {g h : Bool} (h1 : p = q) (h2 : g = h) : Ending.returned (.tuple #[.int .i64 p, .bool g]) = .returned (.tuple #[.int .i64 q, .bool h]) := by rw [h1, h2]

set_option maxHeartbeats 1000000 in
theorem f11_any (a : Option Addr) (m n i k G : Nat) (V : Nat → Option Addr) (L B : Nat → Nat) (x : Nat → Nat → Nat) (w : World) (hW : Words w 22 a m n G V L B x) (hm : m ≤ 65536) (hk : k < 64) (hi : i < n) (hn : n ≤ 131072) :
    Calls Trym.prog 11 #[.slice a m m, .int .i64 i, .int .i64 k] w fun e w' => e = .returned (.tuple #[.int .i64 (S (rk x i k) (min m 20) : Nat), .bool (bigB (rk x i k) m)]) ∧ w' = w := by
  by_cases hm0 : m = 0
  · subst hm0
    go_enter Trym.func11, Trym.ntmps11
    go_wp2
    refine wp_loop_rounds 1 ?_
    rw [rounds_succ]
    go_wp2
    go_ret2
    exact ⟨rfl, rfl⟩
  · obtain ⟨rfl, hG⟩ := hW.top (by omega)
    go_enter Trym.func11, Trym.ntmps11
    go_wp2
    go_loop [8, 9, 10] (fun p g b => ∃ (j pp : Nat) (gg : Bool), j ≤ m ∧ b = .int .i64 j ∧ p = .int .i64 pp ∧ g = .bool gg ∧ Hid (pp = S (rk x i k) (min j 20) ∧ gg = bigB (rk x i k) j)) (fun _ _ i => m - (intOf i).toNat)
    case atStart => exact ⟨0, 0, false, Nat.zero_le _, rfl, rfl, rfl, rfl, rfl⟩
    case round =>
      obtain ⟨j, pp, gg, hj, rfl, rfl, rfl, HP⟩ := hrel
      by_cases hlt : j < m
      · obtain ⟨hr1, hr2, hr3⟩ := hW.rows j hlt
        obtain ⟨hv, hrow⟩ := hr3 (by omega)
        have hil : i < L j := by omega
        have h1 : w.cell? ⟨G, j, none⟩ = some (.slice (some ⟨B j, 0, none⟩) (L j) (L j)) := by rw [hG.cell hlt, hv]
        have h2 : w.cell? ⟨B j, i, none⟩ = some (.int .u64 (x j i)) := hrow.cell hil
        have HB : Hid (rk x i k j = (x j i).testBit k) := rfl
        have hbit := bit_u64 (x j i) k (hW.bd j i)
        have HS : Hid (pp < 2 ^ (min j 20)) := by rw [HP.out.1]; exact S_lt _ _
        clear hG hr1 hr3 hv hrow
        cases hc : (x j i).testBit k with
        | false =>
          rw [hc] at hbit
          go_wp2
          go_round
          case rel => exact ⟨j + 1, pp, gg, by omega, by go_num, rfl, rfl, by
            obtain ⟨q1, q2⟩ := HP.out
            have hb := HB.out
            rw [hc] at hb
            refine ⟨?_, ?_⟩
            · rw [q1]
              by_cases e : j < 20
              · rw [show min (j + 1) 20 = j + 1 from by omega, show min j 20 = j from by omega]
                show _ = S (rk x i k) j + _
                rw [hb]; simp
              · rw [show min (j + 1) 20 = 20 from by omega, show min j 20 = 20 from by omega]
            · rw [q2]
              show _ = (bigB (rk x i k) j || (decide (20 ≤ j) && rk x i k j))
              rw [hb]; simp⟩
          case measure => simp [intOf]; omega
        | true =>
          rw [hc] at hbit
          by_cases h20 : 20 ≤ j
          · go_wp2
            go_round
            case rel => exact ⟨j + 1, pp, true, by omega, by go_num, rfl, rfl, by
              obtain ⟨q1, q2⟩ := HP.out
              have hb := HB.out
              rw [hc] at hb
              refine ⟨?_, ?_⟩
              · rw [q1, show min (j + 1) 20 = 20 from by omega, show min j 20 = 20 from by omega]
              · show _ = (bigB (rk x i k) j || (decide (20 ≤ j) && rk x i k j))
                rw [hb]; simp [h20]⟩
            case measure => simp [intOf]; omega
          · have hor := or_pow pp j (by have := HS.out; rwa [show min j 20 = j from by omega] at this) (by omega)
            go_wp2
            go_round
            case rel => exact ⟨j + 1, pp + 2 ^ j, gg, by omega, by go_num, by go_num, rfl, by
              obtain ⟨q1, q2⟩ := HP.out
              have hb := HB.out
              rw [hc] at hb
              refine ⟨?_, ?_⟩
              · rw [q1, show min (j + 1) 20 = j + 1 from by omega, show min j 20 = j from by omega]
                show _ = S (rk x i k) j + _
                rw [hb]; simp
              · rw [q2]
                show _ = (bigB (rk x i k) j || (decide (20 ≤ j) && rk x i k j))
                simp [h20]⟩
            case measure => simp [intOf]; omega
      · have e : j = m := by omega
        subst e
        go_wp2
        go_ret2
        exact ⟨ret_ib (by rw [HP.out.1]) HP.out.2, rfl⟩
#print axioms f11_any
end Go.Proofs.Qxb6605221aMods.Blw
