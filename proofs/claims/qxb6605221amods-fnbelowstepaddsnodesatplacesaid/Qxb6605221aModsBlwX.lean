/-
  'FnBelowIsNodesWithSmallerPlace' at no rank: it returns true and writes nothing that was there.
-/
import Derived.Test.Qxb6605221aModsBlwW
import Derived.Deep.DeepCutAuto
namespace Go.Proofs.Qxb6605221aMods.Blw
open Go.RowKit Go.Deep Cut
set_option linter.unusedVariables false

set_option maxHeartbeats 4000000 in
set_option maxRecDepth 100000 in
theorem f3_core0 (a0 a1 : Option Addr) (a2 : Option Addr) (n v c0 c1 c2 m place : Nat) (nd : Nat → Nat) (zv : Nat → Int) (A : Nat → Option Addr) (L C : Nat → Nat) (x : Nat → Nat → Nat) (w : World) (hI : In w a0 a1 a2 n v m nd zv A L C x)
    (hm : m ≤ 65536) (hn : n ≤ 131072) (hv : v ≤ 131072) (hp : place ≤ 9223372036854775807) (HM0 : Hid (m = 0)) :
    Calls Trym.prog 3 #[.slice a0 n c0, .slice a1 v c1, .slice a2 m c2, .int .i64 place] w fun e w' => e = .returned (.bool true) ∧ Below w.heap.size w w' := by
  go_enter Trym.func3, Trym.ntmps3
  go_wp2_with fail
  refine (f6_any a0 a1 a2 n v m c0 c1 c2 0 place A L C x w hI.bn hI.bv hI.bm hI.srcR hI.bL).mono ?_
  rintro e w' ⟨⟨r, rfl⟩, rfl⟩
  cases r with
  | false =>
    go_wp2
    go_ret
    exact ⟨rfl, Below.refl _ _⟩
  | true =>
  have h20 : decide ((131072 : Int) < (n : Int)) = false := by simp; omega
  have h21 : decide ((131072 : Int) < (v : Int)) = false := by simp; omega
  go_wp2
  clear h20 h21
  go_loop [9, 10] (fun q i => ∃ k qq : Nat, k ≤ m ∧ i = .int .i64 k ∧ q = .int .i64 qq ∧ qq ≤ 4000000 ∧ Hid (∀ b, b < k → L b ≤ 131072)) (fun _ i => m - (intOf i).toNat)
  case atStart => exact ⟨0, 8 * n + 8 * v + 24 * m, Nat.zero_le _, rfl, by go_num, by omega, fun b hb => absurd hb (Nat.not_lt_zero _)⟩
  case round =>
    obtain ⟨k, qq, hk, rfl, rfl, hq, HL⟩ := hrel
    by_cases hlt : k < m
    · exact absurd hlt (by have := HM0.out; omega)
    · have e : k = m := by omega
      subst e
      by_cases g1 : 1048576 < qq
      · go_wp2
        go_ret
        exact ⟨rfl, Below.refl _ _⟩
      go_wp2
      clear hlt
      go_loop [11] (fun i => ∃ k' : Nat, k' ≤ k ∧ i = .int .i64 k' ∧ Hid (∀ b, b < k' → n ≤ L b)) (fun i => k - (intOf i).toNat)
      case atStart => exact ⟨0, Nat.zero_le _, rfl, fun b hb => absurd hb (Nat.not_lt_zero _)⟩
      case round =>
        obtain ⟨k', hk', rfl, HN⟩ := hrel
        by_cases hlt : k' < k
        · exact absurd hlt (by have := HM0.out; omega)
        · have e : k' = k := by omega
          subst e
          go_upto_region 23 with fail
          by_cases hg : place < v ∧ k' < 20 ∧ 2 ^ k' ≤ place
          · obtain ⟨q1, q2, q3⟩ := hg
            obtain ⟨P2, HP2, hsh⟩ := shl_is k' q2
            rw [← HP2.out] at q3
            go_wp2
            go_ret
            exact ⟨rfl, Below.refl _ _⟩
          go_cut [104] (fun b wc => b = .bool false ∧ w' = wc)
          case first =>
            as_aux_lemma =>
              by_cases q1 : place < v
              · by_cases q2 : k' < 20
                · obtain ⟨P2, HP2, hsh⟩ := shl_is k' q2
                  have q3 : place < P2 := by
                    rw [HP2.out]
                    rcases Nat.lt_or_ge place (2 ^ k') with y | y
                    · exact y
                    · exact absurd ⟨q1, q2, y⟩ hg
                  clear hg
                  have q3' : decide ((P2 : Int) ≤ (place : Int)) = false := by simp; omega
                  go_wp2_with fail
                  go_meet
                  exact ⟨by simp; omega, rfl⟩
                · have q2' : decide ((k' : Int) < 20) = false := by simp; omega
                  go_wp2_with fail
                  go_meet
                  exact ⟨rfl, rfl⟩
              · have q1' : decide ((place : Int) < (v : Int)) = false := by simp; omega
                go_wp2_with fail
                go_meet
                exact ⟨rfl, rfl⟩
          case rest =>
          obtain ⟨rfl, rfl⟩ := hcut
          have HPM : Hid (place < v → place < 2 ^ k') := fun q1 => by
            by_cases q2 : k' < 20
            · rcases Nat.lt_or_ge place (2 ^ k') with y | y
              · exact y
              · exact absurd ⟨q1, q2, y⟩ hg
            · exact pow_big (by omega) (by omega)
          clear hg
          go_wp2_with fail
          refine (f7_any a0 n c0 (fun i => (nd i : Nat)) w' (by omega) hI.src0 hI.nil0).mono ?_
          rintro e w1 ⟨a0', g0, rfl, hC0⟩
          go_wp2_with fail
          refine (f8_any a1 v c1 zv w1 (by omega) (hI.src1.keep hC0.keep) hI.nil1).mono ?_
          rintro e w2 ⟨a1', g1, rfl, hC1⟩
          go_wp2_with fail
          refine (f9_any _ k' c2 n A L C x w2 hm (hI.srcR.keep (hC0.keep.trans hC1.keep)) hI.nil2 (fun b hb => ⟨HN.out b hb, HL.out b hb⟩) hI.bx).mono ?_
          rintro e w3 ⟨a2', G, V, B, rfl, hK3, hW⟩
          go_wp2_with fail
          refine (f10_any a0' a1' a2' n v k' place G g0 nd V L B x w3 hn hv hm hp HPM.out (fun h => ⟨(hC0.row h).1, (hC1.keep.trans hK3).row (hC0.row h).2 (fun x => x)⟩) hI.bnd hW).mono ?_
          rintro e w4 ⟨O, og, rfl, hK4, hO, hob, hbits⟩
          have HB : Hid (Below w'.heap.size w' w4) := (((hC0.keep.trans hC1.keep).trans hK3).trans hK4).below (Nat.le_refl _) (fun k x => x.elim)
          have hN4 : 0 < n → a0' = some ⟨g0, 0, none⟩ ∧ w4.rowIs g0 31 n (fun i => .int .u64 (nd i)) := fun h => ⟨(hC0.row h).1, ((hC1.keep.trans hK3).trans hK4).row (hC0.row h).2 (fun x => x)⟩
          have hW4 : Words w4 22 a2' k' n G V L B x := hW.keep hK4 (fun _ _ x => x)
          have hnd := hI.bnd
          clear hC0 hC1 hK3 hW hK4 hI HPM HN HL
          by_cases hn0 : n = 0
          · subst hn0
            go_wp2
            refine wp_loop_rounds 1 ?_
            rw [rounds_succ]
            go_wp2
            go_ret
            exact ⟨rfl, HB.out⟩
          · obtain ⟨rfl, hr0⟩ := hN4 (by omega)
            clear hN4
            go_wp2
            go_loop [13] (fun i => ∃ i' : Nat, i' ≤ n ∧ i = .int .i64 i') (fun i => n - (intOf i).toNat)
            case atStart => exact ⟨0, Nat.zero_le _, rfl⟩
            case round =>
              as_aux_lemma =>
                obtain ⟨i, hi, rfl⟩ := hrel
                by_cases hlt : i < n
                · go_wp2
                  go_loop [14] (fun kv => ∃ q : Nat, q ≤ 64 ∧ kv = .int .i64 q) (fun kv => 64 - (intOf kv).toNat)
                  case atStart => exact ⟨0, Nat.zero_le _, rfl⟩
                  case round =>
                    as_aux_lemma =>
                      obtain ⟨q, hq, rfl⟩ := hrel
                      by_cases hq64 : q < 64
                      · have hc1 : w4.cell? ⟨g0, i, none⟩ = some (.int .u64 (nd i)) := hr0.cell hlt
                        have hc2 : w4.cell? ⟨O, i, none⟩ = some (.int .u64 (og i)) := hO.cell hlt
                        have hb1 := bit_u64 (nd i) q (hnd i)
                        have hb2 := bit_u64 (og i) q (hob i)
                        rw [hbits i hlt q hq64] at hb2
                        have HSUM : Hid (place ≤ 1048576 → (!bigB (rk x i q) k' && decide (S (rk x i q) (min k' 20) < place)) = decide (S (rk x i q) k' < place)) := fun h => place_lt _ _ _ h
                        cases t1 : (nd i).testBit q with
                        | false =>
                          rw [t1] at hb1 hb2
                          simp only [Bool.false_and] at hb2
                          go_wp2
                          go_round
                          case rel => exact ⟨q + 1, by omega, by go_num⟩
                          case measure => simp [intOf]; omega
                        | true =>
                          rw [t1] at hb1 hb2
                          simp only [Bool.true_and] at hb2
                          by_cases t2 : v ≤ place
                          · rw [show decide (v ≤ place) = true from by simp [t2]] at hb2
                            simp only [Bool.true_or] at hb2
                            go_wp2
                            go_round
                            case rel => exact ⟨q + 1, by omega, by go_num⟩
                            case measure => simp [intOf]; omega
                          · rw [show decide (v ≤ place) = false from by simp; omega] at hb2
                            simp only [Bool.false_or] at hb2
                            rw [← HSUM.out (by omega)] at hb2
                            have t2' : decide (v ≤ place) = false := by simp; omega
                            cases t3 : bigB (rk x i q) k' with
                            | true =>
                              rw [t3] at hb2
                              simp only [Bool.not_true, Bool.false_and] at hb2
                              go_wp2_with (go_at_call 11; refine (f11_any _ k' n i q G V L B x _ hW4 hm hq64 hlt hn).mono ?_; rintro e w' ⟨rfl, rfl⟩)
                              go_round
                              case rel => exact ⟨q + 1, by omega, by go_num⟩
                              case measure => simp [intOf]; omega
                            | false =>
                              rw [t3] at hb2
                              simp only [Bool.not_false, Bool.true_and] at hb2
                              by_cases t4 : S (rk x i q) (min k' 20) < place
                              · rw [show decide (S (rk x i q) (min k' 20) < place) = true from by simp [t4]] at hb2
                                go_wp2_with (go_at_call 11; refine (f11_any _ k' n i q G V L B x _ hW4 hm hq64 hlt hn).mono ?_; rintro e w' ⟨rfl, rfl⟩)
                                go_round
                                case rel => exact ⟨q + 1, by omega, by go_num⟩
                                case measure => simp [intOf]; omega
                              · rw [show decide (S (rk x i q) (min k' 20) < place) = false from by simp; omega] at hb2
                                go_wp2_with (go_at_call 11; refine (f11_any _ k' n i q G V L B x _ hW4 hm hq64 hlt hn).mono ?_; rintro e w' ⟨rfl, rfl⟩)
                                go_round
                                case rel => exact ⟨q + 1, by omega, by go_num⟩
                                case measure => simp [intOf]; omega
                      · go_wp2
                        go_round
                        case rel => exact ⟨i + 1, by omega, by go_num⟩
                        case measure => simp [intOf]; omega
                · go_wp2
                  go_ret
                  exact ⟨rfl, HB.out⟩


set_option maxHeartbeats 1000000 in
set_option maxRecDepth 100000 in
theorem f3_early (a0 a1 a2 : Option Addr) (n v m c0 c1 c2 : Nat) (place : Int) (nd : Nat → Nat) (zv : Nat → Int) (A : Nat → Option Addr) (L C : Nat → Nat) (x : Nat → Nat → Nat) (w : World) (hI : In w a0 a1 a2 n v m nd zv A L C x)
    (h : 131072 < n ∨ 131072 < v ∨ 65536 < m) :
    Calls Trym.prog 3 #[.slice a0 n c0, .slice a1 v c1, .slice a2 m c2, .int .i64 place] w fun e w' => e = .returned (.bool true) ∧ Below w.heap.size w w' := by
  have hbn := hI.bn
  have hbv := hI.bv
  have hbm := hI.bm
  by_cases h1 : 131072 < n
  · go_enter Trym.func3, Trym.ntmps3
    go_wp2_with fail
    refine (f6_any a0 a1 a2 n v m c0 c1 c2 0 place A L C x w hI.bn hI.bv hI.bm hI.srcR hI.bL).mono ?_
    rintro e w' ⟨⟨r, rfl⟩, rfl⟩
    cases r <;> (go_wp2; go_ret; exact ⟨rfl, Below.refl _ _⟩)
  by_cases h2 : 131072 < v
  · go_enter Trym.func3, Trym.ntmps3
    go_wp2_with fail
    refine (f6_any a0 a1 a2 n v m c0 c1 c2 0 place A L C x w hI.bn hI.bv hI.bm hI.srcR hI.bL).mono ?_
    rintro e w' ⟨⟨r, rfl⟩, rfl⟩
    cases r <;> (go_wp2; go_ret; exact ⟨rfl, Below.refl _ _⟩)
  · have h3 : 65536 < m := by omega
    clear h
    go_enter Trym.func3, Trym.ntmps3
    go_wp2_with fail
    refine (f6_any a0 a1 a2 n v m c0 c1 c2 0 place A L C x w hI.bn hI.bv hI.bm hI.srcR hI.bL).mono ?_
    rintro e w' ⟨⟨r, rfl⟩, rfl⟩
    cases r <;> (go_wp2; go_ret; exact ⟨rfl, Below.refl _ _⟩)
#print axioms f3_early
end Go.Proofs.Qxb6605221aMods.Blw
