/-
  'FnBelowStepAddsNodesAtPlace' returns true and writes nothing that was there.
-/
import Derived.Test.Qxb6605221aModsBlwIn
namespace Go.Proofs.Qxb6605221aMods.Blw
open Go.RowKit Go.Deep Cut
set_option linter.unusedVariables false

theorem f10_int (a0 a1 a2 : Option Addr) (n v m place G g0 : Nat) (pl : Int) (hpl : pl = (place : Int)) (nd : Nat → Nat) (V : Nat → Option Addr) (L B : Nat → Nat) (x : Nat → Nat → Nat) (w : World) (hn : n ≤ 131072) (hv : v ≤ 131072) (hm : m ≤ 65536) (hp2 : place ≤ 9223372036854775807) (hpm : place < v → place < 2 ^ m)
    (hN : 0 < n → a0 = some ⟨g0, 0, none⟩ ∧ w.rowIs g0 31 n (fun i => .int .u64 (nd i))) (hnd : ∀ i, nd i < 18446744073709551616) (hW : Words w 22 a2 m n G V L B x) :
    Calls Trym.prog 10 #[.slice a0 n n, .slice a1 v v, .slice a2 m m, .int .i64 pl] w fun e w' => Post10 w n v m place nd x e w' := by
  subst hpl
  exact f10_any a0 a1 a2 n v m place G g0 nd V L B x w hn hv hm hp2 hpm hN hnd hW

/-- What the law asks of one node, by the number that the ranks write. -/
theorem step_lo (r : Nat → Bool) (m p v : Nat) (i : Bool) (hp : p < v) : (i && (decide (v ≤ p) || decide (S r m < p))) = (i && decide (S r m < p)) := by
  rw [show decide (v ≤ p) = false from by simp; omega, Bool.false_or]

set_option maxHeartbeats 4000000 in
set_option maxRecDepth 100000 in
theorem f4_core (a0 a1 : Option Addr) (n v c0 c1 c2 bb off m place : Nat) (nd : Nat → Nat) (zv : Nat → Int) (A : Nat → Option Addr) (L C : Nat → Nat) (x : Nat → Nat → Nat) (w : World) (hI : In w a0 a1 (some ⟨bb, off, none⟩) n v m nd zv A L C x)
    (hm : m ≤ 65536) (hn : n ≤ 131072) (hv : v ≤ 131072) (hp : place < v) (hc : ∀ i, i < m → w.cell? ⟨bb, off + i, none⟩ = some (.slice (A i) (L i) (C i))) :
    Calls Trym.prog 4 #[.slice a0 n c0, .slice a1 v c1, .slice (some ⟨bb, off, none⟩) m c2, .int .i64 place] w fun e w' => e = .returned (.bool true) ∧ Below w.heap.size w w' := by
  have hL0 := hI.bL
  go_enter Trym.func4, Trym.ntmps4
  go_wp2_with fail
  refine (f12_any a0 a1 (some ⟨bb, off, none⟩) n v m c0 c1 c2 0 place A L C x w hI.bn hI.bv hI.bm hI.srcR hI.bL).mono ?_
  rintro e w' ⟨⟨r, rfl⟩, rfl⟩
  cases r with
  | false =>
    go_wp2
    go_ret
    exact ⟨rfl, Below.refl _ _⟩
  | true =>
  have h20 : decide ((131072 : Int) < (n : Int)) = false := by simp; omega
  have h21 : decide ((131072 : Int) < (v : Int)) = false := by simp; omega
  go_wp2
  clear h20 h21
  go_loop [9, 10] (fun q i => ∃ k qq : Nat, k ≤ m ∧ i = .int .i64 k ∧ q = .int .i64 qq ∧ qq ≤ 4000000 ∧ Hid (∀ b, b < k → L b ≤ 131072)) (fun _ i => m - (intOf i).toNat)
  case atStart => exact ⟨0, 8 * n + 8 * v + 24 * m, Nat.zero_le _, rfl, by go_num, by omega, fun b hb => absurd hb (Nat.not_lt_zero _)⟩
  case round =>
    obtain ⟨k, qq, hk, rfl, rfl, hq, HL⟩ := hrel
    by_cases hlt : k < m
    · have hck := hc k hlt
      have hlk := hL0 k hlt
      by_cases g1 : 131072 < L k
      · go_wp2
        go_ret
        exact ⟨rfl, Below.refl _ _⟩
      by_cases g2 : 1048576 < qq + 8 * L k
      · go_wp2
        go_ret
        exact ⟨rfl, Below.refl _ _⟩
      · go_wp2
        go_round
        case rel => exact ⟨k + 1, qq + 8 * L k, by omega, by go_num, by go_num, by omega, fun b hb => by
          by_cases e : b = k
          · subst e; omega
          · exact HL.out b (by omega)⟩
        case measure => simp [intOf]; omega
    · have e : k = m := by omega
      subst e
      by_cases g1 : 1048576 < qq
      · go_wp2
        go_ret
        exact ⟨rfl, Below.refl _ _⟩
      go_wp2
      clear hlt
      go_loop [11] (fun i => ∃ k' : Nat, k' ≤ k ∧ i = .int .i64 k' ∧ Hid (∀ b, b < k' → n ≤ L b)) (fun i => k - (intOf i).toNat)
      case atStart => exact ⟨0, Nat.zero_le _, rfl, fun b hb => absurd hb (Nat.not_lt_zero _)⟩
      case round =>
        obtain ⟨k', hk', rfl, HN⟩ := hrel
        by_cases hlt : k' < k
        · have hck := hc k' hlt
          have hlk := hL0 k' hlt
          by_cases g3 : L k' < n
          · go_wp2
            go_ret
            exact ⟨rfl, Below.refl _ _⟩
          · go_wp2
            go_round
            case rel => exact ⟨k' + 1, by omega, by go_num, fun b hb => by
              by_cases e : b = k'
              · subst e; omega
              · exact HN.out b (by omega)⟩
            case measure => simp [intOf]; omega
        · have e : k' = k := by omega
          subst e
          go_upto_region 23 with fail
          by_cases hg : k' < 20 ∧ 2 ^ k' ≤ place
          · obtain ⟨q2, q3⟩ := hg
            obtain ⟨P2, HP2, hsh⟩ := shl_is k' q2
            rw [← HP2.out] at q3
            go_wp2
            go_ret
            exact ⟨rfl, Below.refl _ _⟩
          go_cut [108] (fun b wc => b = .bool false ∧ w' = wc)
          case first =>
            as_aux_lemma =>
              by_cases q2 : k' < 20
              · obtain ⟨P2, HP2, hsh⟩ := shl_is k' q2
                have q3 : place < P2 := by
                  rw [HP2.out]
                  rcases Nat.lt_or_ge place (2 ^ k') with y | y
                  · exact y
                  · exact absurd ⟨q2, y⟩ hg
                clear hg
                go_wp2_with fail
                go_meet
                exact ⟨by simp; omega, rfl⟩
              · have q2' : decide ((k' : Int) < 20) = false := by simp; omega
                go_wp2_with fail
                go_meet
                exact ⟨rfl, rfl⟩
          case rest =>
          obtain ⟨rfl, rfl⟩ := hcut
          have HP1 : Hid (place < 2 ^ k') := by
            by_cases q2 : k' < 20
            · rcases Nat.lt_or_ge place (2 ^ k') with y | y
              · exact y
              · exact absurd ⟨q2, y⟩ hg
            · exact pow_big (by omega) (by omega)
          clear hg
          go_upto_region 25 with fail
          by_cases hg : place + 1 < v ∧ k' < 20 ∧ 2 ^ k' ≤ place + 1
          · obtain ⟨q1, q2, q3⟩ := hg
            obtain ⟨P2, HP2, hsh⟩ := shl_is k' q2
            rw [← HP2.out] at q3
            go_wp2
            go_ret
            exact ⟨rfl, Below.refl _ _⟩
          go_cut [127] (fun b wc => b = .bool false ∧ w' = wc)
          case first =>
            as_aux_lemma =>
              by_cases q1 : place + 1 < v
              · by_cases q2 : k' < 20
                · obtain ⟨P2, HP2, hsh⟩ := shl_is k' q2
                  have q3 : place + 1 < P2 := by
                    rw [HP2.out]
                    rcases Nat.lt_or_ge (place + 1) (2 ^ k') with y | y
                    · exact y
                    · exact absurd ⟨q1, q2, y⟩ hg
                  clear hg
                  go_wp2_with fail
                  go_meet
                  exact ⟨by simp; omega, rfl⟩
                · have q2' : decide ((k' : Int) < 20) = false := by simp; omega
                  go_wp2_with fail
                  go_meet
                  exact ⟨rfl, rfl⟩
              · have q1' : decide ((place : Int) + 1 < (v : Int)) = false := by simp; omega
                go_wp2_with fail
                go_meet
                exact ⟨rfl, rfl⟩
          case rest =>
          obtain ⟨rfl, rfl⟩ := hcut
          have HP2 : Hid (place + 1 < v → place + 1 < 2 ^ k') := fun q1 => by
            by_cases q2 : k' < 20
            · rcases Nat.lt_or_ge (place + 1) (2 ^ k') with y | y
              · exact y
              · exact absurd ⟨q1, q2, y⟩ hg
            · exact pow_big (by omega) (by omega)
          clear hg
          go_wp2_with fail
          refine (f7_any a0 n c0 (fun i => (nd i : Nat)) w' (by omega) hI.src0 hI.nil0).mono ?_
          rintro e w1 ⟨a0', g0, rfl, hC0⟩
          go_wp2_with fail
          refine (f8_any a1 v c1 zv w1 (by omega) (hI.src1.keep hC0.keep) hI.nil1).mono ?_
          rintro e w2 ⟨a1', g1, rfl, hC1⟩
          go_wp2_with fail
          refine (f9_any _ k' c2 n A L C x w2 hm (hI.srcR.keep (hC0.keep.trans hC1.keep)) (fun h => by cases h) (fun b hb => ⟨HN.out b hb, HL.out b hb⟩) hI.bx).mono ?_
          rintro e w3 ⟨a2', G, V, B, rfl, hK3, hW⟩
          go_wp2_with fail
          refine (f10_int a0' a1' a2' n v k' place G g0 _ rfl nd V L B x w3 hn hv hm (by omega) (fun _ => HP1.out) (fun h => ⟨(hC0.row h).1, (hC1.keep.trans hK3).row (hC0.row h).2 (fun x => x)⟩) hI.bnd hW).mono ?_
          rintro e w4 ⟨O, og, rfl, hK4, hO, hob, hbits⟩
          go_wp2_with fail
          refine (f10_int a0' a1' a2' n v k' (place + 1) G g0 _ (by omega) nd V L B x w4 hn hv hm (by omega) HP2.out (fun h => ⟨(hC0.row h).1, ((hC1.keep.trans hK3).trans hK4).row (hC0.row h).2 (fun x => x)⟩) hI.bnd (hW.keep hK4 (fun _ _ x => x))).mono ?_
          rintro e w5 ⟨O2, og2, rfl, hK5, hO2, hob2, hbits2⟩
          have HB : Hid (Below w'.heap.size w' w5) := ((((hC0.keep.trans hC1.keep).trans hK3).trans hK4).trans hK5).below (Nat.le_refl _) (fun k x => x.elim)
          have hN4 : 0 < n → a0' = some ⟨g0, 0, none⟩ ∧ w5.rowIs g0 31 n (fun i => .int .u64 (nd i)) := fun h => ⟨(hC0.row h).1, (((hC1.keep.trans hK3).trans hK4).trans hK5).row (hC0.row h).2 (fun x => x)⟩
          have hW4 : Words w5 22 a2' k' n G V L B x := (hW.keep hK4 (fun _ _ x => x)).keep hK5 (fun _ _ x => x)
          have hO1 := hK5.row hO (fun x => x)
          have hnd := hI.bnd
          clear hC0 hC1 hK3 hW hK4 hI HP1 HP2 hc HN HL hL0 hO hK5
          by_cases hn0 : n = 0
          · subst hn0
            go_wp2
            refine wp_loop_rounds 1 ?_
            rw [rounds_succ]
            go_wp2
            go_ret
            exact ⟨rfl, HB.out⟩
          · obtain ⟨rfl, hr0⟩ := hN4 (by omega)
            clear hN4
            go_wp2
            go_loop [14] (fun i => ∃ i' : Nat, i' ≤ n ∧ i = .int .i64 i') (fun i => n - (intOf i).toNat)
            case atStart => exact ⟨0, Nat.zero_le _, rfl⟩
            case round =>
              as_aux_lemma =>
                obtain ⟨i, hi, rfl⟩ := hrel
                by_cases hlt : i < n
                · go_wp2
                  go_loop [15] (fun kv => ∃ q : Nat, q ≤ 64 ∧ kv = .int .i64 q) (fun kv => 64 - (intOf kv).toNat)
                  case atStart => exact ⟨0, Nat.zero_le _, rfl⟩
                  case round =>
                    as_aux_lemma =>
                      obtain ⟨q, hq, rfl⟩ := hrel
                      by_cases hq64 : q < 64
                      · have hc1 : w5.cell? ⟨g0, i, none⟩ = some (.int .u64 (nd i)) := hr0.cell hlt
                        have hc2 : w5.cell? ⟨O, i, none⟩ = some (.int .u64 (og i)) := hO1.cell hlt
                        have hc3 : w5.cell? ⟨O2, i, none⟩ = some (.int .u64 (og2 i)) := hO2.cell hlt
                        have hb1 := bit_u64 (nd i) q (hnd i)
                        have hb2 := bit_u64 (og i) q (hob i)
                        have hb3 := bit_u64 (og2 i) q (hob2 i)
                        rw [hbits i hlt q hq64, step_lo _ _ _ _ _ hp] at hb2
                        rw [hbits2 i hlt q hq64] at hb3
                        have HBG : Hid (bigB (rk x i q) k' = true → 1048576 ≤ S (rk x i q) k') := big_yes _ _
                        have HSM : Hid (bigB (rk x i q) k' = false → S (rk x i q) k' = S (rk x i q) (min k' 20)) := big_no _ _
                        cases t1 : (nd i).testBit q with
                        | false =>
                          rw [t1] at hb1 hb2 hb3
                          simp only [Bool.false_and] at hb2 hb3
                          by_cases t2 : v ≤ place + 1
                          all_goals
                            go_wp2_with (go_at_call 11; refine (f11_any _ k' n i q G V L B x _ hW4 hm hq64 hlt hn).mono ?_; rintro e w' ⟨rfl, rfl⟩)
                            go_round
                            case rel => exact ⟨q + 1, by omega, by go_num⟩
                            case measure => simp [intOf]; omega
                        | true =>
                          rw [t1] at hb1 hb2 hb3
                          simp only [Bool.true_and] at hb2 hb3
                          by_cases t2 : v ≤ place + 1
                          · rw [show decide (v ≤ place + 1) = true from by simp [t2]] at hb3
                            simp only [Bool.true_or] at hb3
                            cases t3 : bigB (rk x i q) k' with
                            | true =>
                              have hs := HBG.out t3
                              rw [show decide (S (rk x i q) k' < place) = false from by simp; omega] at hb2
                              clear hs
                              go_wp2_with (go_at_call 11; refine (f11_any _ k' n i q G V L B x _ hW4 hm hq64 hlt hn).mono ?_; rintro e w' ⟨rfl, rfl⟩)
                              go_round
                              case rel => exact ⟨q + 1, by omega, by go_num⟩
                              case measure => simp [intOf]; omega
                            | false =>
                              have hs := HSM.out t3
                              rw [hs] at hb2
                              clear hs
                              by_cases t4 : S (rk x i q) (min k' 20) < place
                              · rw [show decide (S (rk x i q) (min k' 20) < place) = true from by simp [t4]] at hb2
                                go_wp2_with (go_at_call 11; refine (f11_any _ k' n i q G V L B x _ hW4 hm hq64 hlt hn).mono ?_; rintro e w' ⟨rfl, rfl⟩)
                                go_round
                                case rel => exact ⟨q + 1, by omega, by go_num⟩
                                case measure => simp [intOf]; omega
                              · rw [show decide (S (rk x i q) (min k' 20) < place) = false from by simp; omega] at hb2
                                have t4' : place ≤ S (rk x i q) (min k' 20) := by omega
                                clear t4
                                go_wp2_with (go_at_call 11; refine (f11_any _ k' n i q G V L B x _ hW4 hm hq64 hlt hn).mono ?_; rintro e w' ⟨rfl, rfl⟩)
                                go_round
                                case rel => exact ⟨q + 1, by omega, by go_num⟩
                                case measure => simp [intOf]; omega
                          · rw [show decide (v ≤ place + 1) = false from by simp; omega] at hb3
                            simp only [Bool.false_or] at hb3
                            cases t3 : bigB (rk x i q) k' with
                            | true =>
                              have hs := HBG.out t3
                              rw [show decide (S (rk x i q) k' < place) = false from by simp; omega] at hb2
                              rw [show decide (S (rk x i q) k' < place + 1) = false from by simp; omega] at hb3
                              clear hs
                              go_wp2_with (go_at_call 11; refine (f11_any _ k' n i q G V L B x _ hW4 hm hq64 hlt hn).mono ?_; rintro e w' ⟨rfl, rfl⟩)
                              go_round
                              case rel => exact ⟨q + 1, by omega, by go_num⟩
                              case measure => simp [intOf]; omega
                            | false =>
                              have hs := HSM.out t3
                              rw [hs] at hb2 hb3
                              clear hs
                              by_cases t4 : S (rk x i q) (min k' 20) < place
                              · rw [show decide (S (rk x i q) (min k' 20) < place) = true from by simp [t4]] at hb2
                                rw [show decide (S (rk x i q) (min k' 20) < place + 1) = true from by simp; omega] at hb3
                                have t5 : (((S (rk x i q) (min k' 20) : Nat) : Int) == (place : Int)) = false := beq_eq_false_iff_ne.2 (by omega)
                                go_wp2_with (go_at_call 11; refine (f11_any _ k' n i q G V L B x _ hW4 hm hq64 hlt hn).mono ?_; rintro e w' ⟨rfl, rfl⟩)
                                go_round
                                case rel => exact ⟨q + 1, by omega, by go_num⟩
                                case measure => simp [intOf]; omega
                              · by_cases t6 : S (rk x i q) (min k' 20) = place
                                · rw [show decide (S (rk x i q) (min k' 20) < place) = false from by simp; omega] at hb2
                                  rw [show decide (S (rk x i q) (min k' 20) < place + 1) = true from by simp; omega] at hb3
                                  have t5 : (((S (rk x i q) (min k' 20) : Nat) : Int) == (place : Int)) = true := beq_iff_eq.2 (by omega)
                                  clear t6
                                  go_wp2_with (go_at_call 11; refine (f11_any _ k' n i q G V L B x _ hW4 hm hq64 hlt hn).mono ?_; rintro e w' ⟨rfl, rfl⟩)
                                  go_round
                                  case rel => exact ⟨q + 1, by omega, by go_num⟩
                                  case measure => simp [intOf]; omega
                                · rw [show decide (S (rk x i q) (min k' 20) < place) = false from by simp; omega] at hb2
                                  rw [show decide (S (rk x i q) (min k' 20) < place + 1) = false from by simp; omega] at hb3
                                  have t5 : (((S (rk x i q) (min k' 20) : Nat) : Int) == (place : Int)) = false := beq_eq_false_iff_ne.2 (by omega)
                                  go_wp2_with (go_at_call 11; refine (f11_any _ k' n i q G V L B x _ hW4 hm hq64 hlt hn).mono ?_; rintro e w' ⟨rfl, rfl⟩)
                                  go_round
                                  case rel => exact ⟨q + 1, by omega, by go_num⟩
                                  case measure => simp [intOf]; omega
                      · go_wp2
                        go_round
                        case rel => exact ⟨i + 1, by omega, by go_num⟩
                        case measure => simp [intOf]; omega
                · go_wp2
                  go_ret
                  exact ⟨rfl, HB.out⟩

#print axioms f4_core
end Go.Proofs.Qxb6605221aMods.Blw
