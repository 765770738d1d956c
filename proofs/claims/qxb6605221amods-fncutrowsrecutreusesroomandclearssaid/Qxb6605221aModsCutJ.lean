/-
  'FnCutRowsRecutReusesRoomAndClears' returns true.
-/
import Derived.Test.Qxb6605221aModsCutI
import Derived.Deep.DeepCutAuto
namespace Go.Proofs.Qxb6605221aMods.Cut
open Go.RowKit Go.Deep
set_option linter.unusedVariables false

set_option maxHeartbeats 8000000 in
set_option maxRecDepth 100000 in
theorem f5_main (n1 w1 n2 w2 s1 s2 : Nat) (w : World) (h5 : n1 ≤ 65536) (h6 : w1 ≤ 65536) (h7 : n2 ≤ 65536) (h8 : w2 ≤ 65536) (hs1 : s1 ≤ 65536) (hs2 : s2 ≤ 65536)
    (e1 : (n1 : Int) * (w1 : Int) = (s1 : Int)) (e2 : (n2 : Int) * (w2 : Int) = (s2 : Int))
    (hq1 : (0 : Int) < (w1 : Int) → (n1 : Int) ≤ 65536 / (w1 : Int)) (hq2 : (0 : Int) < (w2 : Int) → (n2 : Int) ≤ 65536 / (w2 : Int)) :
    Calls Trym.prog 5 #[.int .i64 n1, .int .i64 w1, .int .i64 n2, .int .i64 w2] w fun e w' => e = .returned (.bool true) ∧ Below w.heap.size w w' := by
  have HQ1 : Hid _ := hq1
  have HQ2 : Hid _ := hq2
  clear hq1 hq2
  go_enter Trym.func5, Trym.ntmps5
  go_upto_region 5 with fail
  go_cut [58] (fun b wc => b = .bool false ∧ w = wc)
  case first =>
    as_aux_lemma =>
      by_cases c : (0 : Int) < (w1 : Int)
      · have c2 := HQ1.out c
        go_wp2_with fail
        go_meet
        exact ⟨by simp; omega, rfl⟩
      · go_wp2_with fail
        go_meet
        exact ⟨rfl, rfl⟩
  case rest =>
  obtain ⟨rfl, rfl⟩ := hcut
  go_upto_region 7 with fail
  go_cut [66] (fun b wc => b = .bool false ∧ w = wc)
  case first =>
    as_aux_lemma =>
      by_cases c : (0 : Int) < (w2 : Int)
      · have c2 := HQ2.out c
        go_wp2_with fail
        go_meet
        exact ⟨by simp; omega, rfl⟩
      · go_wp2_with fail
        go_meet
        exact ⟨rfl, rfl⟩
  case rest =>
  obtain ⟨rfl, rfl⟩ := hcut
  clear HQ1 HQ2
  go_wp2_with fail
  refine (f13_first n1 w1 s1 w h5 h6 hs1 e1).mono ?_
  rintro e w1' ⟨ra, aa, A, R, ad, rfl, hG⟩
  go_wp2_with fail
  refine (f14_any ra aa n1 s1 n1 w1 s1 n1 R A s1 ad 3 (fun _ => .int .i64 0) (fun i => .slice (ad i) w1 w1) w1' h5 h6 hs1 e1 (by omega) (by omega) (fun a => ⟨(hG.all a).1, Nat.le_refl _, (hG.all a).2.congr (fun i _ => by simp)⟩)
    (fun a => ⟨(hG.rows a).1, Nat.le_refl _, (hG.rows a).2.congr (fun i _ => by simp)⟩) hG.had hG.ne).mono ?_
  rintro e w2' ⟨rfl, hC⟩
  have hH := held_of hG hC e1 h5 hs1
  have HB : Hid (Below w.heap.size w w2') := (hG.keep.below (Nat.le_refl _) (fun k x => x.elim)).trans (hC.keep.below hG.keep.size (fun k x => by rw [x.1]; exact hG.newA))
  clear hG hC
  go_wp2_with fail
  refine (f13_second hH h6 h7 h8 hs2 e2).mono ?_
  rintro e w3' ⟨ra2, aa2, A2, R2, rc2, ac2, ad2, rfl, hS⟩
  go_wp2_with fail
  refine (f14_any ra2 aa2 rc2 ac2 n2 w2 s2 rc2 R2 A2 ac2 ad2 5 (mk 3) (fun i => .slice (ad i) w1 w1) w3' h7 h8 hs2 e2 (by omega) (by omega) hS.all2 hS.rows2 hS.had2 hS.ne2).mono ?_
  rintro e w4' ⟨rfl, hC⟩
  have hF := fin_of hH hS hC (fun x => by have := mul_nat e2; rw [x, Nat.zero_mul] at this; exact this.symm)
  have HB4 : Hid (Below w.heap.size w w4') := (HB.out.trans (hS.keep.below hH.size (fun k x => by
      rcases x with x | x
      · rw [x.1]; exact hH.newA
      · rw [x.1]; exact hH.newR))).trans (hC.keep.below (Nat.le_trans hH.size hS.keep.size) (fun k x => by rw [x.1]; exact hS.newA2 x.2))
  clear hC hS hH HB
  go_upto_if 101 with fail
  go_cut [] (fun wc => Keep (fun _ => False) w4' wc)
  case first =>
    as_aux_lemma =>
      by_cases hz : 0 < s1
      · obtain ⟨rfl, hA⟩ := hF.all hz
        clear hF
        by_cases hc : s2 ≤ s1
        · go_wp2
          go_loopw [15] (fun i wr => ∃ k : Nat, k ≤ s2 ∧ i = .int .i64 k ∧ Keep (fun _ => False) w4' wr) (fun i _ => s2 - (intOf i).toNat)
          case atStart => exact ⟨0, Nat.zero_le _, rfl, Keep.refl _ _⟩
          case round =>
            as_aux_lemma =>
              obtain ⟨k, hk, rfl, hK⟩ := hrel
              by_cases hlt : k < s2
              · have hcell : wr.cell? ⟨A, k, none⟩ = some (.int .i64 ((k : Int) * 7 + 5)) := by
                  have := (hK.row hA (fun x => x)).cell (i := k) (by omega); rw [this, if_pos ⟨hlt, hc⟩]; rfl
                have hi : (k : Int) < (s1 : Int) := by omega
                go_wp2
                go_quiet ((go_at_call 15; exact Calls.quiet_of_same (f15_any _ _ _ (by omega) (by omega) (by omega) (by omega))))
                go_wp2
                go_roundw
                case rel => exact ⟨k + 1, by omega, by go_num, hK.drewN _⟩
                case measure => simp [intOf]; omega
              · go_wp2
                clear hlt hk
                go_loopw [16] (fun i wr => ∃ k : Nat, s2 ≤ k ∧ k ≤ s1 ∧ i = .int .i64 k ∧ Keep (fun _ => False) w4' wr) (fun i _ => s1 - (intOf i).toNat)
                case atStart => exact ⟨s2, Nat.le_refl _, hc, rfl, hK⟩
                case round =>
                  as_aux_lemma =>
                    obtain ⟨k, hk0, hk, rfl, hK⟩ := hrel
                    by_cases hlt : k < s1
                    · have hcell : wr.cell? ⟨A, k, none⟩ = some (.int .i64 ((k : Int) * 7 + 3)) := by
                        have := (hK.row hA (fun x => x)).cell (i := k) (by omega); rw [this, if_neg (by omega)]; rfl
                      have hi : (k : Int) < (s1 : Int) := by omega
                      go_wp2
                      go_quiet ((go_at_call 15; exact Calls.quiet_of_same (f15_any _ _ _ (by omega) (by omega) (by omega) (by omega))))
                      go_wp2
                      go_roundw
                      case rel => exact ⟨k + 1, by omega, by omega, by go_num, hK.drewN _⟩
                      case measure => simp [intOf]; omega
                    · go_wp2
                      go_meet
                      exact hK
        · go_wp2
          go_loopw [17] (fun i wr => ∃ k : Nat, k ≤ s1 ∧ i = .int .i64 k ∧ Keep (fun _ => False) w4' wr) (fun i _ => s1 - (intOf i).toNat)
          case atStart => exact ⟨0, Nat.zero_le _, rfl, Keep.refl _ _⟩
          case round =>
            as_aux_lemma =>
              obtain ⟨k, hk, rfl, hK⟩ := hrel
              by_cases hlt : k < s1
              · have hcell : wr.cell? ⟨A, k, none⟩ = some (.int .i64 ((k : Int) * 7 + 3)) := by
                  have := (hK.row hA (fun x => x)).cell (i := k) (by omega); rw [this, if_neg (by omega)]; rfl
                have hi : (k : Int) < (s1 : Int) := by omega
                go_wp2
                go_quiet ((go_at_call 15; exact Calls.quiet_of_same (f15_any _ _ _ (by omega) (by omega) (by omega) (by omega))))
                go_wp2
                go_roundw
                case rel => exact ⟨k + 1, by omega, by go_num, hK.drewN _⟩
                case measure => simp [intOf]; omega
              · go_wp2
                go_meet
                exact hK
      · clear hF
        by_cases hc : s2 ≤ s1
        · go_wp2
          refine wp_loop_rounds 1 ?_
          rw [rounds_succ]
          go_wp2
          refine wp_loop_rounds 1 ?_
          rw [rounds_succ]
          go_wp2
          go_meet
          exact Keep.refl _ _
        · go_wp2
          refine wp_loop_rounds 1 ?_
          rw [rounds_succ]
          go_wp2
          go_meet
          exact Keep.refl _ _
  case rest =>
  have hK5 : Keep (fun _ => False) w4' wc := hcut
  clear hcut
  obtain ⟨w5', rfl⟩ : ∃ w5' : World, w5' = wc := ⟨_, rfl⟩
  go_upto_if 141 with fail
  go_cut [18] (fun v wc => (∃ fr : Nat, v = .int .i64 fr ∧ Hid ((fr = n2 ∧ n2 ≤ n1) ∨ (fr = 0 ∧ n1 < n2))) ∧ Keep (fun _ => False) w4' wc)
  case first =>
    as_aux_lemma =>
      by_cases hc : n2 ≤ n1
      · by_cases hz : 0 < n2
        · obtain ⟨rfl, hR⟩ := hF.rows (by omega)
          go_wp2
          go_loopw [19] (fun i wr => ∃ k : Nat, k ≤ n2 ∧ i = .int .i64 k ∧ Keep (fun _ => False) w4' wr) (fun i _ => n2 - (intOf i).toNat)
          case atStart => exact ⟨0, Nat.zero_le _, rfl, hK5⟩
          case round =>
            as_aux_lemma =>
              obtain ⟨k, hk, rfl, hK⟩ := hrel
              obtain ⟨w6', rfl⟩ : ∃ w6' : World, w6' = wr := ⟨_, rfl⟩
              by_cases hlt : k < n2
              · obtain ⟨o, Ho, ho, _, ho2⟩ := off_eq k w2 n2 s2 hlt e2
                have hcell : w6'.cell? ⟨R, k, none⟩ = some (.slice (ad2 k) w2 w2) := by
                  have := (hK.row hR (fun x => x)).cell (i := k) (by omega); rw [this, if_pos ⟨hlt, hc⟩]
                go_wp2
                clear hcell
                go_loopw [20] (fun i wr => ∃ j : Nat, j ≤ w2 ∧ i = .int .i64 j ∧ Keep (fun _ => False) w4' wr) (fun i _ => w2 - (intOf i).toNat)
                case atStart => exact ⟨0, Nat.zero_le _, rfl, hK⟩
                case round =>
                  as_aux_lemma =>
                    obtain ⟨j, hj, rfl, hKj⟩ := hrel
                    by_cases hlj : j < w2
                    · have hc1 : wr.cell? ⟨R, k, none⟩ = some (.slice (some ⟨A2, o, none⟩) w2 w2) := by
                        have := (hKj.row hR (fun x => x)).cell (i := k) (by omega); rw [this, if_pos ⟨hlt, hc⟩, hF.had2 (by omega) k hlt, Ho.out]
                      have hc2 : wr.cell? ⟨A2, o + j, none⟩ = some (.int .i64 (((o : Int) + (j : Int)) * 7 + 5)) := by
                        have h2 := hF.two (o + j) (by omega)
                        have hb := World.block_lt_of_cell? _ _ h2
                        rw [World.cell?_of_block (w := w4') (hKj.block A2 hb (fun x => x)), h2, mk, Int.natCast_add]
                      have hi1 : (k : Int) < (n1 : Int) := by omega
                      have hi2 : (j : Int) < (w2 : Int) := by omega
                      go_wp2
                      go_quiet ((go_at_call 15; exact Calls.quiet_of_same (f15_any _ _ _ (by omega) (by omega) (by omega) (by omega))))
                      go_wp2
                      go_roundw
                      case rel => exact ⟨j + 1, by omega, by go_num, hKj.drewN _⟩
                      case measure => simp [intOf]; omega
                    · go_wp2
                      go_roundw
                      case rel => exact ⟨k + 1, by omega, by go_num, hKj⟩
                      case measure => simp [intOf]; omega
              · go_wp2
                go_meet
                exact ⟨⟨n2, rfl, .inl ⟨rfl, hc⟩⟩, hK⟩
        · go_wp2
          refine wp_loop_rounds 1 ?_
          rw [rounds_succ]
          go_wp2
          go_meet
          exact ⟨⟨n2, rfl, .inl ⟨rfl, hc⟩⟩, hK5⟩
      · go_wp2
        go_meet
        exact ⟨⟨0, rfl, .inr ⟨rfl, by omega⟩⟩, hK5⟩
  case rest =>
  obtain ⟨⟨fr, rfl, hfr⟩, hK6⟩ := hcut
  have hfr1 : fr ≤ n1 := by have := hfr.out; omega
  clear hK5
  by_cases hz : 0 < n1
  · obtain ⟨rfl, hR⟩ := hF.rows hz
    go_wp2
    go_loopw [21] (fun i wr => ∃ k : Nat, fr ≤ k ∧ k ≤ n1 ∧ i = .int .i64 k ∧ Keep (fun _ => False) w4' wr) (fun i _ => n1 - (intOf i).toNat)
    case atStart => exact ⟨fr, Nat.le_refl _, hfr1, rfl, hK6⟩
    case round =>
      as_aux_lemma =>
        obtain ⟨k, hk0, hk, rfl, hK⟩ := hrel
        obtain ⟨w6', rfl⟩ : ∃ w6' : World, w6' = wr := ⟨_, rfl⟩
        by_cases hlt : k < n1
        · obtain ⟨o, Ho, ho, _, ho2⟩ := off_eq k w1 n1 s1 hlt e1
          have hno : ¬ (k < n2 ∧ n2 ≤ n1) := by have := hfr.out; omega
          have hcell : w6'.cell? ⟨R, k, none⟩ = some (.slice (ad k) w1 w1) := by
            have := (hK.row hR (fun x => x)).cell (i := k) (by omega); rw [this, if_neg hno]
          have HNO : Hid (¬ (k < n2 ∧ n2 ≤ n1)) := hno
          clear hno
          go_wp2
          clear hcell
          go_loopw [22] (fun i wr => ∃ j : Nat, j ≤ w1 ∧ i = .int .i64 j ∧ Keep (fun _ => False) w4' wr) (fun i _ => w1 - (intOf i).toNat)
          case atStart => exact ⟨0, Nat.zero_le _, rfl, hK⟩
          case round =>
            as_aux_lemma =>
              obtain ⟨j, hj, rfl, hKj⟩ := hrel
              by_cases hlj : j < w1
              · obtain ⟨rfl, hA⟩ := hF.all (by omega)
                have hc1 : wr.cell? ⟨R, k, none⟩ = some (.slice (some ⟨A, o, none⟩) w1 w1) := by
                  have := (hKj.row hR (fun x => x)).cell (i := k) (by omega); rw [this, if_neg HNO.out, hF.had (by omega) k hlt, Ho.out]
                obtain ⟨v, hc2⟩ : ∃ v : Int, wr.cell? ⟨A, o + j, none⟩ = some (.int .i64 v) := by
                  have := (hKj.row hA (fun x => x)).cell (i := o + j) (by omega)
                  by_cases q : o + j < s2 ∧ s2 ≤ s1
                  · exact ⟨_, by rw [this, if_pos q, mk]⟩
                  · exact ⟨_, by rw [this, if_neg q, mk]⟩
                have hi1 : (k : Int) < (n1 : Int) := by omega
                have hi2 : (j : Int) < (w1 : Int) := by omega
                have hi3 : (o : Int) + (j : Int) < (s1 : Int) := by omega
                go_wp2
                go_quiet (fail)
                go_wp2
                go_roundw
                case rel => exact ⟨j + 1, by omega, by go_num, hKj.drewN _⟩
                case measure => simp [intOf]; omega
              · go_wp2
                go_roundw
                case rel => exact ⟨k + 1, by omega, by omega, by go_num, hKj⟩
                case measure => simp [intOf]; omega
        · go_wp2
          go_ret
          exact ⟨rfl, HB4.out.trans (hK.below HB4.out.size (fun k x => x.elim))⟩
  · go_wp2
    refine wp_loop_rounds 1 ?_
    rw [rounds_succ]
    go_wp2
    go_ret
    exact ⟨rfl, HB4.out.trans (hK6.below HB4.out.size (fun k x => x.elim))⟩
#print axioms f5_main
end Go.Proofs.Qxb6605221aMods.Cut
