/-
  'zzCheckCut' at n > 0 rows of wd > 0 numbers; and at every cut.
-/
import Derived.Test.Qxb6605221aModsCutE
namespace Go.Proofs.Qxb6605221aMods.Cut
open Go.RowKit Go.Deep
set_option linter.unusedVariables false

set_option maxHeartbeats 2000000 in
theorem f14_main (rc ac n wd s m R A c : Nat) (salt : Int) (f g : Nat → Value) (w : World) (hn0 : 0 < n) (hn : n ≤ 65536) (hw0 : 0 < wd) (hw : wd ≤ 65536) (hs0 : 0 < s) (hs1 : s ≤ 65536) (hs : (n : Int) * (wd : Int) = (s : Int))
    (h2 : 0 ≤ salt) (h3 : salt ≤ 10) (hnm : n ≤ m) (hsc : s ≤ c) (hne : A ≠ R)
    (hA : w.rowIs A 2 c (fun i => if i < s then .int .i64 0 else f i))
    (hR : w.rowIs R 23 m (fun i => if i < n then .slice (some ⟨A, i * wd, none⟩) wd wd else g i)) :
    Calls Trym.prog 14 #[.slice (some ⟨R, 0, none⟩) n rc, .slice (some ⟨A, 0, none⟩) s ac, .int .i64 n, .int .i64 wd, .int .i64 salt] w fun e w' => e = .returned (.bool true) ∧ Chk w w' A c s salt f := by
  go_enter Trym.func14, Trym.ntmps14
  go_wp2
  go_loop [12] (fun i => ∃ k : Nat, k ≤ s ∧ i = .int .i64 k) (fun i => s - (intOf i).toNat)
  case atStart => exact ⟨0, Nat.zero_le _, rfl⟩
  case round =>
    obtain ⟨k, hk, rfl⟩ := hrel
    by_cases hlt : k < s
    · have hc : w.cell? ⟨A, k, none⟩ = some (.int .i64 0) := by have := hA.cell (i := k) (by omega); rw [this, if_pos hlt]
      go_wp2
      go_round
      case rel => exact ⟨k + 1, by omega, by go_num⟩
      case measure => simp [intOf]; omega
    · go_wp2
      clear hlt hk
      go_loop [13] (fun i => ∃ k : Nat, k ≤ n ∧ i = .int .i64 k) (fun i => n - (intOf i).toNat)
      case atStart => exact ⟨0, Nat.zero_le _, rfl⟩
      case round =>
        obtain ⟨k1, hk1, rfl⟩ := hrel
        by_cases hlt : k1 < n
        · have hc : w.cell? ⟨R, k1, none⟩ = some (.slice (some ⟨A, k1 * wd, none⟩) wd wd) := by have := hR.cell (i := k1) (by omega); rw [this, if_pos hlt]
          go_wp2
          go_round
          case rel => exact ⟨k1 + 1, by omega, by go_num⟩
          case measure => simp [intOf]; omega
        · go_wp2
          clear hlt hk1
          go_loopw [14] (fun i wr => ∃ k : Nat, k ≤ s ∧ i = .int .i64 k ∧ Marking w wr A c s k salt f) (fun i _ => s - (intOf i).toNat)
          case atStart => exact ⟨0, Nat.zero_le _, rfl, ⟨Keep.refl _ _, rfl, hA.congr (fun i _ => by simp)⟩⟩
          case round =>
            obtain ⟨k2, hk2, rfl, hM⟩ := hrel
            by_cases hlt : k2 < s
            · have hc : wr.cell? ⟨A, k2, none⟩ = some (.int .i64 0) := by have := hM.row.cell (i := k2) (by omega); simpa [hlt] using this
              have hfr : wr.frozen? ⟨A, k2, none⟩ = false := hM.row.frozen k2
              go_wp2_with (go_at_call 15; refine (f15_any _ _ _ (by omega) (by omega) h2 h3).mono ?_; rintro e w' ⟨rfl, rfl⟩)
              go_roundw
              case rel => exact ⟨k2 + 1, by omega, by go_num, mark_step hM⟩
              case measure => simp [intOf]; omega
            · have e : k2 = s := by omega
              subst e
              obtain ⟨w3, rfl⟩ : ∃ w3 : World, w3 = wr := ⟨_, rfl⟩
              have hR3 : w3.rowIs R 23 m (fun i => if i < n then .slice (some ⟨A, i * wd, none⟩) wd wd else g i) := hM.keep.row hR (by omega)
              have hA3 : w3.rowIs A 2 c (fun i => if i < k2 then mk salt i else f i) := hM.row.congr (fun i _ => by
                by_cases e : i < k2
                · rw [if_pos e, if_pos e]
                · rw [if_neg e, if_neg e, if_neg e])
              go_wp2
              go_loopw [15] (fun i wr => ∃ k : Nat, k ≤ n ∧ i = .int .i64 k ∧ Keep (fun _ => False) w3 wr ∧ wr.heap.size = w3.heap.size) (fun i _ => n - (intOf i).toNat)
              case atStart => exact ⟨0, Nat.zero_le _, rfl, Keep.refl _ _, rfl⟩
              case round =>
                obtain ⟨k4, hk4, rfl, hK4, hsz4⟩ := hrel
                by_cases hlt : k4 < n
                · obtain ⟨o, Ho, ho, _, ho2⟩ := off_eq k4 wd n k2 hlt hs
                  obtain ⟨w4, rfl⟩ : ∃ w4 : World, w4 = wr := ⟨_, rfl⟩
                  have HSZ : Hid (w4.heap.size = w3.heap.size) := hsz4
                  clear hsz4
                  go_wp2
                  go_loopw [16] (fun i wr => ∃ j : Nat, j ≤ wd ∧ i = .int .i64 j ∧ Keep (fun _ => False) w3 wr ∧ Hid (wr.heap.size = w3.heap.size)) (fun i _ => wd - (intOf i).toNat)
                  case atStart => exact ⟨0, Nat.zero_le _, rfl, hK4, HSZ⟩
                  case round =>
                    obtain ⟨j, hj, rfl, hK5, HSZ5⟩ := hrel
                    by_cases hlj : j < wd
                    · have hc1 : wr.cell? ⟨R, k4, none⟩ = some (.slice (some ⟨A, o, none⟩) wd wd) := by
                        have := (hK5.row hR3 (fun h => h)).cell (i := k4) (by omega); rw [this, if_pos hlt, Ho.out]
                      have hc2 : wr.cell? ⟨A, o + j, none⟩ = some (.int .i64 (((o : Int) + (j : Int)) * 7 + salt)) := by
                        have := (hK5.row hA3 (fun h => h)).cell (i := o + j) (by omega); rw [this, if_pos (by omega), mk, Int.natCast_add]
                      have hi1 : (k4 : Int) < (n : Int) := by omega
                      have hi2 : (j : Int) < (wd : Int) := by omega
                      go_wp2
                      go_quiet ((go_at_call 15; exact Calls.quiet_of_same (f15_any _ _ _ (by omega) (by omega) h2 h3)))
                      go_wp2
                      go_roundw
                      case rel => exact ⟨j + 1, by omega, by go_num, hK5.drewN _, HSZ5⟩
                      case measure => simp [intOf]; omega
                    · go_wp2
                      go_roundw
                      case rel => exact ⟨k4 + 1, by omega, by go_num, hK5, HSZ5.out⟩
                      case measure => simp [intOf]; omega
                · go_wp2
                  go_ret
                  exact ⟨rfl, ⟨(hM.keep.mono (fun _ h => ⟨h, hs0⟩)).trans (hK4.mono (fun _ h => h.elim)), by rw [hsz4, hM.size], fun _ => hK4.row hA3 (fun h => h)⟩⟩
#print axioms f14_main
end Go.Proofs.Qxb6605221aMods.Cut
