/-
  '(version).compare'.
-/
import Derived.Test.Qxb6001230aModsVerA
namespace Go.Proofs.Qxb6001230aMods.Ver
open Go.RowKit Go.Deep
set_option linter.unusedVariables false

/-- Number i of n; 0 from there on. -/
def get (z : Nat → Int) (n i : Nat) : Int := if i < n then z i else 0
def AllEq (zv : Nat → Int) (n : Nat) (zw : Nat → Int) (m : Nat) : Prop := ∀ i, get zv n i = get zw m i
theorem get_in {z : Nat → Int} {n i : Nat} (h : i < n) : get z n i = z i := if_pos h
theorem get_out {z : Nat → Int} {n i : Nat} (h : ¬ i < n) : get z n i = 0 := if_neg h

structure Post24 (P : Prop) (e : Ending) : Prop where
  out : ∃ c : Int, e = .returned (.int .i64 c) ∧ (c = 0 ↔ P)

theorem ne_int {P : Prop} {c : Int} (hc : c ≠ 0) (h : ¬ P) : (c = 0 ↔ P) := ⟨fun x => absurd x hc, fun x => absurd x h⟩

set_option maxHeartbeats 1000000 in
theorem f24_ss (zv zw : Nat → Int) (gv n : Nat) (hn : n ≤ 65536) (gw m : Nat) (hm : m ≤ 65536) (w : World) (hv : w.rowIs gv 3 n (rw3 zv)) (hw : w.rowIs gw 3 m (rw3 zw)) :
    Calls Trym.prog 24 #[.slice (some ⟨gv, 0, none⟩) n n, .slice (some ⟨gw, 0, none⟩) m m] w fun e w' => Post24 (AllEq zv n zw m) e ∧ w' = w := by
  by_cases hnm : n < m
  · skip
    go_enter Trym.func24, Trym.ntmps24
    go_wp2
    go_loop [5] (fun i => ∃ k : Nat, k ≤ m ∧ i = .int .i64 k ∧ Hid (∀ i, i < k → get zv n i = get zw m i)) (fun i => m - (intOf i).toNat)
    case atStart => exact ⟨0, Nat.zero_le _, rfl, fun i hi => absurd hi (Nat.not_lt_zero _)⟩
    case round =>
      obtain ⟨k, hk, rfl, HE⟩ := hrel
      by_cases hlt : k < m
      · have h2 : k < m := by omega
        by_cases h1 : k < n
        · skip
          have hcv : w.cell? ⟨gv, k, none⟩ = some (.int .i64 (zv k)) := hv.cell h1
          have hcw : w.cell? ⟨gw, k, none⟩ = some (.int .i64 (zw k)) := hw.cell h2
          have HA : Hid (get zv n k = zv k) := get_in h1
          have HB : Hid (get zw m k = zw k) := get_in h2
          by_cases he : zv k = zw k
          · have hne : (zv k != zw k) = false := by simp [he]
            have HEQ : Hid (zv k = zw k) := he
            clear he
            go_wp2
            go_round
            case rel => exact ⟨k + 1, by omega, by go_num, fun i hi => by
              by_cases e : i = k
              · subst e; rw [HA.out, HB.out]; exact HEQ.out
              · exact HE.out i (by omega)⟩
            case measure => simp [intOf]; omega
          · have hne : (zv k != zw k) = true := by simp [he]
            have HNE : Hid (¬ AllEq zv n zw m) := fun x => he (by rw [← HA.out, ← HB.out]; exact x k)
            clear he
            by_cases hl : zv k < zw k
            · go_wp2
              go_ret
              exact ⟨⟨-1, rfl, ne_int (by decide) HNE.out⟩, rfl⟩
            · go_wp2
              go_ret
              exact ⟨⟨1, rfl, ne_int (by decide) HNE.out⟩, rfl⟩
        · skip
          have hcw : w.cell? ⟨gw, k, none⟩ = some (.int .i64 (zw k)) := hw.cell h2
          have HA : Hid (get zv n k = (0 : Int)) := get_out h1
          have HB : Hid (get zw m k = zw k) := get_in h2
          by_cases he : (0 : Int) = zw k
          · have hne : ((0 : Int) != zw k) = false := by simp [he]
            have HEQ : Hid ((0 : Int) = zw k) := he
            clear he
            go_wp2
            go_round
            case rel => exact ⟨k + 1, by omega, by go_num, fun i hi => by
              by_cases e : i = k
              · subst e; rw [HA.out, HB.out]; exact HEQ.out
              · exact HE.out i (by omega)⟩
            case measure => simp [intOf]; omega
          · have hne : ((0 : Int) != zw k) = true := by simp [he]
            have HNE : Hid (¬ AllEq zv n zw m) := fun x => he (by rw [← HA.out, ← HB.out]; exact x k)
            clear he
            by_cases hl : (0 : Int) < zw k
            · go_wp2
              go_ret
              exact ⟨⟨-1, rfl, ne_int (by decide) HNE.out⟩, rfl⟩
            · go_wp2
              go_ret
              exact ⟨⟨1, rfl, ne_int (by decide) HNE.out⟩, rfl⟩
      · have HX : Hid (AllEq zv n zw m) := fun i => by
          by_cases hi : i < k
          · exact HE.out i hi
          · rw [get_out (by omega), get_out (by omega)]
        go_wp2
        all_goals
          go_ret
          exact ⟨⟨0, rfl, ⟨fun _ => HX.out, fun _ => rfl⟩⟩, rfl⟩

  · skip
    go_enter Trym.func24, Trym.ntmps24
    go_wp2
    go_loop [5] (fun i => ∃ k : Nat, k ≤ n ∧ i = .int .i64 k ∧ Hid (∀ i, i < k → get zv n i = get zw m i)) (fun i => n - (intOf i).toNat)
    case atStart => exact ⟨0, Nat.zero_le _, rfl, fun i hi => absurd hi (Nat.not_lt_zero _)⟩
    case round =>
      obtain ⟨k, hk, rfl, HE⟩ := hrel
      by_cases hlt : k < n
      · have h1 : k < n := by omega
        by_cases h2 : k < m
        · skip
          have hcv : w.cell? ⟨gv, k, none⟩ = some (.int .i64 (zv k)) := hv.cell h1
          have hcw : w.cell? ⟨gw, k, none⟩ = some (.int .i64 (zw k)) := hw.cell h2
          have HA : Hid (get zv n k = zv k) := get_in h1
          have HB : Hid (get zw m k = zw k) := get_in h2
          by_cases he : zv k = zw k
          · have hne : (zv k != zw k) = false := by simp [he]
            have HEQ : Hid (zv k = zw k) := he
            clear he
            go_wp2
            go_round
            case rel => exact ⟨k + 1, by omega, by go_num, fun i hi => by
              by_cases e : i = k
              · subst e; rw [HA.out, HB.out]; exact HEQ.out
              · exact HE.out i (by omega)⟩
            case measure => simp [intOf]; omega
          · have hne : (zv k != zw k) = true := by simp [he]
            have HNE : Hid (¬ AllEq zv n zw m) := fun x => he (by rw [← HA.out, ← HB.out]; exact x k)
            clear he
            by_cases hl : zv k < zw k
            · go_wp2
              go_ret
              exact ⟨⟨-1, rfl, ne_int (by decide) HNE.out⟩, rfl⟩
            · go_wp2
              go_ret
              exact ⟨⟨1, rfl, ne_int (by decide) HNE.out⟩, rfl⟩
        · skip
          have hcv : w.cell? ⟨gv, k, none⟩ = some (.int .i64 (zv k)) := hv.cell h1
          have HA : Hid (get zv n k = zv k) := get_in h1
          have HB : Hid (get zw m k = (0 : Int)) := get_out h2
          by_cases he : zv k = (0 : Int)
          · have hne : (zv k != (0 : Int)) = false := by simp [he]
            have HEQ : Hid (zv k = (0 : Int)) := he
            clear he
            go_wp2
            go_round
            case rel => exact ⟨k + 1, by omega, by go_num, fun i hi => by
              by_cases e : i = k
              · subst e; rw [HA.out, HB.out]; exact HEQ.out
              · exact HE.out i (by omega)⟩
            case measure => simp [intOf]; omega
          · have hne : (zv k != (0 : Int)) = true := by simp [he]
            have HNE : Hid (¬ AllEq zv n zw m) := fun x => he (by rw [← HA.out, ← HB.out]; exact x k)
            clear he
            by_cases hl : zv k < (0 : Int)
            · go_wp2
              go_ret
              exact ⟨⟨-1, rfl, ne_int (by decide) HNE.out⟩, rfl⟩
            · go_wp2
              go_ret
              exact ⟨⟨1, rfl, ne_int (by decide) HNE.out⟩, rfl⟩
      · have HX : Hid (AllEq zv n zw m) := fun i => by
          by_cases hi : i < k
          · exact HE.out i hi
          · rw [get_out (by omega), get_out (by omega)]
        go_wp2
        all_goals
          go_ret
          exact ⟨⟨0, rfl, ⟨fun _ => HX.out, fun _ => rfl⟩⟩, rfl⟩

set_option maxHeartbeats 1000000 in
theorem f24_sn (zv zw : Nat → Int) (gv n : Nat) (hn : n ≤ 65536) (w : World) (hv : w.rowIs gv 3 n (rw3 zv)) :
    Calls Trym.prog 24 #[.slice (some ⟨gv, 0, none⟩) n n, .slice none 0 0] w fun e w' => Post24 (AllEq zv n zw 0) e ∧ w' = w := by
  go_enter Trym.func24, Trym.ntmps24
  go_wp2
  go_loop [5] (fun i => ∃ k : Nat, k ≤ n ∧ i = .int .i64 k ∧ Hid (∀ i, i < k → get zv n i = get zw 0 i)) (fun i => n - (intOf i).toNat)
  case atStart => exact ⟨0, Nat.zero_le _, rfl, fun i hi => absurd hi (Nat.not_lt_zero _)⟩
  case round =>
    obtain ⟨k, hk, rfl, HE⟩ := hrel
    by_cases hlt : k < n
    · have h1 : k < n := by omega
      have hcv : w.cell? ⟨gv, k, none⟩ = some (.int .i64 (zv k)) := hv.cell h1
      have HA : Hid (get zv n k = zv k) := get_in h1
      have HB : Hid (get zw 0 k = (0 : Int)) := get_out (Nat.not_lt_zero _)
      by_cases he : zv k = (0 : Int)
      · have hne : (zv k != (0 : Int)) = false := by simp [he]
        have HEQ : Hid (zv k = (0 : Int)) := he
        clear he
        go_wp2
        go_round
        case rel => exact ⟨k + 1, by omega, by go_num, fun i hi => by
          by_cases e : i = k
          · subst e; rw [HA.out, HB.out]; exact HEQ.out
          · exact HE.out i (by omega)⟩
        case measure => simp [intOf]; omega
      · have hne : (zv k != (0 : Int)) = true := by simp [he]
        have HNE : Hid (¬ AllEq zv n zw 0) := fun x => he (by rw [← HA.out, ← HB.out]; exact x k)
        clear he
        by_cases hl : zv k < (0 : Int)
        · go_wp2
          go_ret
          exact ⟨⟨-1, rfl, ne_int (by decide) HNE.out⟩, rfl⟩
        · go_wp2
          go_ret
          exact ⟨⟨1, rfl, ne_int (by decide) HNE.out⟩, rfl⟩
    · have HX : Hid (AllEq zv n zw 0) := fun i => by
        by_cases hi : i < k
        · exact HE.out i hi
        · rw [get_out (by omega), get_out (by omega)]
      go_wp2
      all_goals
        go_ret
        exact ⟨⟨0, rfl, ⟨fun _ => HX.out, fun _ => rfl⟩⟩, rfl⟩

set_option maxHeartbeats 1000000 in
theorem f24_ns (zv zw : Nat → Int) (gw m : Nat) (hm : m ≤ 65536) (w : World) (hw : w.rowIs gw 3 m (rw3 zw)) :
    Calls Trym.prog 24 #[.slice none 0 0, .slice (some ⟨gw, 0, none⟩) m m] w fun e w' => Post24 (AllEq zv 0 zw m) e ∧ w' = w := by
  go_enter Trym.func24, Trym.ntmps24
  go_wp2
  go_loop [5] (fun i => ∃ k : Nat, k ≤ m ∧ i = .int .i64 k ∧ Hid (∀ i, i < k → get zv 0 i = get zw m i)) (fun i => m - (intOf i).toNat)
  case atStart => exact ⟨0, Nat.zero_le _, rfl, fun i hi => absurd hi (Nat.not_lt_zero _)⟩
  case round =>
    obtain ⟨k, hk, rfl, HE⟩ := hrel
    by_cases hlt : k < m
    · have h2 : k < m := by omega
      have hcw : w.cell? ⟨gw, k, none⟩ = some (.int .i64 (zw k)) := hw.cell h2
      have HA : Hid (get zv 0 k = (0 : Int)) := get_out (Nat.not_lt_zero _)
      have HB : Hid (get zw m k = zw k) := get_in h2
      by_cases he : (0 : Int) = zw k
      · have hne : ((0 : Int) != zw k) = false := by simp [he]
        have HEQ : Hid ((0 : Int) = zw k) := he
        clear he
        go_wp2
        go_round
        case rel => exact ⟨k + 1, by omega, by go_num, fun i hi => by
          by_cases e : i = k
          · subst e; rw [HA.out, HB.out]; exact HEQ.out
          · exact HE.out i (by omega)⟩
        case measure => simp [intOf]; omega
      · have hne : ((0 : Int) != zw k) = true := by simp [he]
        have HNE : Hid (¬ AllEq zv 0 zw m) := fun x => he (by rw [← HA.out, ← HB.out]; exact x k)
        clear he
        by_cases hl : (0 : Int) < zw k
        · go_wp2
          go_ret
          exact ⟨⟨-1, rfl, ne_int (by decide) HNE.out⟩, rfl⟩
        · go_wp2
          go_ret
          exact ⟨⟨1, rfl, ne_int (by decide) HNE.out⟩, rfl⟩
    · have HX : Hid (AllEq zv 0 zw m) := fun i => by
        by_cases hi : i < k
        · exact HE.out i hi
        · rw [get_out (by omega), get_out (by omega)]
      go_wp2
      all_goals
        go_ret
        exact ⟨⟨0, rfl, ⟨fun _ => HX.out, fun _ => rfl⟩⟩, rfl⟩

set_option maxHeartbeats 1000000 in
theorem f24_nn (zv zw : Nat → Int) (w : World) :
    Calls Trym.prog 24 #[.slice none 0 0, .slice none 0 0] w fun e w' => Post24 (AllEq zv 0 zw 0) e ∧ w' = w := by
  go_enter Trym.func24, Trym.ntmps24
  go_wp2
  refine wp_loop_rounds 1 ?_
  rw [rounds_succ]
  go_wp2
  go_ret
  exact ⟨⟨0, rfl, ⟨fun _ i => by rw [get_out (Nat.not_lt_zero _), get_out (Nat.not_lt_zero _)], fun _ => rfl⟩⟩, rfl⟩

set_option maxHeartbeats 400000 in
theorem f18_ss (zv zw : Nat → Int) (gv n : Nat) (hn : n ≤ 65536) (gw m : Nat) (hm : m ≤ 65536) (w : World) (hv : w.rowIs gv 3 n (rw3 zv)) (hw : w.rowIs gw 3 m (rw3 zw)) :
    Calls Trym.prog 18 #[.slice (some ⟨gv, 0, none⟩) n n, .slice (some ⟨gw, 0, none⟩) m m] w fun e w' => Post24 (AllEq zv n zw m) e ∧ w' = w := by
  go_enter Trym.func18, Trym.ntmps18
  go_wp2_with fail
  refine (f24_ss zv zw gv n hn gw m hm w hv hw).mono ?_
  rintro e w' ⟨⟨c, rfl, hc⟩, rfl⟩
  have HC : Hid _ := hc
  clear hc
  go_wp2
  go_ret
  exact ⟨⟨c, rfl, HC.out⟩, rfl⟩

set_option maxHeartbeats 400000 in
theorem f18_sn (zv zw : Nat → Int) (gv n : Nat) (hn : n ≤ 65536) (w : World) (hv : w.rowIs gv 3 n (rw3 zv)) :
    Calls Trym.prog 18 #[.slice (some ⟨gv, 0, none⟩) n n, .slice none 0 0] w fun e w' => Post24 (AllEq zv n zw 0) e ∧ w' = w := by
  go_enter Trym.func18, Trym.ntmps18
  go_wp2_with fail
  refine (f24_sn zv zw gv n hn w hv).mono ?_
  rintro e w' ⟨⟨c, rfl, hc⟩, rfl⟩
  have HC : Hid _ := hc
  clear hc
  go_wp2
  go_ret
  exact ⟨⟨c, rfl, HC.out⟩, rfl⟩

set_option maxHeartbeats 400000 in
theorem f18_ns (zv zw : Nat → Int) (gw m : Nat) (hm : m ≤ 65536) (w : World) (hw : w.rowIs gw 3 m (rw3 zw)) :
    Calls Trym.prog 18 #[.slice none 0 0, .slice (some ⟨gw, 0, none⟩) m m] w fun e w' => Post24 (AllEq zv 0 zw m) e ∧ w' = w := by
  go_enter Trym.func18, Trym.ntmps18
  go_wp2_with fail
  refine (f24_ns zv zw gw m hm w hw).mono ?_
  rintro e w' ⟨⟨c, rfl, hc⟩, rfl⟩
  have HC : Hid _ := hc
  clear hc
  go_wp2
  go_ret
  exact ⟨⟨c, rfl, HC.out⟩, rfl⟩

set_option maxHeartbeats 400000 in
theorem f18_nn (zv zw : Nat → Int) (w : World) :
    Calls Trym.prog 18 #[.slice none 0 0, .slice none 0 0] w fun e w' => Post24 (AllEq zv 0 zw 0) e ∧ w' = w := by
  go_enter Trym.func18, Trym.ntmps18
  go_wp2_with fail
  refine (f24_nn zv zw w).mono ?_
  rintro e w' ⟨⟨c, rfl, hc⟩, rfl⟩
  have HC : Hid _ := hc
  clear hc
  go_wp2
  go_ret
  exact ⟨⟨c, rfl, HC.out⟩, rfl⟩

#print axioms f18_ss
end Go.Proofs.Qxb6001230aMods.Ver
