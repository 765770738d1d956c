/-
  'cutRows' at n > 0 rows of wd > 0 numbers, where n rows came in.
-/
import Derived.Test.Qxb6605221aModsCutB
import Derived.LaidEqlPtr
namespace Go.Proofs.Qxb6605221aMods.Cut
open Go.RowKit Go.Deep
set_option linter.unusedVariables false

set_option maxHeartbeats 1000000 in
theorem f17_fx (ra aa : Option Addr) (rc al ac n wd s R : Nat) (f g : Nat → Value) (w : World) (hn0 : 0 < n) (hn : n ≤ 65536) (hw0 : 0 < wd) (hw : wd ≤ 65536) (hs0 : 0 < s) (hs1 : s ≤ 65536) (hs : (n : Int) * (wd : Int) = (s : Int))
    (hac : ac < s) (hra : ra = some ⟨R, 0, none⟩) (hrc : n ≤ rc) (hrc1 : rc ≤ 65536) (hRr : w.rowIs R 23 rc g) (ga : Option Addr) (gl gc : Nat) (hg0 : g 0 = .slice ga gl gc) (hE : ((gc : Int) == (wd : Int)) = false) :
    Calls Trym.prog 17 #[.slice ra n rc, .slice aa al ac, .int .i64 n, .int .i64 wd] w fun e w' => e = .returned (.tuple #[.slice (some ⟨R, 0, none⟩) n rc, .slice (some ⟨w.heap.size, 0, none⟩) s s]) ∧ Mid w w' w.heap.size R s rc s wd n f g := by
  have hmk2 := run_make_row' (P := Trym.prog) 23 2 (.int .i64 0) 8 Trym.underlying23 info2 rfl .i64 .i64 s (by omega) (by omega)
  have hmk3 := run_make_row' (P := Trym.prog) 34 23 (.slice none 0 0) 24 Trym.underlying34 info23 rfl .i64 .i64 n (by omega) (by omega)
  subst hra
  have hRlt := hRr.lt
  have hcl := run_clear (w.alloc (.cells (madeCells #[.int .i64 0] s) 2)) w.heap.size s s _ (World.rowIs_made w (.int .i64 0) s 2) hs0 (Nat.le_refl _)
  have hsz : (cleared (w.alloc (.cells (madeCells #[.int .i64 0] s) 2)) w.heap.size s).heap.size = w.heap.size + 1 := by rw [cleared_size, nblk_alloc]
  have HK : Hid (Keep (fun b => b = w.heap.size ∨ b = R) w (cleared (w.alloc (.cells (madeCells #[.int .i64 0] s) 2)) w.heap.size s)) := ((Keep.refl _ w).alloc _).trans ((cleared_keep _ _ _).mono (fun _ h => .inl h))
  have HA : Hid ((cleared (w.alloc (.cells (madeCells #[.int .i64 0] s) 2)) w.heap.size s).rowIs w.heap.size 2 s (fun i => if i < s then .int .i64 0 else f i)) :=
    (cleared_row (World.rowIs_made w (.int .i64 0) s 2) s).congr (fun i hi => by rw [if_pos hi, if_pos hi])
  have hc0 : (cleared (w.alloc (.cells (madeCells #[.int .i64 0] s) 2)) w.heap.size s).cell? ⟨R, 0, none⟩ = some (.slice ga gl gc) := by
    rw [← hg0]; exact ((cleared_keep _ _ _).row (hRr.alloc _) (by omega)).cell (by omega)
  have hi0 : (0 : Int) < (n : Int) := by omega
  go_enter Trym.func17, Trym.ntmps17
  go_wp2
  go_quiet (fail)
  go_wp2
  clear hmk2 hmk3 hcl
  go_loopw [68] (fun i wr => ∃ k : Nat, k ≤ n ∧ i = .int .i64 k ∧ Mid w wr w.heap.size R s rc s wd k f g) (fun i _ => n - (intOf i).toNat)
  case atStart =>
    refine ⟨0, Nat.zero_le _, rfl, ⟨HK.out.drewN _, row_drewN HA.out _, row_drewN (((cleared_keep _ _ _).row (hRr.alloc _) (by omega)).congr (fun i _ => by simp)) _⟩⟩
  case round =>
    obtain ⟨k, hk, rfl, hM⟩ := hrel
    by_cases hlt : k < n
    · obtain ⟨o, Ho, ho, ho1, ho2⟩ := off_eq k wd n s hlt hs
      have hst : wr.cell? ⟨R, k, none⟩ = some (g k) := by have := hM.rows.cell (i := k) (by omega); simpa using this
      have hfr : wr.frozen? ⟨R, k, none⟩ = false := hM.rows.frozen k
      have st := mid_step hM (by omega)
      rw [← Ho.out] at st
      have ST := (show Hid _ from st)
      clear st
      go_wp2
      go_roundw
      case rel => exact ⟨k + 1, by omega, by go_num, ST.out⟩
      case measure => simp [intOf]; omega
    · have e : k = n := by omega
      subst e
      go_wp2
      go_ret2
      exact ⟨rfl, hM⟩

set_option maxHeartbeats 1000000 in
theorem f17_ox (ra aa : Option Addr) (rc al ac n wd s A R : Nat) (f g : Nat → Value) (w : World) (hn0 : 0 < n) (hn : n ≤ 65536) (hw0 : 0 < wd) (hw : wd ≤ 65536) (hs0 : 0 < s) (hs1 : s ≤ 65536) (hs : (n : Int) * (wd : Int) = (s : Int))
    (haa : aa = some ⟨A, 0, none⟩) (hac : s ≤ ac) (hac1 : ac ≤ 65536) (hAr : w.rowIs A 2 ac f) (hra : ra = some ⟨R, 0, none⟩) (hrc : n ≤ rc) (hrc1 : rc ≤ 65536) (hne : A ≠ R) (hRr : w.rowIs R 23 rc g) (ga : Option Addr) (gl gc : Nat) (hg0 : g 0 = .slice ga gl gc) (hE : ((gc : Int) == (wd : Int)) = false) :
    Calls Trym.prog 17 #[.slice ra n rc, .slice aa al ac, .int .i64 n, .int .i64 wd] w fun e w' => e = .returned (.tuple #[.slice (some ⟨R, 0, none⟩) n rc, .slice (some ⟨A, 0, none⟩) s ac]) ∧ Mid w w' A R ac rc s wd n f g := by
  have hmk2 := run_make_row' (P := Trym.prog) 23 2 (.int .i64 0) 8 Trym.underlying23 info2 rfl .i64 .i64 s (by omega) (by omega)
  have hmk3 := run_make_row' (P := Trym.prog) 34 23 (.slice none 0 0) 24 Trym.underlying34 info23 rfl .i64 .i64 n (by omega) (by omega)
  subst haa hra
  have hcl := run_clear w A ac s f hAr hs0 hac
  have hsz : (cleared w A s).heap.size = w.heap.size := cleared_size _ _ _
  have HK : Hid (Keep (fun b => b = A ∨ b = R) w (cleared w A s)) := (cleared_keep _ _ _).mono (fun _ h => .inl h)
  have HA : Hid ((cleared w A s).rowIs A 2 ac (fun i => if i < s then .int .i64 0 else f i)) := cleared_row hAr s
  have hc0 : (cleared w A s).cell? ⟨R, 0, none⟩ = some (.slice ga gl gc) := by
    rw [← hg0]; exact ((cleared_keep _ _ _).row hRr (by omega)).cell (by omega)
  have hi0 : (0 : Int) < (n : Int) := by omega
  go_enter Trym.func17, Trym.ntmps17
  go_wp2
  go_quiet (fail)
  go_wp2
  clear hmk2 hmk3 hcl
  go_loopw [68] (fun i wr => ∃ k : Nat, k ≤ n ∧ i = .int .i64 k ∧ Mid w wr A R ac rc s wd k f g) (fun i _ => n - (intOf i).toNat)
  case atStart =>
    refine ⟨0, Nat.zero_le _, rfl, ⟨HK.out.drewN _, row_drewN HA.out _, row_drewN (((cleared_keep _ _ _).row hRr (by omega)).congr (fun i _ => by simp)) _⟩⟩
  case round =>
    obtain ⟨k, hk, rfl, hM⟩ := hrel
    by_cases hlt : k < n
    · obtain ⟨o, Ho, ho, ho1, ho2⟩ := off_eq k wd n s hlt hs
      have hst : wr.cell? ⟨R, k, none⟩ = some (g k) := by have := hM.rows.cell (i := k) (by omega); simpa using this
      have hfr : wr.frozen? ⟨R, k, none⟩ = false := hM.rows.frozen k
      have st := mid_step hM (by omega)
      rw [← Ho.out] at st
      have ST := (show Hid _ from st)
      clear st
      go_wp2
      go_roundw
      case rel => exact ⟨k + 1, by omega, by go_num, ST.out⟩
      case measure => simp [intOf]; omega
    · have e : k = n := by omega
      subst e
      go_wp2
      go_ret2
      exact ⟨rfl, hM⟩

set_option maxHeartbeats 1000000 in
theorem f17_same (rc al ac n wd s A R : Nat) (f g : Nat → Value) (w : World) (hn0 : 0 < n) (hn : n ≤ 65536) (hw0 : 0 < wd) (hw : wd ≤ 65536) (hs0 : 0 < s) (hs1 : s ≤ 65536) (hs : (n : Int) * (wd : Int) = (s : Int))
    (hac : s ≤ ac) (hac1 : ac ≤ 65536) (hAr : w.rowIs A 2 ac f) (hrc : n ≤ rc) (hne : A ≠ R) (hRr : w.rowIs R 23 rc g) (hg : ∀ i, i < n → g i = .slice (some ⟨A, i * wd, none⟩) wd wd) :
    Calls Trym.prog 17 #[.slice (some ⟨R, 0, none⟩) n rc, .slice (some ⟨A, 0, none⟩) al ac, .int .i64 n, .int .i64 wd] w fun e w' => e = .returned (.tuple #[.slice (some ⟨R, 0, none⟩) n rc, .slice (some ⟨A, 0, none⟩) s ac]) ∧ Mid w w' A R ac rc s wd n f g := by
  have hcl := run_clear w A ac s f hAr hs0 hac
  have HK : Hid (Keep (fun b => b = A ∨ b = R) w (cleared w A s)) := (cleared_keep _ _ _).mono (fun _ h => .inl h)
  have HA : Hid ((cleared w A s).rowIs A 2 ac (fun i => if i < s then .int .i64 0 else f i)) := cleared_row hAr s
  have HR : Hid ((cleared w A s).rowIs R 23 rc (fun i => if i < n then .slice (some ⟨A, i * wd, none⟩) wd wd else g i)) := ((cleared_keep _ _ _).row hRr (by omega)).congr (fun i _ => by
    by_cases e : i < n
    · rw [if_pos e]; exact hg i e
    · rw [if_neg e])
  have hc0 : (cleared w A s).cell? ⟨R, 0, none⟩ = some (.slice (some ⟨A, 0, none⟩) wd wd) := by
    have h := ((cleared_keep w A s).row hRr (by omega)).cell (i := 0) (by omega)
    rw [h, hg 0 hn0]; simp
  have hi0 : (0 : Int) < (n : Int) := by omega
  have hi1 : (1 : Int) ≤ (wd : Int) := by omega
  have hws : IntKind.i64.wrap (s : Int) = (s : Int) := by rw [IntKind.wrap_i64]; omega
  have heq : ∀ W : World, (binOp .eql 45 (.pointer (some ⟨A, 0, none⟩)) (.pointer (some ⟨A, 0, none⟩))).run Trym.prog W = .ok (.bool true) W := fun W => by
    obtain ⟨j, hj, _⟩ := Option.map_eq_some_iff.1 info2
    exact run_eql_ptr_same W _ Trym.underlying45 hj
  clear hAr hRr hg
  go_enter Trym.func17, Trym.ntmps17
  go_wp2
  go_quiet (fail)
  go_wp2
  go_ret2
  exact ⟨rfl, ⟨HK.out.drewN _, row_drewN HA.out _, row_drewN HR.out _⟩⟩

#print axioms f17_same
end Go.Proofs.Qxb6605221aMods.Cut
