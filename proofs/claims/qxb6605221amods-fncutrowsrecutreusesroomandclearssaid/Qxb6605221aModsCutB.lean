/-
  'cutRows' at n > 0 rows of wd > 0 numbers.
-/
import Derived.Test.Qxb6605221aModsCutA
namespace Go.Proofs.Qxb6605221aMods.Cut
open Go.RowKit Go.Deep
set_option linter.unusedVariables false

theorem off_eq (k wd n s : Nat) (hlt : k < n) (hs : (n : Int) * (wd : Int) = (s : Int)) : ∃ o : Nat, Hid (o = k * wd) ∧ (k : Int) * (wd : Int) = (o : Int) ∧ ((k : Int) + 1) * (wd : Int) = (o : Int) + (wd : Int) ∧ o + wd ≤ s := by
  have h1 : n * wd = s := by have h : ((n * wd : Nat) : Int) = (s : Int) := by rw [Int.natCast_mul]; exact hs
                             exact Int.ofNat_inj.1 h
  have h2 : (k + 1) * wd ≤ n * wd := Nat.mul_le_mul_right _ hlt
  rw [Nat.add_mul, Nat.one_mul] at h2
  exact ⟨k * wd, rfl, by rw [Int.natCast_mul], by rw [Int.add_mul, Int.one_mul, Int.natCast_mul], by omega⟩

/-- Every row lies: what lay there before does not matter. -/
theorem mid_full {w wr : World} {A R ca n s wd : Nat} {f g g' : Nat → Value} (h : Mid w wr A R ca n s wd n f g) : Mid w wr A R ca n s wd n f g' :=
  ⟨h.keep, h.all, h.rows.congr (fun i hi => by rw [if_pos hi, if_pos hi])⟩

set_option maxHeartbeats 1000000 in
theorem f17_ff (ra aa : Option Addr) (rl rc al ac n wd s : Nat) (f g : Nat → Value) (w : World) (hn0 : 0 < n) (hn : n ≤ 65536) (hw0 : 0 < wd) (hw : wd ≤ 65536) (hs0 : 0 < s) (hs1 : s ≤ 65536) (hs : (n : Int) * (wd : Int) = (s : Int))
    (hac : ac < s) (hrc : rc < n) (hE : ((rl : Int) == (n : Int)) = false) :
    Calls Trym.prog 17 #[.slice ra rl rc, .slice aa al ac, .int .i64 n, .int .i64 wd] w fun e w' => e = .returned (.tuple #[.slice (some ⟨(w.heap.size + 1), 0, none⟩) n n, .slice (some ⟨w.heap.size, 0, none⟩) s s]) ∧ Mid w w' w.heap.size (w.heap.size + 1) s n s wd n f g := by
  have hmk2 := run_make_row' (P := Trym.prog) 23 2 (.int .i64 0) 8 Trym.underlying23 info2 rfl .i64 .i64 s (by omega) (by omega)
  have hmk3 := run_make_row' (P := Trym.prog) 34 23 (.slice none 0 0) 24 Trym.underlying34 info23 rfl .i64 .i64 n (by omega) (by omega)
  have hcl := run_clear (w.alloc (.cells (madeCells #[.int .i64 0] s) 2)) w.heap.size s s _ (World.rowIs_made w (.int .i64 0) s 2) hs0 (Nat.le_refl _)
  have hsz : (cleared (w.alloc (.cells (madeCells #[.int .i64 0] s) 2)) w.heap.size s).heap.size = w.heap.size + 1 := by rw [cleared_size, nblk_alloc]
  have HK : Hid (Keep (fun b => b = w.heap.size ∨ b = w.heap.size + 1) w (cleared (w.alloc (.cells (madeCells #[.int .i64 0] s) 2)) w.heap.size s)) := ((Keep.refl _ w).alloc _).trans ((cleared_keep _ _ _).mono (fun _ h => .inl h))
  have HA : Hid ((cleared (w.alloc (.cells (madeCells #[.int .i64 0] s) 2)) w.heap.size s).rowIs w.heap.size 2 s (fun i => if i < s then .int .i64 0 else f i)) :=
    (cleared_row (World.rowIs_made w (.int .i64 0) s 2) s).congr (fun i hi => by rw [if_pos hi, if_pos hi])
  go_enter Trym.func17, Trym.ntmps17
  go_wp2
  go_quiet (fail)
  go_wp2
  clear hmk2 hmk3 hcl
  go_loopw [68] (fun i wr => ∃ k : Nat, k ≤ n ∧ i = .int .i64 k ∧ Mid w wr w.heap.size (w.heap.size + 1) s n s wd k f (fun _ => .slice none 0 0)) (fun i _ => n - (intOf i).toNat)
  case atStart =>
    have hnew := World.rowIs_made ((cleared (w.alloc (.cells (madeCells #[.int .i64 0] s) 2)) w.heap.size s).drewN nq) (.slice none 0 0) n 23
    rw [show ((cleared (w.alloc (.cells (madeCells #[.int .i64 0] s) 2)) w.heap.size s).drewN nq).heap.size = w.heap.size + 1 from hsz] at hnew
    exact ⟨0, Nat.zero_le _, rfl, ⟨(HK.out.drewN _).alloc _, (row_drewN HA.out _).alloc _, hnew.congr (fun i _ => by simp)⟩⟩
  case round =>
    obtain ⟨k, hk, rfl, hM⟩ := hrel
    by_cases hlt : k < n
    · obtain ⟨o, Ho, ho, ho1, ho2⟩ := off_eq k wd n s hlt hs
      have hst : wr.cell? ⟨(w.heap.size + 1), k, none⟩ = some ((fun _ => .slice none 0 0) k) := by have := hM.rows.cell (i := k) (by omega); simpa using this
      have hfr : wr.frozen? ⟨(w.heap.size + 1), k, none⟩ = false := hM.rows.frozen k
      have st := mid_step hM (by omega)
      rw [← Ho.out] at st
      have ST := (show Hid _ from st)
      clear st
      go_wp2
      go_roundw
      case rel => exact ⟨k + 1, by omega, by go_num, ST.out⟩
      case measure => simp [intOf]; omega
    · have e : k = n := by omega
      subst e
      go_wp2
      go_ret2
      exact ⟨rfl, mid_full hM⟩

set_option maxHeartbeats 1000000 in
theorem f17_fo (ra aa : Option Addr) (rl rc al ac n wd s R : Nat) (f g : Nat → Value) (w : World) (hn0 : 0 < n) (hn : n ≤ 65536) (hw0 : 0 < wd) (hw : wd ≤ 65536) (hs0 : 0 < s) (hs1 : s ≤ 65536) (hs : (n : Int) * (wd : Int) = (s : Int))
    (hac : ac < s) (hra : ra = some ⟨R, 0, none⟩) (hrc : n ≤ rc) (hrc1 : rc ≤ 65536) (hRr : w.rowIs R 23 rc g) (hE : ((rl : Int) == (n : Int)) = false) :
    Calls Trym.prog 17 #[.slice ra rl rc, .slice aa al ac, .int .i64 n, .int .i64 wd] w fun e w' => e = .returned (.tuple #[.slice (some ⟨R, 0, none⟩) n rc, .slice (some ⟨w.heap.size, 0, none⟩) s s]) ∧ Mid w w' w.heap.size R s rc s wd n f g := by
  have hmk2 := run_make_row' (P := Trym.prog) 23 2 (.int .i64 0) 8 Trym.underlying23 info2 rfl .i64 .i64 s (by omega) (by omega)
  have hmk3 := run_make_row' (P := Trym.prog) 34 23 (.slice none 0 0) 24 Trym.underlying34 info23 rfl .i64 .i64 n (by omega) (by omega)
  subst hra
  have hRlt := hRr.lt
  have hcl := run_clear (w.alloc (.cells (madeCells #[.int .i64 0] s) 2)) w.heap.size s s _ (World.rowIs_made w (.int .i64 0) s 2) hs0 (Nat.le_refl _)
  have hsz : (cleared (w.alloc (.cells (madeCells #[.int .i64 0] s) 2)) w.heap.size s).heap.size = w.heap.size + 1 := by rw [cleared_size, nblk_alloc]
  have HK : Hid (Keep (fun b => b = w.heap.size ∨ b = R) w (cleared (w.alloc (.cells (madeCells #[.int .i64 0] s) 2)) w.heap.size s)) := ((Keep.refl _ w).alloc _).trans ((cleared_keep _ _ _).mono (fun _ h => .inl h))
  have HA : Hid ((cleared (w.alloc (.cells (madeCells #[.int .i64 0] s) 2)) w.heap.size s).rowIs w.heap.size 2 s (fun i => if i < s then .int .i64 0 else f i)) :=
    (cleared_row (World.rowIs_made w (.int .i64 0) s 2) s).congr (fun i hi => by rw [if_pos hi, if_pos hi])
  go_enter Trym.func17, Trym.ntmps17
  go_wp2
  go_quiet (fail)
  go_wp2
  clear hmk2 hmk3 hcl
  go_loopw [68] (fun i wr => ∃ k : Nat, k ≤ n ∧ i = .int .i64 k ∧ Mid w wr w.heap.size R s rc s wd k f g) (fun i _ => n - (intOf i).toNat)
  case atStart =>
    refine ⟨0, Nat.zero_le _, rfl, ⟨HK.out.drewN _, row_drewN HA.out _, row_drewN (((cleared_keep _ _ _).row (hRr.alloc _) (by omega)).congr (fun i _ => by simp)) _⟩⟩
  case round =>
    obtain ⟨k, hk, rfl, hM⟩ := hrel
    by_cases hlt : k < n
    · obtain ⟨o, Ho, ho, ho1, ho2⟩ := off_eq k wd n s hlt hs
      have hst : wr.cell? ⟨R, k, none⟩ = some (g k) := by have := hM.rows.cell (i := k) (by omega); simpa using this
      have hfr : wr.frozen? ⟨R, k, none⟩ = false := hM.rows.frozen k
      have st := mid_step hM (by omega)
      rw [← Ho.out] at st
      have ST := (show Hid _ from st)
      clear st
      go_wp2
      go_roundw
      case rel => exact ⟨k + 1, by omega, by go_num, ST.out⟩
      case measure => simp [intOf]; omega
    · have e : k = n := by omega
      subst e
      go_wp2
      go_ret2
      exact ⟨rfl, hM⟩

set_option maxHeartbeats 1000000 in
theorem f17_of (ra aa : Option Addr) (rl rc al ac n wd s A : Nat) (f g : Nat → Value) (w : World) (hn0 : 0 < n) (hn : n ≤ 65536) (hw0 : 0 < wd) (hw : wd ≤ 65536) (hs0 : 0 < s) (hs1 : s ≤ 65536) (hs : (n : Int) * (wd : Int) = (s : Int))
    (haa : aa = some ⟨A, 0, none⟩) (hac : s ≤ ac) (hac1 : ac ≤ 65536) (hAr : w.rowIs A 2 ac f) (hrc : rc < n) (hE : ((rl : Int) == (n : Int)) = false) :
    Calls Trym.prog 17 #[.slice ra rl rc, .slice aa al ac, .int .i64 n, .int .i64 wd] w fun e w' => e = .returned (.tuple #[.slice (some ⟨w.heap.size, 0, none⟩) n n, .slice (some ⟨A, 0, none⟩) s ac]) ∧ Mid w w' A w.heap.size ac n s wd n f g := by
  have hmk2 := run_make_row' (P := Trym.prog) 23 2 (.int .i64 0) 8 Trym.underlying23 info2 rfl .i64 .i64 s (by omega) (by omega)
  have hmk3 := run_make_row' (P := Trym.prog) 34 23 (.slice none 0 0) 24 Trym.underlying34 info23 rfl .i64 .i64 n (by omega) (by omega)
  subst haa
  have hAlt := hAr.lt
  have hcl := run_clear w A ac s f hAr hs0 hac
  have hsz : (cleared w A s).heap.size = w.heap.size := cleared_size _ _ _
  have HK : Hid (Keep (fun b => b = A ∨ b = w.heap.size) w (cleared w A s)) := (cleared_keep _ _ _).mono (fun _ h => .inl h)
  have HA : Hid ((cleared w A s).rowIs A 2 ac (fun i => if i < s then .int .i64 0 else f i)) := cleared_row hAr s
  go_enter Trym.func17, Trym.ntmps17
  go_wp2
  go_quiet (fail)
  go_wp2
  clear hmk2 hmk3 hcl
  go_loopw [68] (fun i wr => ∃ k : Nat, k ≤ n ∧ i = .int .i64 k ∧ Mid w wr A w.heap.size ac n s wd k f (fun _ => .slice none 0 0)) (fun i _ => n - (intOf i).toNat)
  case atStart =>
    have hnew := World.rowIs_made ((cleared w A s).drewN nq) (.slice none 0 0) n 23
    rw [show ((cleared w A s).drewN nq).heap.size = w.heap.size from hsz] at hnew
    exact ⟨0, Nat.zero_le _, rfl, ⟨(HK.out.drewN _).alloc _, (row_drewN HA.out _).alloc _, hnew.congr (fun i _ => by simp)⟩⟩
  case round =>
    obtain ⟨k, hk, rfl, hM⟩ := hrel
    by_cases hlt : k < n
    · obtain ⟨o, Ho, ho, ho1, ho2⟩ := off_eq k wd n s hlt hs
      have hst : wr.cell? ⟨w.heap.size, k, none⟩ = some ((fun _ => .slice none 0 0) k) := by have := hM.rows.cell (i := k) (by omega); simpa using this
      have hfr : wr.frozen? ⟨w.heap.size, k, none⟩ = false := hM.rows.frozen k
      have st := mid_step hM (by omega)
      rw [← Ho.out] at st
      have ST := (show Hid _ from st)
      clear st
      go_wp2
      go_roundw
      case rel => exact ⟨k + 1, by omega, by go_num, ST.out⟩
      case measure => simp [intOf]; omega
    · have e : k = n := by omega
      subst e
      go_wp2
      go_ret2
      exact ⟨rfl, mid_full hM⟩

set_option maxHeartbeats 1000000 in
theorem f17_oo (ra aa : Option Addr) (rl rc al ac n wd s A R : Nat) (f g : Nat → Value) (w : World) (hn0 : 0 < n) (hn : n ≤ 65536) (hw0 : 0 < wd) (hw : wd ≤ 65536) (hs0 : 0 < s) (hs1 : s ≤ 65536) (hs : (n : Int) * (wd : Int) = (s : Int))
    (haa : aa = some ⟨A, 0, none⟩) (hac : s ≤ ac) (hac1 : ac ≤ 65536) (hAr : w.rowIs A 2 ac f) (hra : ra = some ⟨R, 0, none⟩) (hrc : n ≤ rc) (hrc1 : rc ≤ 65536) (hne : A ≠ R) (hRr : w.rowIs R 23 rc g) (hE : ((rl : Int) == (n : Int)) = false) :
    Calls Trym.prog 17 #[.slice ra rl rc, .slice aa al ac, .int .i64 n, .int .i64 wd] w fun e w' => e = .returned (.tuple #[.slice (some ⟨R, 0, none⟩) n rc, .slice (some ⟨A, 0, none⟩) s ac]) ∧ Mid w w' A R ac rc s wd n f g := by
  have hmk2 := run_make_row' (P := Trym.prog) 23 2 (.int .i64 0) 8 Trym.underlying23 info2 rfl .i64 .i64 s (by omega) (by omega)
  have hmk3 := run_make_row' (P := Trym.prog) 34 23 (.slice none 0 0) 24 Trym.underlying34 info23 rfl .i64 .i64 n (by omega) (by omega)
  subst haa hra
  have hcl := run_clear w A ac s f hAr hs0 hac
  have hsz : (cleared w A s).heap.size = w.heap.size := cleared_size _ _ _
  have HK : Hid (Keep (fun b => b = A ∨ b = R) w (cleared w A s)) := (cleared_keep _ _ _).mono (fun _ h => .inl h)
  have HA : Hid ((cleared w A s).rowIs A 2 ac (fun i => if i < s then .int .i64 0 else f i)) := cleared_row hAr s
  go_enter Trym.func17, Trym.ntmps17
  go_wp2
  go_quiet (fail)
  go_wp2
  clear hmk2 hmk3 hcl
  go_loopw [68] (fun i wr => ∃ k : Nat, k ≤ n ∧ i = .int .i64 k ∧ Mid w wr A R ac rc s wd k f g) (fun i _ => n - (intOf i).toNat)
  case atStart =>
    refine ⟨0, Nat.zero_le _, rfl, ⟨HK.out.drewN _, row_drewN HA.out _, row_drewN (((cleared_keep _ _ _).row hRr (by omega)).congr (fun i _ => by simp)) _⟩⟩
  case round =>
    obtain ⟨k, hk, rfl, hM⟩ := hrel
    by_cases hlt : k < n
    · obtain ⟨o, Ho, ho, ho1, ho2⟩ := off_eq k wd n s hlt hs
      have hst : wr.cell? ⟨R, k, none⟩ = some (g k) := by have := hM.rows.cell (i := k) (by omega); simpa using this
      have hfr : wr.frozen? ⟨R, k, none⟩ = false := hM.rows.frozen k
      have st := mid_step hM (by omega)
      rw [← Ho.out] at st
      have ST := (show Hid _ from st)
      clear st
      go_wp2
      go_roundw
      case rel => exact ⟨k + 1, by omega, by go_num, ST.out⟩
      case measure => simp [intOf]; omega
    · have e : k = n := by omega
      subst e
      go_wp2
      go_ret2
      exact ⟨rfl, hM⟩

end Go.Proofs.Qxb6605221aMods.Cut
