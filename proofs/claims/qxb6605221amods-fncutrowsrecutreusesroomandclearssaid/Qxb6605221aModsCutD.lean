/-
  'cutRows' at no row, and at rows of no number.
-/
import Derived.Test.Qxb6605221aModsCutC
namespace Go.Proofs.Qxb6605221aMods.Cut
open Go.RowKit Go.Deep
set_option linter.unusedVariables false

theorem run_clear0 (w : World) (a : Option Addr) (ac : Nat) (ty : TypeId) :
    (Builtin.clear_ #[23] ty #[.slice a 0 ac]).run Trym.prog w = .ok (.tuple #[]) w := by
  cases a <;> simp [Builtin.clear_, run_underlying Trym.underlying23]

/-- Rows of no number are being cut: k of them lie. -/
structure Mid0 (w wr : World) (R cr k : Nat) (v : Value) (g : Nat → Value) : Prop where
  keep : Keep (fun b => b = R) w wr
  rows : wr.rowIs R 23 cr (fun i => if i < k then v else g i)

theorem mid0_step {w wr : World} {R cr k : Nat} {v : Value} {g : Nat → Value} (h : Mid0 w wr R cr k v g) : Mid0 w (wr.setCell ⟨R, k, none⟩ v) R cr (k + 1) v g :=
  ⟨h.keep.setCell rfl _, (h.rows.set k _).congr (fun i _ => set_more (v := fun _ => v))⟩

theorem mid0_full {w wr : World} {R n : Nat} {v : Value} {g g' : Nat → Value} (h : Mid0 w wr R n n v g) : Mid0 w wr R n n v g' :=
  ⟨h.keep, h.rows.congr (fun i hi => by rw [if_pos hi, if_pos hi])⟩

set_option maxHeartbeats 1000000 in
theorem f17_w0nf (rl rc al ac n : Nat)  (w : World) (ra : Option Addr) (hrc : rc < n) (g : Nat → Value) (hn0 : 0 < n) (hn : n ≤ 65536) (hac : ac ≤ 65536) (hE : ((rl : Int) == (n : Int)) = false) :
    Calls Trym.prog 17 #[.slice ra rl rc, .slice none al ac, .int .i64 n, .int .i64 0] w fun e w' => e = .returned (.tuple #[.slice (some ⟨w.heap.size, 0, none⟩) n n, .slice none 0 ac]) ∧ Mid0 w w' w.heap.size n n (.slice none 0 0) g := by
  have hmk3 := run_make_row' (P := Trym.prog) 34 23 (.slice none 0 0) 24 Trym.underlying34 info23 rfl .i64 .i64 n (by omega) (by omega)
  have hcl := run_clear0
  go_enter Trym.func17, Trym.ntmps17
  go_wp2
  go_quiet (fail)
  go_wp2
  clear hmk3 hcl
  go_loopw [68] (fun i wr => ∃ k : Nat, k ≤ n ∧ i = .int .i64 k ∧ Mid0 w wr w.heap.size n k (.slice none 0 0) (fun _ => .slice none 0 0)) (fun i _ => n - (intOf i).toNat)
  case atStart =>
    have hnew := World.rowIs_made (w.drewN nq) (.slice none 0 0) n 23
    exact ⟨0, Nat.zero_le _, rfl, ⟨((Keep.refl _ w).drewN _).alloc _, hnew.congr (fun i _ => by simp)⟩⟩
  case round =>
    obtain ⟨k, hk, rfl, hM⟩ := hrel
    by_cases hlt : k < n
    · have hst : wr.cell? ⟨w.heap.size, k, none⟩ = some ((fun _ => .slice none 0 0) k) := by have := hM.rows.cell (i := k) (by omega); simpa using this
      have hfr : wr.frozen? ⟨w.heap.size, k, none⟩ = false := hM.rows.frozen k
      go_wp2
      go_roundw
      case rel => exact ⟨k + 1, by omega, by go_num, mid0_step hM⟩
      case measure => simp [intOf]; omega
    · have e : k = n := by omega
      subst e
      go_wp2
      go_ret2
      exact ⟨rfl, mid0_full hM⟩

set_option maxHeartbeats 1000000 in
theorem f17_w0no (rl rc al ac n : Nat)  (w : World) (R : Nat) (hrc : n ≤ rc) (hrc1 : rc ≤ 65536) (g : Nat → Value) (hRr : w.rowIs R 23 rc g)  (hn0 : 0 < n) (hn : n ≤ 65536) (hac : ac ≤ 65536) (hE : ((rl : Int) == (n : Int)) = false) :
    Calls Trym.prog 17 #[.slice (some ⟨R, 0, none⟩) rl rc, .slice none al ac, .int .i64 n, .int .i64 0] w fun e w' => e = .returned (.tuple #[.slice (some ⟨R, 0, none⟩) n rc, .slice none 0 ac]) ∧ Mid0 w w' R rc n (.slice none 0 0) g := by
  have hmk3 := run_make_row' (P := Trym.prog) 34 23 (.slice none 0 0) 24 Trym.underlying34 info23 rfl .i64 .i64 n (by omega) (by omega)
  have hcl := run_clear0
  go_enter Trym.func17, Trym.ntmps17
  go_wp2
  go_quiet (fail)
  go_wp2
  clear hmk3 hcl
  go_loopw [68] (fun i wr => ∃ k : Nat, k ≤ n ∧ i = .int .i64 k ∧ Mid0 w wr R rc k (.slice none 0 0) g) (fun i _ => n - (intOf i).toNat)
  case atStart =>
    exact ⟨0, Nat.zero_le _, rfl, ⟨(Keep.refl _ w).drewN _, (row_drewN hRr _).congr (fun i _ => by simp)⟩⟩
  case round =>
    obtain ⟨k, hk, rfl, hM⟩ := hrel
    by_cases hlt : k < n
    · have hst : wr.cell? ⟨R, k, none⟩ = some (g k) := by have := hM.rows.cell (i := k) (by omega); simpa using this
      have hfr : wr.frozen? ⟨R, k, none⟩ = false := hM.rows.frozen k
      go_wp2
      go_roundw
      case rel => exact ⟨k + 1, by omega, by go_num, mid0_step hM⟩
      case measure => simp [intOf]; omega
    · have e : k = n := by omega
      subst e
      go_wp2
      go_ret2
      exact ⟨rfl, hM⟩

set_option maxHeartbeats 1000000 in
theorem f17_w0ne (rl rc al ac n : Nat)  (w : World) (R : Nat) (hrc : n ≤ rc) (hrc1 : rc ≤ 65536) (g : Nat → Value) (hRr : w.rowIs R 23 rc g)  (hn0 : 0 < n) (hn : n ≤ 65536) (hac : ac ≤ 65536) :
    Calls Trym.prog 17 #[.slice (some ⟨R, 0, none⟩) n rc, .slice none al ac, .int .i64 n, .int .i64 0] w fun e w' => e = .returned (.tuple #[.slice (some ⟨R, 0, none⟩) n rc, .slice none 0 ac]) ∧ Mid0 w w' R rc n (.slice none 0 0) g := by
  have hmk3 := run_make_row' (P := Trym.prog) 34 23 (.slice none 0 0) 24 Trym.underlying34 info23 rfl .i64 .i64 n (by omega) (by omega)
  have hcl := run_clear0
  go_enter Trym.func17, Trym.ntmps17
  go_wp2
  go_quiet (fail)
  go_wp2
  clear hmk3 hcl
  go_loopw [68] (fun i wr => ∃ k : Nat, k ≤ n ∧ i = .int .i64 k ∧ Mid0 w wr R rc k (.slice none 0 0) g) (fun i _ => n - (intOf i).toNat)
  case atStart =>
    exact ⟨0, Nat.zero_le _, rfl, ⟨(Keep.refl _ w).drewN _, (row_drewN hRr _).congr (fun i _ => by simp)⟩⟩
  case round =>
    obtain ⟨k, hk, rfl, hM⟩ := hrel
    by_cases hlt : k < n
    · have hst : wr.cell? ⟨R, k, none⟩ = some (g k) := by have := hM.rows.cell (i := k) (by omega); simpa using this
      have hfr : wr.frozen? ⟨R, k, none⟩ = false := hM.rows.frozen k
      go_wp2
      go_roundw
      case rel => exact ⟨k + 1, by omega, by go_num, mid0_step hM⟩
      case measure => simp [intOf]; omega
    · have e : k = n := by omega
      subst e
      go_wp2
      go_ret2
      exact ⟨rfl, hM⟩

set_option maxHeartbeats 1000000 in
theorem f17_w0sf (rl rc al ac n : Nat) (A : Nat) (w : World) (ra : Option Addr) (hrc : rc < n) (g : Nat → Value) (hn0 : 0 < n) (hn : n ≤ 65536) (hac : ac ≤ 65536) (hE : ((rl : Int) == (n : Int)) = false) :
    Calls Trym.prog 17 #[.slice ra rl rc, .slice (some ⟨A, 0, none⟩) al ac, .int .i64 n, .int .i64 0] w fun e w' => e = .returned (.tuple #[.slice (some ⟨w.heap.size, 0, none⟩) n n, .slice (some ⟨A, 0, none⟩) 0 ac]) ∧ Mid0 w w' w.heap.size n n (.slice (some ⟨A, 0, none⟩) 0 0) g := by
  have hmk3 := run_make_row' (P := Trym.prog) 34 23 (.slice none 0 0) 24 Trym.underlying34 info23 rfl .i64 .i64 n (by omega) (by omega)
  have hcl := run_clear0
  go_enter Trym.func17, Trym.ntmps17
  go_wp2
  go_quiet (fail)
  go_wp2
  clear hmk3 hcl
  go_loopw [68] (fun i wr => ∃ k : Nat, k ≤ n ∧ i = .int .i64 k ∧ Mid0 w wr w.heap.size n k (.slice (some ⟨A, 0, none⟩) 0 0) (fun _ => .slice none 0 0)) (fun i _ => n - (intOf i).toNat)
  case atStart =>
    have hnew := World.rowIs_made (w.drewN nq) (.slice none 0 0) n 23
    exact ⟨0, Nat.zero_le _, rfl, ⟨((Keep.refl _ w).drewN _).alloc _, hnew.congr (fun i _ => by simp)⟩⟩
  case round =>
    obtain ⟨k, hk, rfl, hM⟩ := hrel
    by_cases hlt : k < n
    · have hst : wr.cell? ⟨w.heap.size, k, none⟩ = some ((fun _ => .slice none 0 0) k) := by have := hM.rows.cell (i := k) (by omega); simpa using this
      have hfr : wr.frozen? ⟨w.heap.size, k, none⟩ = false := hM.rows.frozen k
      go_wp2
      go_roundw
      case rel => exact ⟨k + 1, by omega, by go_num, mid0_step hM⟩
      case measure => simp [intOf]; omega
    · have e : k = n := by omega
      subst e
      go_wp2
      go_ret2
      exact ⟨rfl, mid0_full hM⟩

set_option maxHeartbeats 1000000 in
theorem f17_w0so (rl rc al ac n : Nat) (A : Nat) (w : World) (R : Nat) (hrc : n ≤ rc) (hrc1 : rc ≤ 65536) (g : Nat → Value) (hRr : w.rowIs R 23 rc g)  (hn0 : 0 < n) (hn : n ≤ 65536) (hac : ac ≤ 65536) (hE : ((rl : Int) == (n : Int)) = false) :
    Calls Trym.prog 17 #[.slice (some ⟨R, 0, none⟩) rl rc, .slice (some ⟨A, 0, none⟩) al ac, .int .i64 n, .int .i64 0] w fun e w' => e = .returned (.tuple #[.slice (some ⟨R, 0, none⟩) n rc, .slice (some ⟨A, 0, none⟩) 0 ac]) ∧ Mid0 w w' R rc n (.slice (some ⟨A, 0, none⟩) 0 0) g := by
  have hmk3 := run_make_row' (P := Trym.prog) 34 23 (.slice none 0 0) 24 Trym.underlying34 info23 rfl .i64 .i64 n (by omega) (by omega)
  have hcl := run_clear0
  go_enter Trym.func17, Trym.ntmps17
  go_wp2
  go_quiet (fail)
  go_wp2
  clear hmk3 hcl
  go_loopw [68] (fun i wr => ∃ k : Nat, k ≤ n ∧ i = .int .i64 k ∧ Mid0 w wr R rc k (.slice (some ⟨A, 0, none⟩) 0 0) g) (fun i _ => n - (intOf i).toNat)
  case atStart =>
    exact ⟨0, Nat.zero_le _, rfl, ⟨(Keep.refl _ w).drewN _, (row_drewN hRr _).congr (fun i _ => by simp)⟩⟩
  case round =>
    obtain ⟨k, hk, rfl, hM⟩ := hrel
    by_cases hlt : k < n
    · have hst : wr.cell? ⟨R, k, none⟩ = some (g k) := by have := hM.rows.cell (i := k) (by omega); simpa using this
      have hfr : wr.frozen? ⟨R, k, none⟩ = false := hM.rows.frozen k
      go_wp2
      go_roundw
      case rel => exact ⟨k + 1, by omega, by go_num, mid0_step hM⟩
      case measure => simp [intOf]; omega
    · have e : k = n := by omega
      subst e
      go_wp2
      go_ret2
      exact ⟨rfl, hM⟩

set_option maxHeartbeats 1000000 in
theorem f17_w0se (rl rc al ac n : Nat) (A : Nat) (w : World) (R : Nat) (hrc : n ≤ rc) (hrc1 : rc ≤ 65536) (g : Nat → Value) (hRr : w.rowIs R 23 rc g)  (hn0 : 0 < n) (hn : n ≤ 65536) (hac : ac ≤ 65536) :
    Calls Trym.prog 17 #[.slice (some ⟨R, 0, none⟩) n rc, .slice (some ⟨A, 0, none⟩) al ac, .int .i64 n, .int .i64 0] w fun e w' => e = .returned (.tuple #[.slice (some ⟨R, 0, none⟩) n rc, .slice (some ⟨A, 0, none⟩) 0 ac]) ∧ Mid0 w w' R rc n (.slice (some ⟨A, 0, none⟩) 0 0) g := by
  have hmk3 := run_make_row' (P := Trym.prog) 34 23 (.slice none 0 0) 24 Trym.underlying34 info23 rfl .i64 .i64 n (by omega) (by omega)
  have hcl := run_clear0
  go_enter Trym.func17, Trym.ntmps17
  go_wp2
  go_quiet (fail)
  go_wp2
  clear hmk3 hcl
  go_loopw [68] (fun i wr => ∃ k : Nat, k ≤ n ∧ i = .int .i64 k ∧ Mid0 w wr R rc k (.slice (some ⟨A, 0, none⟩) 0 0) g) (fun i _ => n - (intOf i).toNat)
  case atStart =>
    exact ⟨0, Nat.zero_le _, rfl, ⟨(Keep.refl _ w).drewN _, (row_drewN hRr _).congr (fun i _ => by simp)⟩⟩
  case round =>
    obtain ⟨k, hk, rfl, hM⟩ := hrel
    by_cases hlt : k < n
    · have hst : wr.cell? ⟨R, k, none⟩ = some (g k) := by have := hM.rows.cell (i := k) (by omega); simpa using this
      have hfr : wr.frozen? ⟨R, k, none⟩ = false := hM.rows.frozen k
      go_wp2
      go_roundw
      case rel => exact ⟨k + 1, by omega, by go_num, mid0_step hM⟩
      case measure => simp [intOf]; omega
    · have e : k = n := by omega
      subst e
      go_wp2
      go_ret2
      exact ⟨rfl, hM⟩

set_option maxHeartbeats 1000000 in
theorem f17_n0nnx (rl rc al ac wd : Nat)   (w : World) (hw : wd ≤ 65536) (hac : ac ≤ 65536) (hrc : rc ≤ 65536) (hE : ((rl : Int) == 0) = false) :
    Calls Trym.prog 17 #[.slice none rl rc, .slice none al ac, .int .i64 0, .int .i64 wd] w fun e w' => e = .returned (.tuple #[.slice none 0 rc, .slice none 0 ac]) ∧ Keep (fun _ => False) w w' := by
  have hcl := run_clear0
  go_enter Trym.func17, Trym.ntmps17
  go_wp2
  go_quiet (fail)
  go_wp2
  refine wp_loop_rounds 1 ?_
  rw [rounds_succ]
  go_wp2
  go_ret2
  exact ⟨rfl, (Keep.refl _ w).drewN _⟩

set_option maxHeartbeats 1000000 in
theorem f17_n0nne (rl rc al ac wd : Nat)   (w : World) (hw : wd ≤ 65536) (hac : ac ≤ 65536) (hrc : rc ≤ 65536) :
    Calls Trym.prog 17 #[.slice none 0 rc, .slice none al ac, .int .i64 0, .int .i64 wd] w fun e w' => e = .returned (.tuple #[.slice none 0 rc, .slice none 0 ac]) ∧ Keep (fun _ => False) w w' := by
  have hcl := run_clear0
  go_enter Trym.func17, Trym.ntmps17
  go_wp2
  go_quiet (fail)
  go_wp2
  refine wp_loop_rounds 1 ?_
  rw [rounds_succ]
  go_wp2
  go_ret2
  exact ⟨rfl, (Keep.refl _ w).drewN _⟩

set_option maxHeartbeats 1000000 in
theorem f17_n0nsx (rl rc al ac wd : Nat)  (A : Nat) (w : World) (hw : wd ≤ 65536) (hac : ac ≤ 65536) (hrc : rc ≤ 65536) (hE : ((rl : Int) == 0) = false) :
    Calls Trym.prog 17 #[.slice none rl rc, .slice (some ⟨A, 0, none⟩) al ac, .int .i64 0, .int .i64 wd] w fun e w' => e = .returned (.tuple #[.slice none 0 rc, .slice (some ⟨A, 0, none⟩) 0 ac]) ∧ Keep (fun _ => False) w w' := by
  have hcl := run_clear0
  go_enter Trym.func17, Trym.ntmps17
  go_wp2
  go_quiet (fail)
  go_wp2
  refine wp_loop_rounds 1 ?_
  rw [rounds_succ]
  go_wp2
  go_ret2
  exact ⟨rfl, (Keep.refl _ w).drewN _⟩

set_option maxHeartbeats 1000000 in
theorem f17_n0nse (rl rc al ac wd : Nat)  (A : Nat) (w : World) (hw : wd ≤ 65536) (hac : ac ≤ 65536) (hrc : rc ≤ 65536) :
    Calls Trym.prog 17 #[.slice none 0 rc, .slice (some ⟨A, 0, none⟩) al ac, .int .i64 0, .int .i64 wd] w fun e w' => e = .returned (.tuple #[.slice none 0 rc, .slice (some ⟨A, 0, none⟩) 0 ac]) ∧ Keep (fun _ => False) w w' := by
  have hcl := run_clear0
  go_enter Trym.func17, Trym.ntmps17
  go_wp2
  go_quiet (fail)
  go_wp2
  refine wp_loop_rounds 1 ?_
  rw [rounds_succ]
  go_wp2
  go_ret2
  exact ⟨rfl, (Keep.refl _ w).drewN _⟩

set_option maxHeartbeats 1000000 in
theorem f17_n0snx (rl rc al ac wd : Nat) (R : Nat)  (w : World) (hw : wd ≤ 65536) (hac : ac ≤ 65536) (hrc : rc ≤ 65536) (hE : ((rl : Int) == 0) = false) :
    Calls Trym.prog 17 #[.slice (some ⟨R, 0, none⟩) rl rc, .slice none al ac, .int .i64 0, .int .i64 wd] w fun e w' => e = .returned (.tuple #[.slice (some ⟨R, 0, none⟩) 0 rc, .slice none 0 ac]) ∧ Keep (fun _ => False) w w' := by
  have hcl := run_clear0
  go_enter Trym.func17, Trym.ntmps17
  go_wp2
  go_quiet (fail)
  go_wp2
  refine wp_loop_rounds 1 ?_
  rw [rounds_succ]
  go_wp2
  go_ret2
  exact ⟨rfl, (Keep.refl _ w).drewN _⟩

set_option maxHeartbeats 1000000 in
theorem f17_n0sne (rl rc al ac wd : Nat) (R : Nat)  (w : World) (hw : wd ≤ 65536) (hac : ac ≤ 65536) (hrc : rc ≤ 65536) :
    Calls Trym.prog 17 #[.slice (some ⟨R, 0, none⟩) 0 rc, .slice none al ac, .int .i64 0, .int .i64 wd] w fun e w' => e = .returned (.tuple #[.slice (some ⟨R, 0, none⟩) 0 rc, .slice none 0 ac]) ∧ Keep (fun _ => False) w w' := by
  have hcl := run_clear0
  go_enter Trym.func17, Trym.ntmps17
  go_wp2
  go_quiet (fail)
  go_wp2
  refine wp_loop_rounds 1 ?_
  rw [rounds_succ]
  go_wp2
  go_ret2
  exact ⟨rfl, (Keep.refl _ w).drewN _⟩

set_option maxHeartbeats 1000000 in
theorem f17_n0ssx (rl rc al ac wd : Nat) (R : Nat) (A : Nat) (w : World) (hw : wd ≤ 65536) (hac : ac ≤ 65536) (hrc : rc ≤ 65536) (hE : ((rl : Int) == 0) = false) :
    Calls Trym.prog 17 #[.slice (some ⟨R, 0, none⟩) rl rc, .slice (some ⟨A, 0, none⟩) al ac, .int .i64 0, .int .i64 wd] w fun e w' => e = .returned (.tuple #[.slice (some ⟨R, 0, none⟩) 0 rc, .slice (some ⟨A, 0, none⟩) 0 ac]) ∧ Keep (fun _ => False) w w' := by
  have hcl := run_clear0
  go_enter Trym.func17, Trym.ntmps17
  go_wp2
  go_quiet (fail)
  go_wp2
  refine wp_loop_rounds 1 ?_
  rw [rounds_succ]
  go_wp2
  go_ret2
  exact ⟨rfl, (Keep.refl _ w).drewN _⟩

set_option maxHeartbeats 1000000 in
theorem f17_n0sse (rl rc al ac wd : Nat) (R : Nat) (A : Nat) (w : World) (hw : wd ≤ 65536) (hac : ac ≤ 65536) (hrc : rc ≤ 65536) :
    Calls Trym.prog 17 #[.slice (some ⟨R, 0, none⟩) 0 rc, .slice (some ⟨A, 0, none⟩) al ac, .int .i64 0, .int .i64 wd] w fun e w' => e = .returned (.tuple #[.slice (some ⟨R, 0, none⟩) 0 rc, .slice (some ⟨A, 0, none⟩) 0 ac]) ∧ Keep (fun _ => False) w w' := by
  have hcl := run_clear0
  go_enter Trym.func17, Trym.ntmps17
  go_wp2
  go_quiet (fail)
  go_wp2
  refine wp_loop_rounds 1 ?_
  rw [rounds_succ]
  go_wp2
  go_ret2
  exact ⟨rfl, (Keep.refl _ w).drewN _⟩

end Go.Proofs.Qxb6605221aMods.Cut
