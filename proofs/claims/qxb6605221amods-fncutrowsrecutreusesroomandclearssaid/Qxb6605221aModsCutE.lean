/-
  'zzMark', 'zzCheckCut'.
-/
import Derived.Test.Qxb6605221aModsCutB
namespace Go.Proofs.Qxb6605221aMods.Cut
open Go.RowKit Go.Deep
set_option linter.unusedVariables false

set_option maxHeartbeats 400000 in
theorem f15_any (a salt : Int) (w : World) (h0 : 0 ≤ a) (h1 : a ≤ 65536) (h2 : 0 ≤ salt) (h3 : salt ≤ 10) :
    Calls Trym.prog 15 #[.int .i64 a, .int .i64 salt] w fun e w' => e = .returned (.int .i64 (a * 7 + salt)) ∧ w' = w := by
  go_enter Trym.func15, Trym.ntmps15
  go_wp2
  go_ret
  exact ⟨rfl, rfl⟩

/-- What a law writes at cell k. -/
def mk (salt : Int) (k : Nat) : Value := .int .i64 ((k : Int) * 7 + salt)

/-- The marking on its way: k cells are marked. -/
structure Marking (w wr : World) (A c s k : Nat) (salt : Int) (f : Nat → Value) : Prop where
  keep : Keep (fun b => b = A) w wr
  size : wr.heap.size = w.heap.size
  row : wr.rowIs A 2 c (fun i => if i < k then mk salt i else if i < s then .int .i64 0 else f i)

theorem mark_step {w wr : World} {A c s k : Nat} {salt : Int} {f : Nat → Value} (h : Marking w wr A c s k salt f) : Marking w (wr.setCell ⟨A, k, none⟩ (.int .i64 ((k : Int) * 7 + salt))) A c s (k + 1) salt f :=
  ⟨h.keep.setCell rfl _, by rw [nblk_setCell]; exact h.size, (h.row.set k _).congr (fun i _ => set_more (v := mk salt) (g := fun i => if i < s then .int .i64 0 else f i))⟩

structure Chk (w w' : World) (A c s : Nat) (salt : Int) (f : Nat → Value) : Prop where
  keep : Keep (fun b => b = A ∧ 0 < s) w w'
  size : w'.heap.size = w.heap.size
  row : 0 < s → w'.rowIs A 2 c (fun i => if i < s then mk salt i else f i)

set_option maxHeartbeats 400000 in
theorem f14_n0 (ra aa : Option Addr) (rc ac wd A c : Nat) (salt : Int) (f : Nat → Value) (w : World) (hw : wd ≤ 65536) :
    Calls Trym.prog 14 #[.slice ra 0 rc, .slice aa 0 ac, .int .i64 0, .int .i64 wd, .int .i64 salt] w fun e w' => e = .returned (.bool true) ∧ Chk w w' A c 0 salt f := by
  go_enter Trym.func14, Trym.ntmps14
  go_wp2
  refine wp_loop_rounds 1 ?_
  rw [rounds_succ]
  go_wp2
  refine wp_loop_rounds 1 ?_
  rw [rounds_succ]
  go_wp2
  refine wp_loop_rounds 1 ?_
  rw [rounds_succ]
  go_wp2
  refine wp_loop_rounds 1 ?_
  rw [rounds_succ]
  go_wp2
  go_ret
  exact ⟨rfl, ⟨Keep.refl _ _, rfl, fun h => absurd h (Nat.lt_irrefl _)⟩⟩

set_option maxHeartbeats 1000000 in
theorem f14_w0 (aa : Option Addr) (rc ac n m R A c : Nat) (ad : Nat → Option Addr) (salt : Int) (f g : Nat → Value) (w : World) (hn0 : 0 < n) (hn : n ≤ 65536) (hnm : n ≤ m)
    (hR : w.rowIs R 23 m (fun i => if i < n then .slice (ad i) 0 0 else g i)) :
    Calls Trym.prog 14 #[.slice (some ⟨R, 0, none⟩) n rc, .slice aa 0 ac, .int .i64 n, .int .i64 0, .int .i64 salt] w fun e w' => e = .returned (.bool true) ∧ Chk w w' A c 0 salt f := by
  go_enter Trym.func14, Trym.ntmps14
  go_wp2
  refine wp_loop_rounds 1 ?_
  rw [rounds_succ]
  go_wp2
  go_loop [13] (fun i => ∃ k : Nat, k ≤ n ∧ i = .int .i64 k) (fun i => n - (intOf i).toNat)
  case atStart => exact ⟨0, Nat.zero_le _, rfl⟩
  case round =>
    obtain ⟨k, hk, rfl⟩ := hrel
    by_cases hlt : k < n
    · have hc : w.cell? ⟨R, k, none⟩ = some (.slice (ad k) 0 0) := by have := hR.cell (i := k) (by omega); rw [this, if_pos hlt]
      go_wp2
      go_round
      case rel => exact ⟨k + 1, by omega, by go_num⟩
      case measure => simp [intOf]; omega
    · have e : k = n := by omega
      subst e
      go_wp2
      refine wp_loop_rounds 1 ?_
      rw [rounds_succ]
      go_wp2
      go_loop [15] (fun i => ∃ k' : Nat, k' ≤ k ∧ i = .int .i64 k') (fun i => k - (intOf i).toNat)
      case atStart => exact ⟨0, Nat.zero_le _, rfl⟩
      case round =>
        obtain ⟨k', hk', rfl⟩ := hrel
        by_cases hlt' : k' < k
        · go_wp2
          refine wp_loop_rounds 1 ?_
          rw [rounds_succ]
          go_wp2
          go_round
          case rel => exact ⟨k' + 1, by omega, by go_num⟩
          case measure => simp [intOf]; omega
        · go_wp2
          go_ret
          exact ⟨rfl, ⟨Keep.refl _ _, rfl, fun h => absurd h (Nat.lt_irrefl _)⟩⟩
#print axioms f14_w0
end Go.Proofs.Qxb6605221aMods.Cut
