/-
  The callees of 'FnScaleToHighestScaleFree' that write rows of their own: the copy, the scaling.
-/
import Derived.Test.Qxb6604064aModsScaleA
namespace Go.Proofs.Qxb6604064aMods.Scale
open Go.RowKit Go.Deep

/-- A new row of n numbers is being filled by f: the first k are laid; nothing old has turned. -/
structure Filling (w wr : World) (n k : Nat) (f : Nat → Int) : Prop where
  below : Below w.heap.size w wr
  size : wr.heap.size = w.heap.size + 1
  row : wr.rowIs w.heap.size 2 n (fun i => if i < k then .int .i64 (f i) else .int .i64 0)

theorem fill_start (w : World) (n : Nat) (f : Nat → Int) : Filling w (w.alloc (.cells (madeCells #[.int .i64 0] n) 2)) n 0 f :=
  ⟨(Below.refl _ _).alloc (Nat.le_refl _) _, by simp, (World.rowIs_made w _ n 2).congr (fun i _ => by simp)⟩

theorem fill_step {w wr : World} {n k : Nat} {f : Nat → Int} (h : Filling w wr n k f) : Filling w (wr.setCell ⟨w.heap.size, k, none⟩ (.int .i64 (f k))) n (k + 1) f := by
  refine ⟨h.below.setCell (Nat.le_refl _) _, by simp [h.size], (h.row.set k _).congr (fun i _ => ?_)⟩
  by_cases e : i = k
  · subst e; simp
  · rw [if_neg e]
    by_cases hlt : i < k
    · rw [if_pos hlt, if_pos (by omega)]
    · rw [if_neg hlt, if_neg (by omega)]

theorem fill_done {w wr : World} {n : Nat} {f : Nat → Int} (h : Filling w wr n n f) : wr.rowIs w.heap.size 2 n (sc f) :=
  h.row.congr (fun i hi => by rw [if_pos hi]; rfl)

set_option maxHeartbeats 400000 in
theorem f9_any (b off n cap : Nat) (z : Nat → Int) (w : World) (hb : b < w.heap.size) (hn : n ≤ 131072) (hc : ∀ i, i < n → w.cell? ⟨b, off + i, none⟩ = some (.int .i64 (z i))) :
    Calls Trym.prog 9 #[.slice (some ⟨b, off, none⟩) n cap] w fun e w' => e = .returned (.slice (some ⟨w.heap.size, 0, none⟩) n n) ∧ Filling w w' n n z := by
  have hmk := run_make_row' (P := Trym.prog) 24 2 (.int .i64 0) 8 Trym.underlying24 info2 rfl .i64 .i64 n (by omega) (by omega)
  have hnil : ∀ (w : World) (a : Option Addr) (n c : Nat), (binOp .eql 24 (.slice a n c) (.slice none 0 0)).run Trym.prog w = .ok (.bool a.isNone) w := fun w a n c => Lib.run_eql_slice_nil w _ _ a n c 0 0 Trym.underlying24
  go_enter Trym.func9, Trym.ntmps9
  go_wp2
  go_loopw [4] (fun i wr => ∃ k : Nat, k ≤ n ∧ i = .int .i64 k ∧ Filling w wr n k z) (fun i _ => n - (intOf i).toNat)
  case atStart => exact ⟨0, Nat.zero_le _, rfl, fill_start w n z⟩
  case round =>
    obtain ⟨k, hk, rfl, hF⟩ := hrel
    clear hmk hnil
    by_cases hlt : k < n
    · have hck : wr.cell? ⟨b, off + k, none⟩ = some (.int .i64 (z k)) := (hF.below.cell hb).trans (hc k hlt)
      have hst : wr.cell? ⟨w.heap.size, k, none⟩ = some (.int .i64 0) := by have := hF.row.cell hlt; simpa using this
      have hfr : wr.frozen? ⟨w.heap.size, k, none⟩ = false := hF.row.frozen k
      go_wp2
      go_roundw
      case rel => exact ⟨k + 1, by omega, by go_num, fill_step hF⟩
      case measure => simp [intOf]; omega
    · have e : k = n := by omega
      subst e
      go_wp2
      go_ret
      exact ⟨rfl, hF⟩

/-- Block b alone has turned. -/
structure But (b : Nat) (w w' : World) : Prop where
  os : w'.os = w.os
  tape : w'.tape = w.tape
  output : w'.output = w.output
  size : w'.heap.size = w.heap.size
  block : ∀ k, k ≠ b → w'.heap[k]? = w.heap[k]?

theorem But.refl (b : Nat) (w : World) : But b w w := ⟨rfl, rfl, rfl, rfl, fun _ _ => rfl⟩
theorem But.setCell {b : Nat} {w w' : World} (h : But b w w') (i : Nat) (v : Value) : But b w (w'.setCell ⟨b, i, none⟩ v) :=
  ⟨h.os, h.tape, h.output, by rw [nblk_setCell]; exact h.size, fun k hk => by rw [blk_setCell_other _ _ _ _ (by exact hk)]; exact h.block k hk⟩
theorem But.below {b B : Nat} {w w' : World} (h : But b w w') (hB : B ≤ b) : Below B w w' :=
  ⟨h.os, h.tape, h.output, by rw [h.size]; exact Nat.le_refl _, fun k hk => h.block k (by omega)⟩
theorem But.row {b : Nat} {w w' : World} (h : But b w w') {c : Nat} {t : TypeId} {n : Nat} {f : Nat → Value} (hr : w.rowIs c t n f) (hc : c ≠ b) : w'.rowIs c t n f := hr.of_block (h.block c hc)

/-- A score scaled by the greatest, m. -/
def scaled (z : Nat → Int) (m : Int) (i : Nat) : Int := if m = 0 then z i else z i * 100 / m

structure Post15 (z : Nat → Int) (n b : Nat) (w w' : World) : Prop where
  out : ∃ m, IsMax z n m ∧ w'.rowIs b 2 n (sc (scaled z m)) ∧ But b w w'

/-- The scaling on its way: the first k are scaled. -/
structure Scaling (w wr : World) (b n k : Nat) (z : Nat → Int) (m : Int) : Prop where
  but : But b w wr
  row : wr.rowIs b 2 n (fun i => if i < k then .int .i64 (z i * 100 / m) else .int .i64 (z i))

theorem scal_step {w wr : World} {b n k : Nat} {z : Nat → Int} {m : Int} (h : Scaling w wr b n k z m) : Scaling w (wr.setCell ⟨b, k, none⟩ (.int .i64 (z k * 100 / m))) b n (k + 1) z m := by
  refine ⟨h.but.setCell _ _, (h.row.set k _).congr (fun i _ => ?_)⟩
  by_cases e : i = k
  · subst e; simp
  · rw [if_neg e]
    by_cases hlt : i < k
    · rw [if_pos hlt, if_pos (by omega)]
    · rw [if_neg hlt, if_neg (by omega)]

set_option maxHeartbeats 400000 in
theorem f15_any (b n cap : Nat) (z : Nat → Int) (w : World) (h0 : 0 < n) (hn : n ≤ 131072) (hr : w.rowIs b 2 n (sc z)) (hd : InDom z n 92233720368547758) :
    Calls Trym.prog 15 #[.slice (some ⟨b, 0, none⟩) n cap] w fun e w' => e = .returned (.tuple #[]) ∧ Post15 z n b w w' := by
  go_enter Trym.func15, Trym.ntmps15
  go_wp2_with fail
  refine (f17_any b n cap z w h0 hn hr).mono ?_
  rintro e w' ⟨⟨m, rfl, hm⟩, rfl⟩
  obtain ⟨⟨j, hj, hjm⟩, hle⟩ := id hm
  have hmb : 0 ≤ m ∧ m ≤ 92233720368547758 := by have := hd j hj; omega
  obtain ⟨hm0, hm1⟩ := hmb
  clear hjm hle
  by_cases hz : m = 0
  · subst hz
    go_wp2
    refine bodyPost_ret (results_none Trym.results15 _ _ _) rfl ?_
    exact ⟨rfl, ⟨0, hm, hr.congr (fun i _ => by simp [sc, scaled]), But.refl _ _⟩⟩
  · go_wp2
    go_loopw [10] (fun i wr => ∃ k : Nat, k ≤ n ∧ i = .int .i64 k ∧ Scaling w' wr b n k z m) (fun i _ => n - (intOf i).toNat)
    case atStart => exact ⟨0, Nat.zero_le _, rfl, ⟨But.refl _ _, hr.congr (fun i _ => by simp [sc])⟩⟩
    case round =>
      obtain ⟨k, hk, rfl, hS⟩ := hrel
      by_cases hlt : k < n
      · have hck : wr.cell? ⟨b, k, none⟩ = some (.int .i64 (z k)) := by have := hS.row.cell hlt; simpa using this
        have hfr : wr.frozen? ⟨b, k, none⟩ = false := hS.row.frozen k
        obtain ⟨hz0, hz1⟩ := hd k hlt
        go_wp2
        go_roundw
        case rel => exact ⟨k + 1, by omega, by go_num, scal_step hS⟩
        case measure => simp [intOf]; omega
      · have e : k = n := by omega
        subst e
        go_wp2
        go_end0
        exact ⟨rfl, ⟨m, hm, hS.row.congr (fun i hi => by simp [sc, scaled, hz, hi]), hS.but⟩⟩

set_option maxHeartbeats 400000 in
theorem f10_any (b n cap : Nat) (z : Nat → Int) (w : World) (h0 : 0 < n) (hn : n ≤ 131072) (hr : w.rowIs b 2 n (sc z)) (hd : InDom z n 92233720368547758) :
    Calls Trym.prog 10 #[.slice (some ⟨b, 0, none⟩) n cap] w fun e w' => e = .returned (.tuple #[]) ∧ Post15 z n b w w' := by
  go_enter Trym.func10, Trym.ntmps10
  go_wp2_with (go_at_call 15; refine (f15_any b n cap z w h0 hn hr hd).mono ?_; rintro e w' ⟨rfl, hp⟩)
  go_end0
  exact ⟨rfl, hp⟩
#print axioms f10_any
end Go.Proofs.Qxb6604064aMods.Scale
