/-
  'zzCloneU64', 'zzCopyWords': a copy in new memory.
-/
import Derived.Test.Qxb6605221aModsBlwQ
import Derived.Laws.CopyRow
namespace Go.Proofs.Qxb6605221aMods.Blw
open Go.RowKit Go.Deep Cut
set_option linter.unusedVariables false

theorem info31 : (Trym.prog.info? 31).map (fun i => (i.zero, i.size, i.bytes)) = some (some (.int .u64 0), 1, 8) := by kernel_rfl
theorem size31 : (Trym.prog.info? 31).map (·.size) = some 1 := by kernel_rfl
theorem size2 : (Trym.prog.info? 2).map (·.size) = some 1 := by kernel_rfl

theorem add_at (b o i : Nat) : (⟨b, o, none⟩ : Addr).add i = ⟨b, o + i, none⟩ := by unfold Addr.add; split <;> simp_all

theorem setCells_list (A : Nat) (t : TypeId) (c : Nat) : ∀ (vs : List Value) (o : Nat) (w : World) (f : Nat → Value), w.rowIs A t c f → (w.setCells A o vs).rowIs A t c (fun i => if o ≤ i then (vs[i - o]?).getD (f i) else f i)
  | [], o, w, f, h => h.congr (fun i _ => by simp)
  | v :: vs, o, w, f, h => (setCells_list A t c vs (o + 1) _ _ (h.set o v)).congr (fun i _ => by
      by_cases e : i = o
      · subst e; rw [if_neg (by omega), if_pos rfl, if_pos (Nat.le_refl _), Nat.sub_self]; rfl
      · by_cases h2 : o + 1 ≤ i
        · rw [if_pos h2, if_neg e, if_pos (show o ≤ i by omega), show i - o = (i - (o + 1)) + 1 from by omega, List.getElem?_cons_succ]
        · rw [if_neg h2, if_neg e, if_neg (by omega)])

/-- A row with n values laid over its head. -/
def copied (w : World) (g n : Nat) (f : Nat → Value) : World := w.setCells g 0 ((List.range n).map f)
theorem copied_keep (w : World) (g n : Nat) (f : Nat → Value) : Keep (fun b => b = g) w (copied w g n f) := setCells_keep _ _ _ _
theorem copied_size (w : World) (g n : Nat) (f : Nat → Value) : (copied w g n f).heap.size = w.heap.size := setCells_size _ _ _ _
theorem copied_row {w : World} {g n : Nat} {t : TypeId} {f f0 : Nat → Value} (h : w.rowIs g t n f0) : (copied w g n f).rowIs g t n f :=
  (setCells_list g t n _ 0 w f0 h).congr (fun i hi => by simp [hi])

theorem run_copied (w : World) (dT elem ty : TypeId) (g n dCap : Nat) (b off sCap : Nat) (t : TypeId) (f f0 : Nat → Value) (hu : Trym.prog.underlying dT = some (.slice elem)) (hs : (Trym.prog.info? elem).map (·.size) = some 1)
    (hg : w.rowIs g t n f0) (hsrc : ∀ i, i < n → w.cell? ⟨b, off + i, none⟩ = some (f i)) (h1 : ∀ i, (f i).oneCell' = true) :
    (Builtin.copy_ #[dT, dT] ty #[.slice (some ⟨g, 0, none⟩) n dCap, .slice (some ⟨b, off, none⟩) n sCap]).run Trym.prog w = .ok (.int .i64 n) (copied w g n f) := by
  have h := run_copy_cells (P := Trym.prog) w dT dT ty elem g 0 n dCap ⟨b, off, none⟩ n sCap ((List.range n).map f) hu hs (by simp)
    (fun j v hj => by
      have hlt : j < n := by
        rcases Nat.lt_or_ge j n with x | x
        · exact x
        · simp [x] at hj
      simp [hlt] at hj
      subst hj
      rw [add_at]; exact hsrc j hlt)
    (fun j hj => by rw [show (0 : Nat) + j = j from Nat.zero_add j, hg.cell (by simpa using hj)]; rfl) (fun j _ => hg.frozen _) (fun v hv => by
      obtain ⟨i, _, rfl⟩ := List.mem_map.1 hv
      exact h1 i)
  simpa [goInt, copied] using h

/-- A copy of n values lies in new memory. -/
structure CloneOut (w w' : World) (t : TypeId) (n : Nat) (f : Nat → Value) (a' : Option Addr) (g : Nat) : Prop where
  keep : Keep (fun _ => False) w w'
  row : 0 < n → a' = some ⟨g, 0, none⟩ ∧ w'.rowIs g t n f
  new : w.heap.size ≤ g

structure Cloned (w : World) (t : TypeId) (n : Nat) (f : Nat → Value) (e : Ending) (w' : World) : Prop where
  out : ∃ a' g, e = .returned (.slice a' n n) ∧ CloneOut w w' t n f a' g

/-- What came in: n values at b, off; nil only where n is 0. -/
structure Src (w : World) (a : Option Addr) (n : Nat) (f : Nat → Value) : Prop where
  pos : 0 < n → ∃ b off, a = some ⟨b, off, none⟩ ∧ b < w.heap.size ∧ ∀ i, i < n → w.cell? ⟨b, off + i, none⟩ = some (f i)

set_option maxHeartbeats 400000 in
theorem f7_any (a : Option Addr) (n cap : Nat) (z : Nat → Int) (w : World) (hn : n ≤ 1048576) (hS : Src w a n (fun i => .int .u64 (z i))) (hnil : a = none → n = 0) :
    Calls Trym.prog 7 #[.slice a n cap] w fun e w' => Cloned w 31 n (fun i => .int .u64 (z i)) e w' := by
  have hmk := run_make_row' (P := Trym.prog) 22 31 (.int .u64 0) 8 Trym.underlying22 info31 rfl .i64 .i64 n (by omega) (by omega)
  have heq : ∀ (w : World) (a : Option Addr) (n c : Nat), (binOp .eql 22 (.slice a n c) (.slice none 0 0)).run Trym.prog w = .ok (.bool a.isNone) w := fun w a n c => Lib.run_eql_slice_nil w _ _ a n c 0 0 Trym.underlying22
  cases a with
  | none =>
    obtain rfl := hnil rfl
    go_enter Trym.func7, Trym.ntmps7
    go_wp2
    go_ret
    exact ⟨none, w.heap.size, rfl, ⟨Keep.refl _ _, by omega, Nat.le_refl _⟩⟩
  | some x =>
    clear hnil
    by_cases h0 : n = 0
    · subst h0
      have hcp : ∀ (W : World) (ty : TypeId) (d s : Option Addr) (dc sc : Nat), (Builtin.copy_ #[22, 22] ty #[.slice d 0 dc, .slice s 0 sc]).run Trym.prog W = .ok (goInt 0) W := fun W ty d s dc sc => run_copy_none W _ _ _ _ d s 0 dc 0 sc Trym.underlying22 size31 (by simp)
      simp only [Int.natCast_zero] at hmk
      go_enter Trym.func7, Trym.ntmps7
      go_wp2
      go_ret
      exact ⟨_, w.heap.size, rfl, ⟨(Keep.refl _ w).alloc _, by omega, Nat.le_refl _⟩⟩
    · obtain ⟨b, off, hx, hb, hc⟩ := hS.pos (by omega)
      obtain rfl : x = ⟨b, off, none⟩ := Option.some.inj hx
      have hcp := fun ty => run_copied (w.alloc (.cells (madeCells #[.int .u64 0] n) 31)) 22 31 ty w.heap.size n n b off cap 31 (fun i => .int .u64 (z i)) _ Trym.underlying22 size31 (World.rowIs_made w (.int .u64 0) n 31)
        (fun i hi => by rw [show (w.alloc (.cells (madeCells #[.int .u64 0] n) 31)).cell? ⟨b, off + i, none⟩ = w.cell? ⟨b, off + i, none⟩ from World.cell?_of_block (w := w) (blk_alloc_lt _ _ _ hb)]; exact hc i hi) (fun i => rfl)
      clear hx hS
      go_enter Trym.func7, Trym.ntmps7
      go_wp2
      go_ret
      refine ⟨_, w.heap.size, rfl, ⟨?_, fun _ => ⟨rfl, copied_row (World.rowIs_made w (.int .u64 0) n 31)⟩, Nat.le_refl _⟩⟩
      have hk := copied_keep (w.alloc (.cells (madeCells #[.int .u64 0] n) 31)) w.heap.size n (fun i => .int .u64 (z i))
      have hk0 := (Keep.refl (fun _ => False) w).alloc (.cells (madeCells #[.int .u64 0] n) 31)
      exact ⟨hk.os.trans hk0.os, hk.tape.trans hk0.tape, hk.output.trans hk0.output, Nat.le_trans hk0.size hk.size, fun i hi _ => (hk.block i (by have := hk0.size; omega) (by omega)).trans (hk0.block i hi (fun x => x))⟩

set_option maxHeartbeats 400000 in
theorem f8_any (a : Option Addr) (n cap : Nat) (z : Nat → Int) (w : World) (hn : n ≤ 1048576) (hS : Src w a n (fun i => .int .i64 (z i))) (hnil : a = none → n = 0) :
    Calls Trym.prog 8 #[.slice a n cap] w fun e w' => Cloned w 2 n (fun i => .int .i64 (z i)) e w' := by
  have hmk := run_make_row' (P := Trym.prog) 23 2 (.int .i64 0) 8 Trym.underlying23 info2 rfl .i64 .i64 n (by omega) (by omega)
  have heq : ∀ (w : World) (a : Option Addr) (n c : Nat), (binOp .eql 23 (.slice a n c) (.slice none 0 0)).run Trym.prog w = .ok (.bool a.isNone) w := fun w a n c => Lib.run_eql_slice_nil w _ _ a n c 0 0 Trym.underlying23
  cases a with
  | none =>
    obtain rfl := hnil rfl
    go_enter Trym.func8, Trym.ntmps8
    go_wp2
    go_ret
    exact ⟨none, w.heap.size, rfl, ⟨Keep.refl _ _, by omega, Nat.le_refl _⟩⟩
  | some x =>
    clear hnil
    by_cases h0 : n = 0
    · subst h0
      have hcp : ∀ (W : World) (ty : TypeId) (d s : Option Addr) (dc sc : Nat), (Builtin.copy_ #[23, 23] ty #[.slice d 0 dc, .slice s 0 sc]).run Trym.prog W = .ok (goInt 0) W := fun W ty d s dc sc => run_copy_none W _ _ _ _ d s 0 dc 0 sc Trym.underlying23 size2 (by simp)
      simp only [Int.natCast_zero] at hmk
      go_enter Trym.func8, Trym.ntmps8
      go_wp2
      go_ret
      exact ⟨_, w.heap.size, rfl, ⟨(Keep.refl _ w).alloc _, by omega, Nat.le_refl _⟩⟩
    · obtain ⟨b, off, hx, hb, hc⟩ := hS.pos (by omega)
      obtain rfl : x = ⟨b, off, none⟩ := Option.some.inj hx
      have hcp := fun ty => run_copied (w.alloc (.cells (madeCells #[.int .i64 0] n) 2)) 23 2 ty w.heap.size n n b off cap 2 (fun i => .int .i64 (z i)) _ Trym.underlying23 size2 (World.rowIs_made w (.int .i64 0) n 2)
        (fun i hi => by rw [show (w.alloc (.cells (madeCells #[.int .i64 0] n) 2)).cell? ⟨b, off + i, none⟩ = w.cell? ⟨b, off + i, none⟩ from World.cell?_of_block (w := w) (blk_alloc_lt _ _ _ hb)]; exact hc i hi) (fun i => rfl)
      clear hx hS
      go_enter Trym.func8, Trym.ntmps8
      go_wp2
      go_ret
      refine ⟨_, w.heap.size, rfl, ⟨?_, fun _ => ⟨rfl, copied_row (World.rowIs_made w (.int .i64 0) n 2)⟩, Nat.le_refl _⟩⟩
      have hk := copied_keep (w.alloc (.cells (madeCells #[.int .i64 0] n) 2)) w.heap.size n (fun i => .int .i64 (z i))
      have hk0 := (Keep.refl (fun _ => False) w).alloc (.cells (madeCells #[.int .i64 0] n) 2)
      exact ⟨hk.os.trans hk0.os, hk.tape.trans hk0.tape, hk.output.trans hk0.output, Nat.le_trans hk0.size hk.size, fun i hi _ => (hk.block i (by have := hk0.size; omega) (by omega)).trans (hk0.block i hi (fun x => x))⟩

#print axioms f8_any
end Go.Proofs.Qxb6605221aMods.Blw
