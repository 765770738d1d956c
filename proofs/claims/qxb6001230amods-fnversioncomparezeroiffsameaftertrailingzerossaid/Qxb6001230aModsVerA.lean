/-
  The callees of 'FnVersionCompareZeroIffSameAfterTrailingZeros': the copy, the trimmed length, the comparison.
-/
import Derived.Test.Qxb6001230aModsRows
import Derived.WalkKit
import Derived.WalkSpells
import Derived.WalkLawsBesides
import Derived.Deep.OwnRows
import Derived.Deep.QuietTactic
import Derived.BigQuiet
namespace Go.Proofs.Qxb6001230aMods.Ver
open Go.RowKit Go.Deep
set_option linter.unusedVariables false

theorem info3 : (Trym.prog.info? 3).map (fun i => (i.zero, i.size, i.bytes)) = some (some (.int .i64 0), 1, 8) := by kernel_rfl

structure PostB (e : Ending) : Prop where
  out : ∃ r : Bool, e = .returned (.bool r)

set_option maxHeartbeats 400000 in
theorem f19_any (a0 a1 : Option Addr) (n m c0 c1 : Nat) (w : World) (hn : n ≤ 9223372036854775807) (hm : m ≤ 9223372036854775807) :
    Calls Trym.prog 19 #[.slice a0 n c0, .slice a1 m c1] w fun e w' => PostB e ∧ w' = w := by
  by_cases h1 : 1048576 < n
  · go_enter Trym.func19, Trym.ntmps19
    go_wp2
    go_ret
    exact ⟨⟨_, rfl⟩, rfl⟩
  by_cases h2 : 1048576 < m
  · go_enter Trym.func19, Trym.ntmps19
    go_wp2
    go_ret
    exact ⟨⟨_, rfl⟩, rfl⟩
  by_cases h3 : 1048576 < n + m
  · go_enter Trym.func19, Trym.ntmps19
    go_wp2
    go_ret
    exact ⟨⟨_, rfl⟩, rfl⟩
  · go_enter Trym.func19, Trym.ntmps19
    go_wp2
    go_ret
    exact ⟨⟨_, rfl⟩, rfl⟩

/-- A row of numbers. -/
def rw3 (z : Nat → Int) : Nat → Value := fun i => .int .i64 (z i)

/-- A new row of n numbers is being filled by z: the first k are laid; nothing old has turned. -/
structure Filling (w wr : World) (n k : Nat) (z : Nat → Int) : Prop where
  below : Below w.heap.size w wr
  size : wr.heap.size = w.heap.size + 1
  row : wr.rowIs w.heap.size 3 n (fun i => if i < k then .int .i64 (z i) else .int .i64 0)

theorem fill_start (w : World) (n : Nat) (f : Nat → Int) : Filling w (w.alloc (.cells (madeCells #[.int .i64 0] n) 3)) n 0 f :=
  ⟨(Below.refl _ _).alloc (Nat.le_refl _) _, by simp, (World.rowIs_made w _ n 3).congr (fun i _ => by simp)⟩

theorem fill_step {w wr : World} {n k : Nat} {f : Nat → Int} (h : Filling w wr n k f) : Filling w (wr.setCell ⟨w.heap.size, k, none⟩ (.int .i64 (f k))) n (k + 1) f := by
  refine ⟨h.below.setCell (Nat.le_refl _) _, by simp [h.size], (h.row.set k _).congr (fun i _ => ?_)⟩
  by_cases e : i = k
  · subst e; simp
  · rw [if_neg e]
    by_cases hlt : i < k
    · rw [if_pos hlt, if_pos (by omega)]
    · rw [if_neg hlt, if_neg (by omega)]

theorem fill_done {w wr : World} {n : Nat} {f : Nat → Int} (h : Filling w wr n n f) : wr.rowIs w.heap.size 3 n (rw3 f) :=
  h.row.congr (fun i hi => by rw [if_pos hi]; rfl)

/-- A copy, in new memory: nil of nil; else a row of its own. -/
structure Copied (w : World) (n : Nat) (z : Nat → Int) (e : Ending) (w' : World) : Prop where
  out : Below w.heap.size w w' ∧ ((n = 0 ∧ e = .returned (.slice none 0 0)) ∨ ∃ g, e = .returned (.slice (some ⟨g, 0, none⟩) n n) ∧ w.heap.size ≤ g ∧ w'.rowIs g 3 n (rw3 z))

set_option maxHeartbeats 400000 in
theorem f17_nil (z : Nat → Int) (w : World) : Calls Trym.prog 17 #[.slice none 0 0] w fun e w' => Copied w 0 z e w' := by
  have hnil : ∀ (w : World) (a : Option Addr) (n c : Nat), (binOp .eql 29 (.slice a n c) (.slice none 0 0)).run Trym.prog w = .ok (.bool a.isNone) w := fun w a n c => Lib.run_eql_slice_nil w _ _ a n c 0 0 Trym.underlying29
  go_enter Trym.func17, Trym.ntmps17
  go_wp2
  go_ret
  exact ⟨Below.refl _ _, .inl ⟨rfl, rfl⟩⟩

set_option maxHeartbeats 400000 in
theorem f17_empty (x : Addr) (cap : Nat) (z : Nat → Int) (w : World) : Calls Trym.prog 17 #[.slice (some x) 0 cap] w fun e w' => Copied w 0 z e w' := by
  have hmk := run_make_row' (P := Trym.prog) 29 3 (.int .i64 0) 8 Trym.underlying29 info3 rfl .i64 .i64 0 (by omega) (by omega)
  simp only [Int.natCast_zero] at hmk
  have hnil : ∀ (w : World) (a : Option Addr) (n c : Nat), (binOp .eql 29 (.slice a n c) (.slice none 0 0)).run Trym.prog w = .ok (.bool a.isNone) w := fun w a n c => Lib.run_eql_slice_nil w _ _ a n c 0 0 Trym.underlying29
  go_enter Trym.func17, Trym.ntmps17
  go_wp2
  refine wp_loop_rounds 1 ?_
  rw [rounds_succ]
  go_wp2
  go_ret
  exact ⟨(Below.refl _ _).alloc (Nat.le_refl _) _, .inr ⟨w.heap.size, rfl, Nat.le_refl _, (World.rowIs_made w _ 0 3).congr (fun i hi => absurd hi (Nat.not_lt_zero _))⟩⟩

set_option maxHeartbeats 400000 in
theorem f17_row (b off n cap : Nat) (z : Nat → Int) (w : World) (hb : b < w.heap.size) (hn : n ≤ 65536) (hc : ∀ i, i < n → w.cell? ⟨b, off + i, none⟩ = some (.int .i64 (z i))) :
    Calls Trym.prog 17 #[.slice (some ⟨b, off, none⟩) n cap] w fun e w' => Copied w n z e w' := by
  have hmk := run_make_row' (P := Trym.prog) 29 3 (.int .i64 0) 8 Trym.underlying29 info3 rfl .i64 .i64 n (by omega) (by omega)
  have hnil : ∀ (w : World) (a : Option Addr) (n c : Nat), (binOp .eql 29 (.slice a n c) (.slice none 0 0)).run Trym.prog w = .ok (.bool a.isNone) w := fun w a n c => Lib.run_eql_slice_nil w _ _ a n c 0 0 Trym.underlying29
  go_enter Trym.func17, Trym.ntmps17
  go_wp2
  go_loopw [4] (fun i wr => ∃ k : Nat, k ≤ n ∧ i = .int .i64 k ∧ Filling w wr n k z) (fun i _ => n - (intOf i).toNat)
  case atStart => exact ⟨0, Nat.zero_le _, rfl, fill_start w n z⟩
  case round =>
    obtain ⟨k, hk, rfl, hF⟩ := hrel
    clear hmk hnil
    by_cases hlt : k < n
    · have hck : wr.cell? ⟨b, off + k, none⟩ = some (.int .i64 (z k)) := (hF.below.cell (p := ⟨b, off + k, none⟩) hb).trans (hc k hlt)
      have hst : wr.cell? ⟨w.heap.size, k, none⟩ = some (.int .i64 0) := by have := hF.row.cell hlt; simpa using this
      have hfr : wr.frozen? ⟨w.heap.size, k, none⟩ = false := hF.row.frozen k
      go_wp2
      go_roundw
      case rel => exact ⟨k + 1, by omega, by go_num, fill_step hF⟩
      case measure => simp [intOf]; omega
    · have e : k = n := by omega
      subst e
      go_wp2
      go_ret
      exact ⟨hF.below, .inr ⟨w.heap.size, rfl, Nat.le_refl _, fill_done hF⟩⟩

/-- What came in. -/
structure Src (w : World) (a : Option Addr) (n : Nat) (z : Nat → Int) : Prop where
  nil : a = none → n = 0
  pos : 0 < n → ∃ b off, a = some ⟨b, off, none⟩ ∧ b < w.heap.size ∧ ∀ i, i < n → w.cell? ⟨b, off + i, none⟩ = some (.int .i64 (z i))

theorem f17_any (a : Option Addr) (n cap : Nat) (z : Nat → Int) (w : World) (hn : n ≤ 65536) (hS : Src w a n z) (hcap : a = none → cap = 0) : Calls Trym.prog 17 #[.slice a n cap] w fun e w' => Copied w n z e w' := by
  cases a with
  | none =>
    obtain rfl := hS.nil rfl
    obtain rfl := hcap rfl
    exact f17_nil z w
  | some x =>
    by_cases h0 : n = 0
    · subst h0; exact f17_empty x cap z w
    · obtain ⟨b, off, hx, hb, hc⟩ := hS.pos (by omega)
      obtain rfl : x = ⟨b, off, none⟩ := Option.some.inj hx
      exact f17_row b off n cap z w hb hn hc

/-- k is the length of z, n long, without its trailing zeros. -/
def Trim (z : Nat → Int) (n k : Nat) : Prop := k ≤ n ∧ (∀ i, k ≤ i → i < n → z i = 0) ∧ (0 < k → z (k - 1) ≠ 0)

structure Post20 (z : Nat → Int) (n : Nat) (e : Ending) : Prop where
  out : ∃ k : Nat, e = .returned (.int .i64 k) ∧ Trim z n k

set_option maxHeartbeats 400000 in
theorem f20_nil (z : Nat → Int) (w : World) : Calls Trym.prog 20 #[.slice none 0 0] w fun e w' => Post20 z 0 e ∧ w' = w := by
  go_enter Trym.func20, Trym.ntmps20
  go_wp2
  refine wp_loop_rounds 1 ?_
  rw [rounds_succ]
  go_wp2
  go_ret
  exact ⟨⟨0, rfl, Nat.le_refl _, fun i h1 h2 => absurd h2 (Nat.not_lt_zero _), fun h => absurd h (Nat.lt_irrefl _)⟩, rfl⟩

set_option maxHeartbeats 400000 in
theorem f20_row (g n : Nat) (z : Nat → Int) (w : World) (hn : n ≤ 65536) (hr : w.rowIs g 3 n (rw3 z)) : Calls Trym.prog 20 #[.slice (some ⟨g, 0, none⟩) n n] w fun e w' => Post20 z n e ∧ w' = w := by
  go_enter Trym.func20, Trym.ntmps20
  go_wp2
  go_loop [3] (fun i => ∃ k : Nat, k ≤ n ∧ i = .int .i64 k ∧ Hid (∀ i, k ≤ i → i < n → z i = 0)) (fun i => (intOf i).toNat)
  case atStart => exact ⟨n, Nat.le_refl _, rfl, fun i h1 h2 => by omega⟩
  case round =>
    obtain ⟨k, hk, rfl, HZ⟩ := hrel
    by_cases h0 : k = 0
    · subst h0
      go_wp2
      go_ret
      exact ⟨⟨0, rfl, Nat.zero_le _, HZ.out, fun h => absurd h (Nat.lt_irrefl _)⟩, rfl⟩
    · obtain ⟨k', rfl⟩ : ∃ k', k = k' + 1 := ⟨k - 1, by omega⟩
      have hc : w.cell? ⟨g, k', none⟩ = some (.int .i64 (z k')) := hr.cell (by omega)
      by_cases hz : z k' = 0
      · have hz' : (z k' == 0) = true := beq_iff_eq.2 hz
        have HZ' : Hid (z k' = 0) := hz
        clear hz
        go_wp2
        go_round
        case rel => exact ⟨k', by omega, by go_num, fun i h1 h2 => by
          by_cases e : i = k'
          · subst e; exact HZ'.out
          · exact HZ.out i (by omega) h2⟩
        case measure => simp [intOf]
      · have hz' : (z k' == 0) = false := beq_eq_false_iff_ne.2 hz
        go_wp2
        go_ret
        exact ⟨⟨k' + 1, rfl, hk, HZ.out, fun _ => by simpa using hz⟩, rfl⟩
#print axioms f20_row
end Go.Proofs.Qxb6001230aMods.Ver
