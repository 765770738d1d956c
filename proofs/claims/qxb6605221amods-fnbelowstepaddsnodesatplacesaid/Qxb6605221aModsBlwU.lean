/-
  '(numberIndex).below' beyond the values; 'ZZBelow'.
-/
import Derived.Test.Qxb6605221aModsBlwT
namespace Go.Proofs.Qxb6605221aMods.Blw
open Go.RowKit Go.Deep Cut
set_option linter.unusedVariables false

theorem info41 : (Trym.prog.info? 41).map (fun i => (i.zero, i.size, i.bytes)) = some (some (.slice none 0 0), 1, 24) := by kernel_rfl

structure Post16h (w : World) (n : Nat) (nd : Nat → Nat) (e : Ending) (w' : World) : Prop where
  out : ∃ (O : Nat), e = .returned (.slice (some ⟨O, 0, none⟩) n n) ∧ Keep (fun _ => False) w w' ∧ w'.rowIs O 31 n (fun i => .int .u64 (nd i))

set_option maxHeartbeats 1000000 in
theorem f16_hi (a0 a1 a2 : Option Addr) (n v m place g0 : Nat) (nd : Nat → Nat) (w : World) (hn : n ≤ 131072) (hv : v ≤ 131072) (hm : m ≤ 65536) (hp : v ≤ place) (hp2 : place ≤ 9223372036854775807)
    (hN : 0 < n → a0 = some ⟨g0, 0, none⟩ ∧ w.rowIs g0 31 n (fun i => .int .u64 (nd i))) :
    Calls Trym.prog 16 #[.agg #[.slice a0 n n, .slice a1 v v, .slice a2 m m], .int .i64 place] w fun e w' => Post16h w n nd e w' := by
  by_cases h0 : n = 0
  · subst h0
    have hmk := run_make_row' (P := Trym.prog) 41 31 (.int .u64 0) 8 Trym.underlying41 info31 rfl .i64 .i64 0 (by omega) (by omega)
    simp only [Int.natCast_zero] at hmk
    have hcp : ∀ (W : World) (ty : TypeId) (d s : Option Addr) (dc sc : Nat), (Builtin.copy_ #[41, 41] ty #[.slice d 0 dc, .slice s 0 sc]).run Trym.prog W = .ok (goInt 0) W := fun W ty d s dc sc => run_copy_none W _ _ _ _ d s 0 dc 0 sc Trym.underlying41 size31 (by simp)
    go_enter Trym.func16, Trym.ntmps16
    go_wp2
    go_ret
    refine ⟨w.heap.size + 1, rfl, ((Keep.refl _ w).alloc _).alloc _, ?_⟩
    have h := World.rowIs_made (w.alloc (.cells #[.slice a0 0 0, .slice a1 v v, .slice a2 m m] 43)) (.int .u64 0) 0 31
    rw [nblk_alloc] at h
    exact h.congr (fun i hi => absurd hi (Nat.not_lt_zero _))
  · obtain ⟨rfl, hNr⟩ := hN (by omega)
    have hmk := run_make_row' (P := Trym.prog) 41 31 (.int .u64 0) 8 Trym.underlying41 info31 rfl .i64 .i64 n (by omega) (by omega)
    have hg : ((w.alloc (.cells #[.slice (some ⟨g0, 0, none⟩) n n, .slice a1 v v, .slice a2 m m] 43)).alloc (.cells (madeCells #[.int .u64 0] n) 31)).rowIs (w.heap.size + 1) 31 n (fun _ => .int .u64 0) := by
      have h := World.rowIs_made (w.alloc (.cells #[.slice (some ⟨g0, 0, none⟩) n n, .slice a1 v v, .slice a2 m m] 43)) (.int .u64 0) n 31
      rw [nblk_alloc] at h
      exact h
    have hcp := fun ty => run_copied ((w.alloc (.cells #[.slice (some ⟨g0, 0, none⟩) n n, .slice a1 v v, .slice a2 m m] 43)).alloc (.cells (madeCells #[.int .u64 0] n) 31)) 41 31 ty (w.heap.size + 1) n n g0 0 n 31 (fun i => .int .u64 (nd i)) _ Trym.underlying41 size31 hg
      (fun i hi => by rw [show (0 : Nat) + i = i from Nat.zero_add i]; exact ((hNr.alloc _).alloc _).cell hi) (fun i => rfl)
    have HG : Hid _ := hg
    clear hg
    go_enter Trym.func16, Trym.ntmps16
    go_wp2
    go_ret
    refine ⟨w.heap.size + 1, rfl, ?_, copied_row HG.out⟩
    have hk := copied_keep ((w.alloc (.cells #[.slice (some ⟨g0, 0, none⟩) n n, .slice a1 v v, .slice a2 m m] 43)).alloc (.cells (madeCells #[.int .u64 0] n) 31)) (w.heap.size + 1) n (fun i => .int .u64 (nd i))
    have hk0 := ((Keep.refl (fun _ => False) w).alloc (.cells #[.slice (some ⟨g0, 0, none⟩) n n, .slice a1 v v, .slice a2 m m] 43)).alloc (.cells (madeCells #[.int .u64 0] n) 31)
    exact ⟨hk.os.trans hk0.os, hk.tape.trans hk0.tape, hk.output.trans hk0.output, Nat.le_trans hk0.size hk.size, fun i hi _ => (hk.block i (by have := hk0.size; omega) (by omega)).trans (hk0.block i hi (fun x => x))⟩

/-- What 'below' hands back. -/
def Bits (nd : Nat → Nat) (x : Nat → Nat → Nat) (n v m place : Nat) (og : Nat → Nat) : Prop :=
  ∀ i, i < n → ∀ k, k < 64 → (og i).testBit k = ((nd i).testBit k && (decide (v ≤ place) || decide (S (rk x i k) m < place)))

structure Post10 (w : World) (n v m place : Nat) (nd : Nat → Nat) (x : Nat → Nat → Nat) (e : Ending) (w' : World) : Prop where
  out : ∃ (O : Nat) (og : Nat → Nat), e = .returned (.slice (some ⟨O, 0, none⟩) n n) ∧ Keep (fun _ => False) w w' ∧ w'.rowIs O 31 n (fun i => .int .u64 (og i)) ∧ (∀ i, og i < 18446744073709551616) ∧ Bits nd x n v m place og

theorem f16_any (a0 a1 a2 : Option Addr) (n v m place G g0 : Nat) (nd : Nat → Nat) (V : Nat → Option Addr) (L B : Nat → Nat) (x : Nat → Nat → Nat) (w : World) (hn : n ≤ 131072) (hv : v ≤ 131072) (hm : m ≤ 65536) (hp2 : place ≤ 9223372036854775807) (hpm : place < v → place < 2 ^ m)
    (hN : 0 < n → a0 = some ⟨g0, 0, none⟩ ∧ w.rowIs g0 31 n (fun i => .int .u64 (nd i))) (hnd : ∀ i, nd i < 18446744073709551616) (hW : Words w 41 a2 m n G V L B x) :
    Calls Trym.prog 16 #[.agg #[.slice a0 n n, .slice a1 v v, .slice a2 m m], .int .i64 place] w fun e w' => Post10 w n v m place nd x e w' := by
  by_cases hp : place < v
  · refine (f16_lo a0 a1 a2 n v m place G g0 nd V L B x w hn hv hm hp (hpm hp) hN hnd hW).mono fun e w' h => ?_
    obtain ⟨O, og, he, hk, hr, hb, hd⟩ := h.out
    exact ⟨O, og, he, hk, hr, hb, fun i hi k hk => by rw [hd i hi k hk, show decide (v ≤ place) = false from by simp; omega]; simp⟩
  · refine (f16_hi a0 a1 a2 n v m place g0 nd w hn hv hm (by omega) hp2 hN).mono fun e w' h => ?_
    obtain ⟨O, he, hk, hr⟩ := h.out
    exact ⟨O, nd, he, hk, hr, hnd, fun i hi k hk => by rw [show decide (v ≤ place) = true from by simp; omega]; simp⟩

/-- k rows are handed over. -/
structure Handing (w wr : World) (m k : Nat) (V : Nat → Option Addr) (L : Nat → Nat) : Prop where
  keep : Keep (fun _ => False) w wr
  row : wr.rowIs w.heap.size 41 m (fun b => if b < k then .slice (V b) (L b) (L b) else .slice none 0 0)

theorem handing_step {w wr : World} {m k : Nat} {V : Nat → Option Addr} {L : Nat → Nat} (h : Handing w wr m k V L) : Handing w (wr.setCell ⟨w.heap.size, k, none⟩ (.slice (V k) (L k) (L k))) m (k + 1) V L :=
  ⟨⟨h.keep.os, h.keep.tape, h.keep.output, by rw [nblk_setCell]; exact h.keep.size, fun i hi hn => by rw [blk_setCell_other _ _ _ _ (by show i ≠ w.heap.size; omega)]; exact h.keep.block i hi hn⟩,
    (h.row.set k _).congr (fun i _ => set_more (v := fun b => .slice (V b) (L b) (L b)) (g := fun _ => .slice none 0 0))⟩

set_option maxHeartbeats 1000000 in
theorem f10_any (a0 a1 a2 : Option Addr) (n v m place G g0 : Nat) (nd : Nat → Nat) (V : Nat → Option Addr) (L B : Nat → Nat) (x : Nat → Nat → Nat) (w : World) (hn : n ≤ 131072) (hv : v ≤ 131072) (hm : m ≤ 65536) (hp2 : place ≤ 9223372036854775807) (hpm : place < v → place < 2 ^ m)
    (hN : 0 < n → a0 = some ⟨g0, 0, none⟩ ∧ w.rowIs g0 31 n (fun i => .int .u64 (nd i))) (hnd : ∀ i, nd i < 18446744073709551616) (hW : Words w 22 a2 m n G V L B x) :
    Calls Trym.prog 10 #[.slice a0 n n, .slice a1 v v, .slice a2 m m, .int .i64 place] w fun e w' => Post10 w n v m place nd x e w' := by
  by_cases h0 : m = 0
  · subst h0
    have hmk := run_make_row' (P := Trym.prog) 40 41 (.slice none 0 0) 24 Trym.underlying40 info41 rfl .i64 .i64 0 (by omega) (by omega)
    simp only [Int.natCast_zero] at hmk
    go_enter Trym.func10, Trym.ntmps10
    go_wp2
    refine wp_loop_rounds 1 ?_
    rw [rounds_succ]
    go_wp2_with fail
    refine (f16_any a0 a1 _ n v 0 place w.heap.size g0 nd (fun _ => none) (fun _ => 0) (fun _ => 0) x _ hn hv hm hp2 hpm (fun h => ⟨(hN h).1, (hN h).2.alloc _⟩) hnd ⟨by omega, fun b hb => absurd hb (Nat.not_lt_zero _), hW.bd⟩).mono ?_
    rintro e w' ⟨O, og, rfl, hk, hr, hb, hd⟩
    go_wp2
    go_ret
    exact ⟨O, og, rfl, ((Keep.refl _ w).alloc _).trans hk, hr, hb, hd⟩
  · obtain ⟨rfl, ht⟩ := hW.top (by omega)
    have hmk := run_make_row' (P := Trym.prog) 40 41 (.slice none 0 0) 24 Trym.underlying40 info41 rfl .i64 .i64 m (by omega) (by omega)
    go_enter Trym.func10, Trym.ntmps10
    go_wp2
    clear hmk
    go_loopw [16] (fun i wr => ∃ k : Nat, k ≤ m ∧ i = .int .i64 k ∧ Handing w wr m k V L) (fun i _ => m - (intOf i).toNat)
    case atStart => exact ⟨0, Nat.zero_le _, rfl, ⟨(Keep.refl _ _).alloc _, (World.rowIs_made w _ m 41).congr (fun i _ => by simp)⟩⟩
    case round =>
      obtain ⟨k, hk, rfl, hH⟩ := hrel
      by_cases hlt : k < m
      · have hc : wr.cell? ⟨G, k, none⟩ = some (.slice (V k) (L k) (L k)) := (hH.keep.row ht (fun x => x)).cell hlt
        have hst : wr.cell? ⟨w.heap.size, k, none⟩ = some (.slice none 0 0) := by have := hH.row.cell hlt; simpa using this
        have hfr : wr.frozen? ⟨w.heap.size, k, none⟩ = false := hH.row.frozen k
        go_wp2
        go_roundw
        case rel => exact ⟨k + 1, by omega, by go_num, handing_step hH⟩
        case measure => simp [intOf]; omega
      · have e : k = m := by omega
        subst e
        go_wp2_with fail
        refine (f16_any a0 a1 _ n v k place w.heap.size g0 nd V L B x _ hn hv hm hp2 hpm (fun h => ⟨(hN h).1, hH.keep.row (hN h).2 (fun x => x)⟩) hnd ⟨fun _ => ⟨rfl, hH.row.congr (fun b hb => by rw [if_pos hb])⟩, (hW.keep hH.keep (fun _ _ x => x)).rows, hW.bd⟩).mono ?_
        rintro e w' ⟨O, og, rfl, hk, hr, hb, hd⟩
        go_wp2
        go_ret
        exact ⟨O, og, rfl, hH.keep.trans hk, hr, hb, hd⟩
#print axioms f10_any
end Go.Proofs.Qxb6605221aMods.Blw
