/-
  Small laws on worlds for 'cutRows': rows of the call's own, a row cleared, what is kept.
-/
import Derived.Test.Qxb6605221aModsRows
import Derived.WalkKit
import Derived.WalkSpells
import Derived.WalkLawsBesides
import Derived.Deep.OwnRows
import Derived.Deep.QuietTactic
import Derived.BigQuiet
import Derived.Lib.SliceRun
namespace Go.Proofs.Qxb6605221aMods.Cut
open Go.RowKit Go.Deep

theorem info2 : (Trym.prog.info? 2).map (fun i => (i.zero, i.size, i.bytes)) = some (some (.int .i64 0), 1, 8) := by kernel_rfl
theorem info23 : (Trym.prog.info? 23).map (fun i => (i.zero, i.size, i.bytes)) = some (some (.slice none 0 0), 1, 24) := by kernel_rfl
theorem zero2 (w : World) : (zeroValue 2).run Trym.prog w = .ok (.int .i64 0) w := by kernel_rfl

/-- The blocks outside S are as they were. -/
structure Keep (S : Nat → Prop) (w w' : World) : Prop where
  os : w'.os = w.os
  tape : w'.tape = w.tape
  output : w'.output = w.output
  size : w.heap.size ≤ w'.heap.size
  block : ∀ k, k < w.heap.size → ¬ S k → w'.heap[k]? = w.heap[k]?

namespace Keep
variable {S : Nat → Prop} {w w' w'' : World}
theorem refl (S : Nat → Prop) (w : World) : Keep S w w := ⟨rfl, rfl, rfl, Nat.le_refl _, fun _ _ _ => rfl⟩
theorem trans (h : Keep S w w') (k : Keep S w' w'') : Keep S w w'' :=
  ⟨k.os.trans h.os, k.tape.trans h.tape, k.output.trans h.output, Nat.le_trans h.size k.size, fun i hi hs => (k.block i (by have := h.size; omega) hs).trans (h.block i hi hs)⟩
theorem mono {S' : Nat → Prop} (h : Keep S w w') (hs : ∀ k, S k → S' k) : Keep S' w w' := ⟨h.os, h.tape, h.output, h.size, fun k hk hn => h.block k hk (fun x => hn (hs k x))⟩
theorem alloc (h : Keep S w w') (o : Obj) : Keep S w (w'.alloc o) :=
  ⟨h.os, h.tape, h.output, by rw [nblk_alloc]; have := h.size; omega, fun k hk hn => by rw [blk_alloc_lt _ _ _ (by have := h.size; omega)]; exact h.block k hk hn⟩
theorem drewN (h : Keep S w w') (n : Nat) : Keep S w (w'.drewN n) := ⟨h.os, h.tape, h.output, h.size, h.block⟩
theorem setCell (h : Keep S w w') {p : Addr} (hp : S p.block) (v : Value) : Keep S w (w'.setCell p v) :=
  ⟨h.os, h.tape, h.output, by rw [nblk_setCell]; exact h.size, fun k hk hn => by
    rw [blk_setCell_other _ _ _ _ (fun e => hn (by rw [e]; exact hp))]; exact h.block k hk hn⟩
theorem row (h : Keep S w w') {b : Nat} {t : TypeId} {n : Nat} {f : Nat → Value} (hr : w.rowIs b t n f) (hb : ¬ S b) : w'.rowIs b t n f := hr.of_block (h.block b hr.lt hb)
theorem below (h : Keep S w w') {B : Nat} (hB : B ≤ w.heap.size) (hs : ∀ k, S k → B ≤ k) : Below B w w' :=
  ⟨h.os, h.tape, h.output, h.size, fun k hk => h.block k (by omega) (fun x => by have := hs k x; omega)⟩
end Keep

theorem row_drewN {w : World} {b : Nat} {t : TypeId} {n : Nat} {f : Nat → Value} (h : w.rowIs b t n f) (q : Nat) : (w.drewN q).rowIs b t n f := h

/-- A row cleared up to s. -/
def cleared (w : World) (A s : Nat) : World := w.setCells A 0 (List.replicate s (.int .i64 0))

theorem run_clear (w : World) (A c s : Nat) (f : Nat → Value) (hr : w.rowIs A 2 c f) (h0 : 0 < s) (hs : s ≤ c) (al : Nat) (ty : TypeId) :
    (Builtin.clear_ #[23] ty #[.slice (some ⟨A, 0, none⟩) s al]).run Trym.prog w = .ok (.tuple #[]) (cleared w A s) :=
  Lib.run_clear_slice w 23 2 ty (.int .i64 0) Trym.underlying23 zero2 rfl rfl A 0 s al h0
    (fun j hj => by rw [show (0 : Nat) + j = j from Nat.zero_add j, hr.cell (by omega)]; rfl) (fun j _ => hr.frozen _)

theorem setCells_keep (A : Nat) : ∀ (vs : List Value) (o : Nat) (w : World), Keep (fun b => b = A) w (w.setCells A o vs)
  | [], _, w => Keep.refl _ w
  | v :: vs, o, w => ((Keep.refl (fun b => b = A) w).setCell (p := ⟨A, o, none⟩) rfl v).trans (setCells_keep A vs (o + 1) _)

theorem setCells_size (A : Nat) : ∀ (vs : List Value) (o : Nat) (w : World), (w.setCells A o vs).heap.size = w.heap.size
  | [], _, _ => rfl
  | v :: vs, o, w => (setCells_size A vs (o + 1) (w.setCell ⟨A, o, none⟩ v)).trans (nblk_setCell _ _ _)

theorem setCells_row (A : Nat) (t : TypeId) (c : Nat) (z : Value) : ∀ (s o : Nat) (w : World) (f : Nat → Value), w.rowIs A t c f → (w.setCells A o (List.replicate s z)).rowIs A t c (fun i => if o ≤ i ∧ i < o + s then z else f i)
  | 0, o, w, f, h => h.congr (fun i _ => by rw [if_neg (by omega)])
  | s + 1, o, w, f, h => (setCells_row A t c z s (o + 1) _ _ (h.set o z)).congr (fun i _ => by
      by_cases e : i = o
      · subst e; simp
      · by_cases h2 : o + 1 ≤ i ∧ i < o + 1 + s
        · rw [if_pos h2, if_pos (by omega)]
        · rw [if_neg h2, if_neg e, if_neg (by omega)])

theorem cleared_keep (w : World) (A s : Nat) : Keep (fun b => b = A) w (cleared w A s) := setCells_keep _ _ _ _
theorem cleared_size (w : World) (A s : Nat) : (cleared w A s).heap.size = w.heap.size := setCells_size _ _ _ _
theorem cleared_row {w : World} {A c : Nat} {f : Nat → Value} (h : w.rowIs A 2 c f) (s : Nat) : (cleared w A s).rowIs A 2 c (fun i => if i < s then .int .i64 0 else f i) :=
  (setCells_row A 2 c _ s 0 w f h).congr (fun i _ => by
    by_cases e : i < s
    · rw [if_pos e, if_pos (by omega)]
    · rw [if_neg e, if_neg (by omega)])

/-- The rows are being cut: k of them lie. -/
structure Mid (w wr : World) (A R ca cr s wd k : Nat) (f g : Nat → Value) : Prop where
  keep : Keep (fun b => b = A ∨ b = R) w wr
  all : wr.rowIs A 2 ca (fun i => if i < s then .int .i64 0 else f i)
  rows : wr.rowIs R 23 cr (fun i => if i < k then .slice (some ⟨A, i * wd, none⟩) wd wd else g i)

theorem set_more {k i : Nat} {v g : Nat → Value} : (if i = k then v k else (if i < k then v i else g i)) = if i < k + 1 then v i else g i := by
  by_cases e : i = k
  · subst e; simp
  · rw [if_neg e]
    by_cases hlt : i < k
    · rw [if_pos hlt, if_pos (by omega)]
    · rw [if_neg hlt, if_neg (by omega)]

theorem mid_step {w wr : World} {A R ca cr s wd k : Nat} {f g : Nat → Value} (h : Mid w wr A R ca cr s wd k f g) (hne : A ≠ R) :
    Mid w (wr.setCell ⟨R, k, none⟩ (.slice (some ⟨A, k * wd, none⟩) wd wd)) A R ca cr s wd (k + 1) f g :=
  ⟨h.keep.setCell (.inr rfl) _, h.all.setOther (by exact hne) _, (h.rows.set k _).congr (fun i _ => set_more (v := fun i => .slice (some ⟨A, i * wd, none⟩) wd wd))⟩

#print axioms mid_step
end Go.Proofs.Qxb6605221aMods.Cut
