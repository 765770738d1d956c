/-
  'zzCloneRanks'.
-/
import Derived.Test.Qxb6605221aModsBlwR
namespace Go.Proofs.Qxb6605221aMods.Blw
open Go.RowKit Go.Deep Cut
set_option linter.unusedVariables false

theorem info22 : (Trym.prog.info? 22).map (fun i => (i.zero, i.size, i.bytes)) = some (some (.slice none 0 0), 1, 24) := by kernel_rfl

/-- The ranks that came in. -/
structure SrcR (w : World) (a : Option Addr) (m : Nat) (A : Nat → Option Addr) (L C : Nat → Nat) (x : Nat → Nat → Nat) : Prop where
  pos : 0 < m → ∃ b off, a = some ⟨b, off, none⟩ ∧ b < w.heap.size ∧ ∀ i, i < m → w.cell? ⟨b, off + i, none⟩ = some (.slice (A i) (L i) (C i))
  rows : ∀ b, b < m → Src w (A b) (L b) (fun i => .int .u64 (x b i)) ∧ (A b = none → L b = 0)

theorem Src.keep {w w' : World} {a : Option Addr} {n : Nat} {f : Nat → Value} (h : Src w a n f) (hk : Keep (fun _ => False) w w') : Src w' a n f :=
  ⟨fun hn => by
    obtain ⟨b, off, e, hb, hc⟩ := h.pos hn
    exact ⟨b, off, e, by have := hk.size; omega, fun i hi => by rw [World.cell?_of_block (w := w) (hk.block b hb (fun x => x))]; exact hc i hi⟩⟩

theorem SrcR.keep {w w' : World} {a : Option Addr} {m : Nat} {A : Nat → Option Addr} {L C : Nat → Nat} {x : Nat → Nat → Nat} (h : SrcR w a m A L C x) (hk : Keep (fun _ => False) w w') : SrcR w' a m A L C x :=
  ⟨fun hn => by
    obtain ⟨b, off, e, hb, hc⟩ := h.pos hn
    exact ⟨b, off, e, by have := hk.size; omega, fun i hi => by rw [World.cell?_of_block (w := w) (hk.block b hb (fun x => x))]; exact hc i hi⟩, fun b hb => ⟨(h.rows b hb).1.keep hk, (h.rows b hb).2⟩⟩

/-- k rows are copied. -/
structure Ranking (w wr : World) (G m k : Nat) (L : Nat → Nat) (x : Nat → Nat → Nat) (V : Nat → Option Addr) (B : Nat → Nat) : Prop where
  keep : Keep (fun _ => False) w wr
  new : w.heap.size ≤ G
  lt : G < wr.heap.size
  top : wr.rowIs G 22 m (fun b => if b < k then .slice (V b) (L b) (L b) else .slice none 0 0)
  rows : ∀ b, b < k → 0 < L b → V b = some ⟨B b, 0, none⟩ ∧ B b ≠ G ∧ wr.rowIs (B b) 31 (L b) (fun i => .int .u64 (x b i))

theorem ranking_step {w wr w1 : World} {G m k : Nat} {L : Nat → Nat} {x : Nat → Nat → Nat} {V : Nat → Option Addr} {B : Nat → Nat} {a' : Option Addr} {g : Nat} (h : Ranking w wr G m k L x V B)
    (hc : CloneOut wr w1 31 (L k) (fun i => .int .u64 (x k i)) a' g) :
    Ranking w (w1.setCell ⟨G, k, none⟩ (.slice a' (L k) (L k))) G m (k + 1) L x (fun b => if b = k then a' else V b) (fun b => if b = k then g else B b) := by
  have hk2 : Keep (fun _ => False) w w1 := h.keep.trans hc.keep
  refine ⟨⟨hk2.os, hk2.tape, hk2.output, by rw [nblk_setCell]; exact hk2.size, fun i hi hn => by
      rw [blk_setCell_other _ _ _ _ (by have := h.new; show i ≠ G; omega)]; exact hk2.block i hi hn⟩, h.new, by rw [nblk_setCell]; have := h.lt; have := hc.keep.size; omega, ?_, ?_⟩
  · refine ((hc.keep.row h.top (fun x => x)).set k _).congr (fun b _ => ?_)
    by_cases e : b = k
    · subst e; simp
    · rw [if_neg e]
      by_cases hlt : b < k
      · rw [if_pos hlt, if_pos (by omega), if_neg e]
      · rw [if_neg hlt, if_neg (by omega)]
  · intro b hb hl
    by_cases e : b = k
    · subst e
      obtain ⟨q1, q2⟩ := hc.row hl
      simp only [if_true]
      exact ⟨q1, by have := hc.new; have := h.lt; omega, q2.setOther (by have := hc.new; have := h.lt; show g ≠ G; omega) _⟩
    · obtain ⟨q1, q2, q3⟩ := h.rows b (by omega) hl
      simp only [if_neg e]
      exact ⟨q1, q2, (hc.keep.row q3 (fun x => x)).setOther (by exact q2) _⟩

structure Post9 (w : World) (m n : Nat) (L : Nat → Nat) (x : Nat → Nat → Nat) (e : Ending) (w' : World) : Prop where
  out : ∃ a' G V B, e = .returned (.slice a' m m) ∧ Keep (fun _ => False) w w' ∧ Words w' 22 a' m n G V L B x

set_option maxHeartbeats 1000000 in
theorem f9_any (a : Option Addr) (m cap n : Nat) (A : Nat → Option Addr) (L C : Nat → Nat) (x : Nat → Nat → Nat) (w : World) (hm : m ≤ 65536) (hS : SrcR w a m A L C x) (hnil : a = none → m = 0)
    (hL : ∀ b, b < m → n ≤ L b ∧ L b ≤ 131072) (hx : ∀ b i, x b i < 18446744073709551616) :
    Calls Trym.prog 9 #[.slice a m cap] w fun e w' => Post9 w m n L x e w' := by
  have hmk := run_make_row' (P := Trym.prog) 24 22 (.slice none 0 0) 24 Trym.underlying24 info22 rfl .i64 .i64 m (by omega) (by omega)
  have heq : ∀ (w : World) (a : Option Addr) (n c : Nat), (binOp .eql 24 (.slice a n c) (.slice none 0 0)).run Trym.prog w = .ok (.bool a.isNone) w := fun w a n c => Lib.run_eql_slice_nil w _ _ a n c 0 0 Trym.underlying24
  cases a with
  | none =>
    obtain rfl := hnil rfl
    go_enter Trym.func9, Trym.ntmps9
    go_wp2
    go_ret
    exact ⟨none, w.heap.size, fun _ => none, fun _ => 0, rfl, Keep.refl _ _, ⟨by omega, fun b hb => absurd hb (Nat.not_lt_zero _), hx⟩⟩
  | some y =>
    clear hnil
    by_cases h0 : m = 0
    · subst h0
      simp only [Int.natCast_zero] at hmk
      go_enter Trym.func9, Trym.ntmps9
      go_wp2
      refine wp_loop_rounds 1 ?_
      rw [rounds_succ]
      go_wp2
      go_ret
      exact ⟨_, w.heap.size, fun _ => none, fun _ => 0, rfl, (Keep.refl _ _).alloc _, ⟨by omega, fun b hb => absurd hb (Nat.not_lt_zero _), hx⟩⟩
    · obtain ⟨bb, off, hy, hbb, hc⟩ := hS.pos (by omega)
      obtain rfl : y = ⟨bb, off, none⟩ := Option.some.inj hy
      clear hy
      go_enter Trym.func9, Trym.ntmps9
      go_wp2
      clear hmk heq
      go_loopw [4] (fun i wr => ∃ (k : Nat) (V : Nat → Option Addr) (B : Nat → Nat), k ≤ m ∧ i = .int .i64 k ∧ Ranking w wr w.heap.size m k L x V B) (fun i _ => m - (intOf i).toNat)
      case atStart => exact ⟨0, fun _ => none, fun _ => 0, Nat.zero_le _, rfl, ⟨(Keep.refl _ _).alloc _, Nat.le_refl _, by simp, (World.rowIs_made w _ m 22).congr (fun i _ => by simp), fun b hb => absurd hb (Nat.not_lt_zero _)⟩⟩
      case round =>
        obtain ⟨k, V, B, hk, rfl, hR⟩ := hrel
        by_cases hlt : k < m
        · have hck : wr.cell? ⟨bb, off + k, none⟩ = some (.slice (A k) (L k) (C k)) := by rw [World.cell?_of_block (w := w) (hR.keep.block bb hbb (fun x => x))]; exact hc k hlt
          obtain ⟨hs1, hs2⟩ := hS.rows k hlt
          have hlk := (hL k hlt).2
          go_wp2_with fail
          refine (f7_any (A k) (L k) (C k) (fun i => (x k i : Nat)) wr (by omega) (hs1.keep hR.keep) hs2).mono ?_
          rintro e w1 ⟨a', g, rfl, hC⟩
          have hst : w1.cell? ⟨w.heap.size, k, none⟩ = some (.slice none 0 0) := by
            have := (hC.keep.row hR.top (fun x => x)).cell (i := k) hlt; rw [this, if_neg (by omega)]
          have hfr : w1.frozen? ⟨w.heap.size, k, none⟩ = false := (hC.keep.row hR.top (fun x => x)).frozen k
          go_wp2
          go_roundw
          case rel => exact ⟨k + 1, _, _, by omega, by go_num, ranking_step hR hC⟩
          case measure => simp [intOf]; omega
        · have e : k = m := by omega
          subst e
          go_wp2
          go_ret
          exact ⟨_, w.heap.size, V, B, rfl, hR.keep, ⟨fun _ => ⟨rfl, hR.top.congr (fun b hb => by rw [if_pos hb])⟩, fun b hb => ⟨(hL b hb).1, (hL b hb).2, fun hl => ⟨(hR.rows b hb hl).1, (hR.rows b hb hl).2.2⟩⟩, hx⟩⟩
#print axioms f9_any
end Go.Proofs.Qxb6605221aMods.Blw
